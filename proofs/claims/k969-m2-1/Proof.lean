import JvmDerived
import JvmDerived.Pilot.@@N@@Statement
import JvmDerived.Pilot.@@N@@Code
set_option linter.unusedVariables false
set_option linter.unusedSimpArgs false
namespace Jvm.RoadKit
open Sem ClassFile Op Lib Jvm.Stand Jvm.Free Jvm.LawKit
section New
variable {p : Program} {l : Launch} {e : Env} {R : Room} {s : State} {m : MethodId} {args : Array Value} {below : List Frame} {meth : Method} {c : Code} {T : State} {locs : List Loc} {cells slots : Nat}
theorem retI (X : Stand p l e R s m args below meth c T locs cells slots) (hx : p.tables.exec = Jvm.exec) {pc : Nat} {Ls : Array Slot} {z : Int32} {rest : List Value} (hret : meth.sig.returnType = some .int) (hd : decode c.code pc = .ok (.ireturn, 1)) {fs : List Frame}
    (hl : ∀ (f : JFrame) (acts : List Action), f.method = m → f.locked = none → f.entered = [] → (doReturn e (T.setTop f) acts (some (.int z))).1 = T.setFrames fs) : Steps p.tables e below (T.setTop (mkF m pc Ls (.int z :: rest))) (T.setFrames fs) := by
  have hm' : T.vm.method? m = some meth := X.method'
  have hn : narrow .int (.int z) = .int z := rfl
  show Steps p.tables e below (T.setTop { method := m, pc := pc, locals := Ls, stack := _ :: rest, locked := none }) _
  jvm_step X.here [X.here.top, hx, hd, hm', hret, hn]
  first | (intro acts; rw [hl _ acts rfl rfl rfl]) | rw [hl _ _ rfl rfl rfl]
  exact Steps.refl _
/-- from here the walk comes to a good end -/
def Go (p : Program) (e : Env) (below : List Frame) (s : State) (Q : Option Value → Heap → List Loc → Prop) (C S : Nat) (T : State) (f : JFrame) : Prop :=
  ∃ s₂ o, Steps p.tables e below (T.setTop f) s₂ ∧ s₂.status = .running ∧ Ended s₂ below o ∧ ∃ v L, o = .returned v ∧ Q v s₂.heap L ∧ FrameEnd s o s₂ L C S
theorem Go.step {Q : Option Value → Heap → List Loc → Prop} {C S : Nat} {T' : State} {f f' : JFrame} (k : ∀ t, Steps p.tables e below (T'.setTop f') t → Steps p.tables e below (T.setTop f) t) (h : Go p e below s Q C S T' f') : Go p e below s Q C S T f := by
  obtain ⟨s₂, o, h1, h2⟩ := h
  exact ⟨s₂, o, k _ h1, h2⟩
theorem Go.cast {Q : Option Value → Heap → List Loc → Prop} {C S : Nat} {f f' : JFrame} (q : f = f') (h : Go p e below s Q C S T f') : Go p e below s Q C S T f := q ▸ h
theorem Go.fin (X : Stand p l e R s m args below meth c T locs cells slots) {Q : Option Value → Heap → List Loc → Prop} {C S : Nat} {f : JFrame} {v : Option Value} (hv : meth.sig.returnType = none → v = none) (hl : meth.locks = false) (hQ : Q v T.heap locs) (hc : cells ≤ C) (hs : slots ≤ S)
    (k : ∀ fs, (∀ (f : JFrame) (acts : List Action), f.method = m → f.locked = none → f.entered = [] → (doReturn e (T.setTop f) acts v).1 = T.setFrames fs) → Steps p.tables e below (T.setTop f) (T.setFrames fs)) : Go p e below s Q C S T f := by
  obtain ⟨fs, hr, hrun, hended, hW, hsame⟩ := X.leave (v := v) hv hl
  exact ⟨_, _, k fs hr, hrun, hended, v, locs, rfl, hQ, ⟨_, rfl⟩, hW, hsame.mono hc hs⟩
theorem own_lrem (x y : Int64) : x - (x / y) * y = x % y := lrem_mod x y
theorem own_irem (x y : Int32) : x - (x / y) * y = x % y := by
  apply Int32.toInt_inj.mp
  have h1 := Int32.le_toInt (x % y)
  have h2 := Int32.toInt_lt (x % y)
  rw [Int32.toInt_sub, Int32.toInt_mul, Int32.toInt_div, Int.bmod_mul_bmod, Int.sub_bmod_bmod, Int.mul_comm (x.toInt.tdiv y.toInt), ← Int.tmod_def, ← Int32.toInt_mod]
  exact Int.bmod_eq_of_le_mul_two (by omega) (by omega)
theorem own_fin {x : Int32} {n : Nat} (h0 : 0 ≤ x.toInt) (h1 : x.toInt < n) (h2 : n ≤ 2147483648) : ∃ k : Fin n, x = Int32.ofNat k.val := by
  refine ⟨⟨x.toInt.toNat, by omega⟩, Int32.toInt_inj.mp ?_⟩
  have q : (x.toInt.toNat).toInt32.toInt = x.toInt.toNat := len_toInt (by omega)
  show x.toInt = (x.toInt.toNat).toInt32.toInt
  rw [q]; omega
theorem own_i2c {x : Int32} (h0 : 0 ≤ x.toInt) (h1 : x.toInt < 65536) : x.toUInt32.toUInt16.toUInt32.toInt32 = x := Int32.toInt_inj.mp (by have := c_i2c x; omega)
theorem own_rem (x y : Int32) (h0 : 0 ≤ x.toInt) : (x % y).toInt = x.toInt % y.toInt := by rw [Int32.toInt_mod, (tr _ _).1 h0]
theorem own_remL (x y : Int64) (h0 : 0 ≤ x.toInt) : (x % y).toInt = x.toInt % y.toInt := by rw [Int64.toInt_mod, (tr _ _).1 h0]
theorem own_div (x y : Int32) (h0 : 0 ≤ x.toInt) (h1 : 0 < y.toInt) : (x / y).toInt = x.toInt / y.toInt := (c_idiv x y _ rfl (fun q => by rw [q] at h1; exact absurd h1 (by decide))).1 h0
theorem own_add {x y : Int32} (h0 : -2147483648 ≤ x.toInt + y.toInt) (h1 : x.toInt + y.toInt < 2147483648) : (x + y).toInt = x.toInt + y.toInt := by have := c_iadd x y; have := rng32 (x + y); omega
theorem own_sub {x y : Int32} (h0 : -2147483648 ≤ x.toInt - y.toInt) (h1 : x.toInt - y.toInt < 2147483648) : (x - y).toInt = x.toInt - y.toInt := by have := c_isub x y; have := rng32 (x - y); omega
theorem own_mul {x y : Int32} (h0 : -2147483648 ≤ x.toInt * y.toInt) (h1 : x.toInt * y.toInt < 2147483648) : (x * y).toInt = x.toInt * y.toInt := by have := c_imul x y; have := rng32 (x * y); omega
theorem own_nat {j : Int32} (h0 : 0 ≤ j.toInt) : (j.toNatClampNeg : Int) = j.toInt := by simp only [Int32.toNatClampNeg]; omega
section Heaps
variable {Z : State} {h h' : Heap} {a b : Addr} {ty : FieldType} {vs : List Value} {sl : Nat} {v : Value} {ws : List Addr}
/-- an array and all that lies in it -/
def VA (Z : State) (h : Heap) (a : Addr) (ty : FieldType) (vs : List Value) : Prop := ∃ c : Cell, Arr Z h a c ty ∧ c.slots.toList = vs ∧ vs.length < 2 ^ 31
theorem VA.lt (F : VA Z h a ty vs) : a < h.size := by obtain ⟨c, A, -⟩ := F; exact A.lt
theorem VA.len (F : VA Z h a ty vs) : vs.length < 2 ^ 31 := by obtain ⟨c, A, -, r⟩ := F; exact r
theorem VA.ext (F : VA Z h a ty vs) (E : Ext h h') : VA Z h' a ty vs := by obtain ⟨c, A, r⟩ := F; exact ⟨c, A.ext E, r⟩
theorem VA.other (F : VA Z h b ty vs) (W : Wr h h' a sl v) (q : b ≠ a) : VA Z h' b ty vs := by obtain ⟨c, A, r⟩ := F; exact ⟨c, A.other W q, r⟩
theorem VA.keep (F : VA Z h a ty vs) (K : Keep h h' ws) (q : a ∉ ws) : VA Z h' a ty vs := by obtain ⟨c, A, r⟩ := F; exact ⟨c, ⟨K.2.1 a c A.1 q, A.2⟩, r⟩
theorem VA.new {k : ClassId} {n : Int32} (A : Arr Z h a (newA k ty n) ty) (q : ¬ n < 0) : VA Z h a ty (List.replicate n.toNatClampNeg (defaultValue ty)) :=
  ⟨_, A, by simp [newA], by rw [List.length_replicate]; exact (back32 q).2⟩
theorem VA.inb (F : VA Z h a ty vs) {j : Int32} (h0 : 0 ≤ j.toInt) (h1 : j.toInt < vs.length) : ∃ c : Cell, Arr Z h a c ty ∧ ¬ (j < 0 ∨ c.slots.size ≤ j.toNatClampNeg) ∧ c.slots[j.toNatClampNeg]? = vs[j.toNatClampNeg]? ∧ ∀ h' v, Wr h h' a j.toNatClampNeg v → VA Z h' a ty (vs.set j.toNatClampNeg v) := by
  obtain ⟨c, A, rfl, r⟩ := F
  have hj := own_nat h0
  rw [Array.length_toList] at h1
  refine ⟨c, A, ?_, (Array.getElem?_toList ..).symm, fun h' v W => ⟨_, A.same W, ?_, ?_⟩⟩
  · rw [Int32.lt_iff_toInt_lt]
    have k0 : (0 : Int32).toInt = 0 := rfl
    omega
  · simp [Cell.setSlot]
  · rw [List.length_set]; exact r
theorem VA.ne_exa {C : String} {a0 : Array Value} {k : Nat} (F : VA Z h b ty vs) (G : Exa Z h a C) (wi : (Cond.instantiable C k).before a0 Z = true) : a ≠ b := by obtain ⟨c, A, -⟩ := F; exact ne_arr G wi A
end Heaps
theorem own_psel {y : MethodName} {n : Nat} (wi : (Cond.instantiable y.cls n).before args s = true) (hpriv : s.PrivateAt y) (hinst : (Cond.instanceMethod y).before args s = true) (hy : y.cls ≠ "java/lang/invoke/MethodHandle" ∧ y.cls ≠ "java/lang/invoke/VarHandle") : (Cond.selects y.cls y y).before args s = true := by
  obtain ⟨c, k, h1, h2, -, h4, -, -⟩ := Cond.instantiable_spec wi
  exact selects_self_of_private h1 h2 (by cases q : k.isInterface; rfl; rw [q] at h4; simp at h4) hpriv hinst hy
section Steps2
variable {Z : State} {h : Heap} {a : Addr} {a0 : Array Value}
theorem ldI (X : Stand p l e R s m args below meth c T locs cells slots) (hx : p.tables.exec = Jvm.exec) (hZ : Z.Warmed39 s.vm) (eT : T.heap = h) {vs : List Int32} (F : VA Z h a .int (vs.map Value.int)) {j : Int32} (h0 : 0 ≤ j.toInt) (h1 : j.toInt < vs.length)
    {g : JFrame} (hg : g.method = m) {rest : List Value} (hs : g.stack = .int j :: .ref a :: rest) (hd : decode c.code g.pc = .ok (.iaload, 1)) (target : State)
    (k : Steps p.tables e below (T.setTop { g with pc := g.pc + 1, stack := .int (vs.getD j.toNatClampNeg 0) :: rest }) target) : Steps p.tables e below (T.setTop g) target := by
  obtain ⟨cl, A, q1, q2, -⟩ := F.inb h0 (by rw [List.length_map]; exact h1)
  have hj := own_nat h0
  refine X.iaload hx (j := j) (v := .int (vs.getD j.toNatClampNeg 0)) (by rw [eT]; exact A.1) (State.isArrayOf_alike hZ.alike A.2.1) A.2.2 q1 ?_ hg hs hd target k
  rw [q2, List.getElem?_map, List.getD_eq_getElem?_getD, List.getElem?_eq_getElem (by omega)]; rfl
theorem ldJ (X : Stand p l e R s m args below meth c T locs cells slots) (hx : p.tables.exec = Jvm.exec) (hZ : Z.Warmed39 s.vm) (eT : T.heap = h) {vs : List Int64} (F : VA Z h a .long (vs.map Value.long)) {j : Int32} (h0 : 0 ≤ j.toInt) (h1 : j.toInt < vs.length)
    {g : JFrame} (hg : g.method = m) {rest : List Value} (hs : g.stack = .int j :: .ref a :: rest) (hd : decode c.code g.pc = .ok (.laload, 1)) (target : State)
    (k : Steps p.tables e below (T.setTop { g with pc := g.pc + 1, stack := .long (vs.getD j.toNatClampNeg 0) :: rest }) target) : Steps p.tables e below (T.setTop g) target := by
  obtain ⟨cl, A, q1, q2, -⟩ := F.inb h0 (by rw [List.length_map]; exact h1)
  have hj := own_nat h0
  refine X.laload hx (j := j) (v := .long (vs.getD j.toNatClampNeg 0)) (by rw [eT]; exact A.1) (State.isArrayOf_alike hZ.alike A.2.1) A.2.2 q1 ?_ hg hs hd target k
  rw [q2, List.getElem?_map, List.getD_eq_getElem?_getD, List.getElem?_eq_getElem (by omega)]; rfl
theorem ldB (X : Stand p l e R s m args below meth c T locs cells slots) (hx : p.tables.exec = Jvm.exec) (hZ : Z.Warmed39 s.vm) (eT : T.heap = h) {vs : List Int32} (F : VA Z h a .byte (vs.map Value.int)) {j : Int32} (h0 : 0 ≤ j.toInt) (h1 : j.toInt < vs.length)
    {g : JFrame} (hg : g.method = m) {rest : List Value} (hs : g.stack = .int j :: .ref a :: rest) (hd : decode c.code g.pc = .ok (.baload, 1)) (target : State)
    (k : Steps p.tables e below (T.setTop { g with pc := g.pc + 1, stack := .int (vs.getD j.toNatClampNeg 0) :: rest }) target) : Steps p.tables e below (T.setTop g) target := by
  obtain ⟨cl, A, q1, q2, -⟩ := F.inb h0 (by rw [List.length_map]; exact h1)
  have hj := own_nat h0
  refine X.baloadBytes hx (j := j) (v := .int (vs.getD j.toNatClampNeg 0)) (by rw [eT]; exact A.1) (State.isArrayOf_alike hZ.alike A.2.1) A.2.2 q1 ?_ hg hs hd target k
  rw [q2, List.getElem?_map, List.getD_eq_getElem?_getD, List.getElem?_eq_getElem (by omega)]; rfl
theorem ldR (X : Stand p l e R s m args below meth c T locs cells slots) (hx : p.tables.exec = Jvm.exec) (hZ : Z.Warmed39 s.vm) (eT : T.heap = h) {ty : FieldType} {vs : List Addr} (F : VA Z h a ty (vs.map Value.ref)) (hty : ty.isReference = true) {j : Int32} (h0 : 0 ≤ j.toInt) (h1 : j.toInt < vs.length)
    {g : JFrame} (hg : g.method = m) {rest : List Value} (hs : g.stack = .int j :: .ref a :: rest) (hd : decode c.code g.pc = .ok (.aaload, 1)) (target : State)
    (k : Steps p.tables e below (T.setTop { g with pc := g.pc + 1, stack := .ref (vs.getD j.toNatClampNeg 0) :: rest }) target) : Steps p.tables e below (T.setTop g) target := by
  obtain ⟨cl, A, q1, q2, -⟩ := F.inb h0 (by rw [List.length_map]; exact h1)
  have hj := own_nat h0
  refine X.aaload hx (j := j) (v := .ref (vs.getD j.toNatClampNeg 0)) (by rw [eT]; exact A.1) (State.isArrayOf_alike hZ.alike A.2.1) hty A.2.2 q1 ?_ hg hs hd target k
  rw [q2, List.getElem?_map, List.getD_eq_getElem?_getD, List.getElem?_eq_getElem (by omega)]; rfl
theorem lenA (X : Stand p l e R s m args below meth c T locs cells slots) (hx : p.tables.exec = Jvm.exec) (hZ : Z.Warmed39 s.vm) (eT : T.heap = h) {ty : FieldType} {vs : List Value} (F : VA Z h a ty vs) {n : Int32} (hn : (vs.length : Int) = n.toInt)
    {g : JFrame} (hg : g.method = m) {rest : List Value} (hs : g.stack = .ref a :: rest) (hd : decode c.code g.pc = .ok (.arraylength, 1)) (target : State)
    (k : Steps p.tables e below (T.setTop { g with pc := g.pc + 1, stack := .int n :: rest }) target) : Steps p.tables e below (T.setTop g) target := by
  obtain ⟨cl, A, rfl, r⟩ := F
  refine X.arraylength hx (by rw [eT]; exact A.1) (State.isArrayOf_alike hZ.alike A.2.1) hg hs hd target ?_
  have e : cl.slots.size.toInt32 = n := Int32.toInt_inj.mp (by rw [len_toInt (by rw [← Array.length_toList]; exact r), ← hn, Array.length_toList])
  rw [e]; exact k
theorem putI (X : Stand p l e R s m args below meth c T locs cells slots) (hx : p.tables.exec = Jvm.exec) (hZ : Z.Warmed39 s.vm) (eT : T.heap = h) {vs : List Int32} (F : VA Z h a .int (vs.map Value.int)) {j x : Int32} (h0 : 0 ≤ j.toInt) (h1 : j.toInt < vs.length)
    {g : JFrame} (hg : g.method = m) {rest : List Value} (hs : g.stack = .int x :: .int j :: .ref a :: rest) (hd : decode c.code g.pc = .ok (.iastore, 1)) :
    ∃ T' h', Stand p l e R s m args below meth c T' (locs ++ [⟨a, j.toNatClampNeg⟩]) cells slots ∧ T'.heap = h' ∧ Wr h h' a j.toNatClampNeg (.int x) ∧ VA Z h' a .int ((vs.set j.toNatClampNeg x).map Value.int) ∧ ∀ target, Steps p.tables e below (T'.setTop { g with pc := g.pc + 1, stack := rest }) target → Steps p.tables e below (T.setTop g) target := by
  obtain ⟨cl, A, q1, q2, q3⟩ := F.inb h0 (by rw [List.length_map]; exact h1)
  obtain ⟨T', h', X', e', W, st⟩ := stI X hx hZ eT A q1 hg hs hd
  exact ⟨T', h', X', e', W, by rw [List.map_set]; exact q3 _ _ W, st⟩
theorem putJ (X : Stand p l e R s m args below meth c T locs cells slots) (hx : p.tables.exec = Jvm.exec) (hZ : Z.Warmed39 s.vm) (eT : T.heap = h) {vs : List Int64} (F : VA Z h a .long (vs.map Value.long)) {j : Int32} {x : Int64} (h0 : 0 ≤ j.toInt) (h1 : j.toInt < vs.length)
    {g : JFrame} (hg : g.method = m) {rest : List Value} (hs : g.stack = .long x :: .int j :: .ref a :: rest) (hd : decode c.code g.pc = .ok (.lastore, 1)) :
    ∃ T' h', Stand p l e R s m args below meth c T' (locs ++ [⟨a, j.toNatClampNeg⟩]) cells slots ∧ T'.heap = h' ∧ Wr h h' a j.toNatClampNeg (.long x) ∧ VA Z h' a .long ((vs.set j.toNatClampNeg x).map Value.long) ∧ ∀ target, Steps p.tables e below (T'.setTop { g with pc := g.pc + 1, stack := rest }) target → Steps p.tables e below (T.setTop g) target := by
  obtain ⟨cl, A, q1, q2, q3⟩ := F.inb h0 (by rw [List.length_map]; exact h1)
  obtain ⟨T', h', X', e', W, st⟩ := stJ X hx hZ eT A q1 hg hs hd
  exact ⟨T', h', X', e', W, by rw [List.map_set]; exact q3 _ _ W, st⟩
theorem putB (X : Stand p l e R s m args below meth c T locs cells slots) (hx : p.tables.exec = Jvm.exec) (hZ : Z.Warmed39 s.vm) (eT : T.heap = h) {vs : List Int32} (F : VA Z h a .byte (vs.map Value.int)) {j x : Int32} (h0 : 0 ≤ j.toInt) (h1 : j.toInt < vs.length)
    {g : JFrame} (hg : g.method = m) {rest : List Value} (hs : g.stack = .int x :: .int j :: .ref a :: rest) (hd : decode c.code g.pc = .ok (.bastore, 1)) :
    ∃ T' h', Stand p l e R s m args below meth c T' (locs ++ [⟨a, j.toNatClampNeg⟩]) cells slots ∧ T'.heap = h' ∧ Wr h h' a j.toNatClampNeg (.int (nar .byte x)) ∧ VA Z h' a .byte ((vs.set j.toNatClampNeg (nar .byte x)).map Value.int) ∧ ∀ target, Steps p.tables e below (T'.setTop { g with pc := g.pc + 1, stack := rest }) target → Steps p.tables e below (T.setTop g) target := by
  obtain ⟨cl, A, q1, q2, q3⟩ := F.inb h0 (by rw [List.length_map]; exact h1)
  obtain ⟨T', h', X', e', W, st⟩ := stB X hx hZ eT A q1 hg hs hd
  exact ⟨T', h', X', e', W, by rw [List.map_set]; exact q3 _ _ W, st⟩
theorem newI (X : Stand p l e R s m args below meth c T locs cells slots) (hx : p.tables.exec = Jvm.exec) (hZ : Z.Warmed39 s.vm) (w : (Cond.arrayClass .int).before a0 Z = true) (eT : T.heap = h) {g : JFrame} (hg : g.method = m) (hd : decode c.code g.pc = .ok (.newarray .int, 2)) {n : Int32} {rest : List Value} (hs : g.stack = .int n :: rest)
    (hn : 0 ≤ n.toInt) {cap : Nat} (hcap : n.toInt ≤ cap) (hb : cap * 8 ≤ 536870912) (hc : cells + 1 ≤ R.cells) (hl : slots + cap ≤ R.slots) :
    ∃ T' h', Stand p l e R s m args below meth c T' locs (cells + 1) (slots + cap) ∧ T'.heap = h' ∧ Ext h h' ∧ VA Z h' h.size .int ((List.replicate n.toInt.toNat (0 : Int32)).map Value.int) ∧
      ∀ target, Steps p.tables e below (T'.setTop { g with pc := g.pc + 2, stack := .ref h.size :: rest }) target → Steps p.tables e below (T.setTop g) target := by
  have q : ¬ n < 0 := by rw [Int32.lt_iff_toInt_lt]; have k0 : (0 : Int32).toInt = 0 := rfl; omega
  have en : n.toNatClampNeg = n.toInt.toNat := rfl
  obtain ⟨T', h', cA, X', e', E, A, st⟩ := newP X hx hZ (aty := .int) w eT hg hd hs q (cap := cap) (by rw [en]; omega) hb hc hl
  have V1 : VA Z h' h.size .int (List.replicate n.toNatClampNeg (Value.int (0 : Int32))) := VA.new A q
  rw [en] at V1
  refine ⟨T', h', X', e', E, ?_, st⟩
  rw [List.map_replicate]
  exact V1
theorem newJ (X : Stand p l e R s m args below meth c T locs cells slots) (hx : p.tables.exec = Jvm.exec) (hZ : Z.Warmed39 s.vm) (w : (Cond.arrayClass .long).before a0 Z = true) (eT : T.heap = h) {g : JFrame} (hg : g.method = m) (hd : decode c.code g.pc = .ok (.newarray .long, 2)) {n : Int32} {rest : List Value} (hs : g.stack = .int n :: rest)
    (hn : 0 ≤ n.toInt) {cap : Nat} (hcap : n.toInt ≤ cap) (hb : cap * 8 ≤ 536870912) (hc : cells + 1 ≤ R.cells) (hl : slots + cap ≤ R.slots) :
    ∃ T' h', Stand p l e R s m args below meth c T' locs (cells + 1) (slots + cap) ∧ T'.heap = h' ∧ Ext h h' ∧ VA Z h' h.size .long ((List.replicate n.toInt.toNat (0 : Int64)).map Value.long) ∧
      ∀ target, Steps p.tables e below (T'.setTop { g with pc := g.pc + 2, stack := .ref h.size :: rest }) target → Steps p.tables e below (T.setTop g) target := by
  have q : ¬ n < 0 := by rw [Int32.lt_iff_toInt_lt]; have k0 : (0 : Int32).toInt = 0 := rfl; omega
  have en : n.toNatClampNeg = n.toInt.toNat := rfl
  obtain ⟨T', h', cA, X', e', E, A, st⟩ := newP X hx hZ (aty := .long) w eT hg hd hs q (cap := cap) (by rw [en]; omega) hb hc hl
  have V1 : VA Z h' h.size .long (List.replicate n.toNatClampNeg (Value.long (0 : Int64))) := VA.new A q
  rw [en] at V1
  refine ⟨T', h', X', e', E, ?_, st⟩
  rw [List.map_replicate]
  exact V1
theorem newB (X : Stand p l e R s m args below meth c T locs cells slots) (hx : p.tables.exec = Jvm.exec) (hZ : Z.Warmed39 s.vm) (w : (Cond.arrayClass .byte).before a0 Z = true) (eT : T.heap = h) {g : JFrame} (hg : g.method = m) (hd : decode c.code g.pc = .ok (.newarray .byte, 2)) {n : Int32} {rest : List Value} (hs : g.stack = .int n :: rest)
    (hn : 0 ≤ n.toInt) {cap : Nat} (hcap : n.toInt ≤ cap) (hb : cap * 8 ≤ 536870912) (hc : cells + 1 ≤ R.cells) (hl : slots + cap ≤ R.slots) :
    ∃ T' h', Stand p l e R s m args below meth c T' locs (cells + 1) (slots + cap) ∧ T'.heap = h' ∧ Ext h h' ∧ VA Z h' h.size .byte ((List.replicate n.toInt.toNat (0 : Int32)).map Value.int) ∧
      ∀ target, Steps p.tables e below (T'.setTop { g with pc := g.pc + 2, stack := .ref h.size :: rest }) target → Steps p.tables e below (T.setTop g) target := by
  have q : ¬ n < 0 := by rw [Int32.lt_iff_toInt_lt]; have k0 : (0 : Int32).toInt = 0 := rfl; omega
  have en : n.toNatClampNeg = n.toInt.toNat := rfl
  obtain ⟨T', h', cA, X', e', E, A, st⟩ := newP X hx hZ (aty := .byte) w eT hg hd hs q (cap := cap) (by rw [en]; omega) hb hc hl
  have V1 : VA Z h' h.size .byte (List.replicate n.toNatClampNeg (Value.int (0 : Int32))) := VA.new A q
  rw [en] at V1
  refine ⟨T', h', X', e', E, ?_, st⟩
  rw [List.map_replicate]
  exact V1
theorem ldZ (X : Stand p l e R s m args below meth c T locs cells slots) (hx : p.tables.exec = Jvm.exec) (hZ : Z.Warmed39 s.vm) (eT : T.heap = h) {vs : List Int32} (F : VA Z h a .boolean (vs.map Value.int)) {j : Int32} (h0 : 0 ≤ j.toInt) (h1 : j.toInt < vs.length)
    {g : JFrame} (hg : g.method = m) {rest : List Value} (hs : g.stack = .int j :: .ref a :: rest) (hd : decode c.code g.pc = .ok (.baload, 1)) (target : State)
    (k : Steps p.tables e below (T.setTop { g with pc := g.pc + 1, stack := .int (vs.getD j.toNatClampNeg 0) :: rest }) target) : Steps p.tables e below (T.setTop g) target := by
  obtain ⟨cl, A, q1, q2, -⟩ := F.inb h0 (by rw [List.length_map]; exact h1)
  have hj := own_nat h0
  refine X.baloadBooleans hx (j := j) (v := .int (vs.getD j.toNatClampNeg 0)) (by rw [eT]; exact A.1) (State.isArrayOf_alike hZ.alike A.2.1) A.2.2 q1 ?_ hg hs hd target k
  rw [q2, List.getElem?_map, List.getD_eq_getElem?_getD, List.getElem?_eq_getElem (by omega)]; rfl
theorem putZ (X : Stand p l e R s m args below meth c T locs cells slots) (hx : p.tables.exec = Jvm.exec) (hZ : Z.Warmed39 s.vm) (eT : T.heap = h) {vs : List Int32} (F : VA Z h a .boolean (vs.map Value.int)) {j x : Int32} (h0 : 0 ≤ j.toInt) (h1 : j.toInt < vs.length)
    {g : JFrame} (hg : g.method = m) {rest : List Value} (hs : g.stack = .int x :: .int j :: .ref a :: rest) (hd : decode c.code g.pc = .ok (.bastore, 1)) :
    ∃ T' h', Stand p l e R s m args below meth c T' (locs ++ [⟨a, j.toNatClampNeg⟩]) cells slots ∧ T'.heap = h' ∧ Wr h h' a j.toNatClampNeg (.int (nar .boolean x)) ∧ VA Z h' a .boolean ((vs.set j.toNatClampNeg (nar .boolean x)).map Value.int) ∧ ∀ target, Steps p.tables e below (T'.setTop { g with pc := g.pc + 1, stack := rest }) target → Steps p.tables e below (T.setTop g) target := by
  obtain ⟨cl, A, q1, q2, q3⟩ := F.inb h0 (by rw [List.length_map]; exact h1)
  obtain ⟨T', h', X', e', W, st⟩ := stZ X hx hZ eT A q1 hg hs hd
  exact ⟨T', h', X', e', W, by rw [List.map_set]; exact q3 _ _ W, st⟩
theorem newZ (X : Stand p l e R s m args below meth c T locs cells slots) (hx : p.tables.exec = Jvm.exec) (hZ : Z.Warmed39 s.vm) (w : (Cond.arrayClass .boolean).before a0 Z = true) (eT : T.heap = h) {g : JFrame} (hg : g.method = m) (hd : decode c.code g.pc = .ok (.newarray .boolean, 2)) {n : Int32} {rest : List Value} (hs : g.stack = .int n :: rest)
    (hn : 0 ≤ n.toInt) {cap : Nat} (hcap : n.toInt ≤ cap) (hb : cap * 8 ≤ 536870912) (hc : cells + 1 ≤ R.cells) (hl : slots + cap ≤ R.slots) :
    ∃ T' h', Stand p l e R s m args below meth c T' locs (cells + 1) (slots + cap) ∧ T'.heap = h' ∧ Ext h h' ∧ VA Z h' h.size .boolean ((List.replicate n.toInt.toNat (0 : Int32)).map Value.int) ∧
      ∀ target, Steps p.tables e below (T'.setTop { g with pc := g.pc + 2, stack := .ref h.size :: rest }) target → Steps p.tables e below (T.setTop g) target := by
  have q : ¬ n < 0 := by rw [Int32.lt_iff_toInt_lt]; have k0 : (0 : Int32).toInt = 0 := rfl; omega
  have en : n.toNatClampNeg = n.toInt.toNat := rfl
  obtain ⟨T', h', cA, X', e', E, A, st⟩ := newP X hx hZ (aty := .boolean) w eT hg hd hs q (cap := cap) (by rw [en]; omega) hb hc hl
  have V1 : VA Z h' h.size .boolean (List.replicate n.toNatClampNeg (Value.int (0 : Int32))) := VA.new A q
  rw [en] at V1
  refine ⟨T', h', X', e', E, ?_, st⟩
  rw [List.map_replicate]
  exact V1
end Steps2
end New
end Jvm.RoadKit
namespace Jvm.Pilot.@@N@@
open Jvm Jvm.ClassFile Sem Op Lib Jvm.Free Jvm.Stand Jvm.LawKit Jvm.RoadKit Bundle Jvm.Pilot.@@N@@.Jvm.D
theorem d2_0 : decode jdk_29_method_65_code 0 = .ok (.iload_n 0, 1) := by decide +kernel
theorem d2_1 : decode jdk_29_method_65_code 1 = .ok (.iload_n 1, 1) := by decide +kernel
theorem d2_2 : decode jdk_29_method_65_code 2 = .ok (.if_icmp .lt 7, 3) := by decide +kernel
theorem d2_5 : decode jdk_29_method_65_code 5 = .ok (.iload_n 0, 1) := by decide +kernel
theorem d2_6 : decode jdk_29_method_65_code 6 = .ok (.goto 4, 3) := by decide +kernel
theorem d2_9 : decode jdk_29_method_65_code 9 = .ok (.iload_n 1, 1) := by decide +kernel
theorem d2_10 : decode jdk_29_method_65_code 10 = .ok (.ireturn, 1) := by decide +kernel
theorem ef_maxI (m : MethodId) (x0 : Int32) (x1 : Int32) : entryFrame m #[(.int x0), (.int x1)] 2 = mkF m 0 #[.val (.int x0), .val (.int x1)] [] := by first | (simp [entryFrame, mkF, argsToLocals, Value.category]; done) | rfl
def maxI (p1 : Int32) (p2 : Int32) : Int32 := (if p1 < p2 then p2 else p1)
def QmaxI (RES : Int32) (h0 : Heap) (n0 : Nat) (v : Option Value) (h : Heap) (L : List Loc) : Prop := v = some (.int RES) ∧ Fr n0 L ∧ h = h0
set_option maxRecDepth 65536 in
set_option maxHeartbeats 40000000 in
theorem rm_maxI (l : Launch) (Z : State) (a0 : Array Value) (hw : ∀ d ∈ tables_1, d.before a0 Z = true) (ws : List Jvm.Cond) (p1 : Int32) (p2 : Int32)  (h0 : Heap) (n0 : Nat) (Z0 : n0 ≤ h0.size) :
    MetFree l (⟨"java/lang/Math", "max", "(II)I"⟩ : MethodName) (head1 (Jvm.Cond.code (⟨"java/lang/Math", "max", "(II)I"⟩ : MethodName) jdk_29_method_65_code 2 (some .int) :: ws) ({ frames := 0, cells := 0, slots := 0, locals := 0 } : Room)) (fun A_ U => A_ = #[(.int p1), (.int p2)] ∧ Z.Warmed39 U.vm ∧ U.heap = h0) (fun _ _ _ _ _ => True) (fun _ U o U' => ∃ v L, o = .returned v ∧ QmaxI (maxI p1 p2) h0 n0 v U'.heap L ∧ FrameEnd U o U' L ({ frames := 0, cells := 0, slots := 0, locals := 0 } : Room).cells ({ frames := 0, cells := 0, slots := 0, locals := 0 } : Room).slots) := by
  refine MetFree.of_bodySF (Jvm.Free.JP.mathPlain rfl (by decide +kernel)) hisR ?_
  intro p e s m args below meth c s₁ Bd hml0 hP hK
  obtain ⟨rfl, hZ, hh⟩ := hP
  have hx := Bd.exec
  have hby := Bd.bytes
  have hml : c.maxLocals = 2 := hml0
  have hown : s.vm.findClass "java/lang/Math" = some m.cls := findClass_of_methodNamed Bd.named
  have hnm := (name_of_methodNamed Bd.named Bd.method).1
  have X0 : Stand p l e ({ frames := 0, cells := 0, slots := 0, locals := 0 } : Room) s m #[(.int p1), (.int p2)] below meth c s₁ [] 0 0 := Stand.of_body Bd
  have e0 : s₁.heap = h0 := by rw [← hh, Bd.state]; rfl
  have N0 := Fr.nil n0
  obtain ⟨RES, hf⟩ : ∃ z, z = maxI p1 p2 := ⟨_, rfl⟩
  rw [← hf]
  rw [maxI] at hf
  suffices HGO : Go p e below s (QmaxI RES h0 n0) ({ frames := 0, cells := 0, slots := 0, locals := 0 } : Room).cells ({ frames := 0, cells := 0, slots := 0, locals := 0 } : Room).slots s₁ (mkF m 0 #[.val (.int p1), .val (.int p2)] []) from Go.cast (ef_maxI m p1 p2) HGO
  refine Go.step (T' := s₁) (f' := (mkF m 2 #[.val (.int p1), .val (.int p2)] [(.int p2), (.int p1)])) (fun t kt => ?_) ?_
  · show Steps p.tables e below (s₁.setTop (mkF m 0 #[.val (.int p1), .val (.int p2)] [])) _
    refine XS.iloadN X0.here hx rfl (hb hby d2_0) rfl ?_
    show Steps p.tables e below (s₁.setTop (mkF m 1 #[.val (.int p1), .val (.int p2)] [(.int p1)])) _
    refine XS.iloadN X0.here hx rfl (hb hby d2_1) rfl ?_
    exact kt
  by_cases hc1 : p1 < p2
  · rw [if_pos hc1] at hf
    refine Go.step (T' := s₁) (f' := (mkF m 9 #[.val (.int p1), .val (.int p2)] [])) (fun t kt => ?_) ?_
    · show Steps p.tables e below (s₁.setTop (mkF m 2 #[.val (.int p1), .val (.int p2)] [(.int p2), (.int p1)])) _
      refine XS.icmpYes X0.here hx rfl (pc0 := 2) (pc' := 9) rfl (hb hby d2_2) rfl (tlt hc1).1 (by decide) (by decide) ?_
      exact kt
    refine Go.step (T' := s₁) (f' := (mkF m 10 #[.val (.int p1), .val (.int p2)] [(.int p2)])) (fun t kt => ?_) ?_
    · show Steps p.tables e below (s₁.setTop (mkF m 9 #[.val (.int p1), .val (.int p2)] [])) _
      refine XS.iloadN X0.here hx rfl (hb hby d2_9) rfl ?_
      exact kt
    refine Go.fin X0 (v := some (.int p2)) (fun h => by rw [Bd.returns] at h; cases h) Bd.notSynchronized ?_ (Nat.le_trans (Nat.le_refl 0) (by decide)) (Nat.le_trans (Nat.le_refl 0) (by decide)) (fun fs hr => retI X0 hx Bd.returns (hb hby d2_10) hr)
    · exact ⟨by rw [hf], N0, e0⟩
  · rw [if_neg hc1] at hf
    refine Go.step (T' := s₁) (f' := (mkF m 5 #[.val (.int p1), .val (.int p2)] [])) (fun t kt => ?_) ?_
    · show Steps p.tables e below (s₁.setTop (mkF m 2 #[.val (.int p1), .val (.int p2)] [(.int p2), (.int p1)])) _
      refine XS.icmpNo X0.here hx rfl (hb hby d2_2) rfl (flt hc1).1 ?_
      exact kt
    refine Go.step (T' := s₁) (f' := (mkF m 10 #[.val (.int p1), .val (.int p2)] [(.int p1)])) (fun t kt => ?_) ?_
    · show Steps p.tables e below (s₁.setTop (mkF m 5 #[.val (.int p1), .val (.int p2)] [])) _
      refine XS.iloadN X0.here hx rfl (hb hby d2_5) rfl ?_
      show Steps p.tables e below (s₁.setTop (mkF m 6 #[.val (.int p1), .val (.int p2)] [(.int p1)])) _
      refine XS.goto X0.here hx rfl (pc0 := 6) (pc' := 10) rfl (hb hby d2_6) (by decide) (by decide) ?_
      exact kt
    refine Go.fin X0 (v := some (.int p1)) (fun h => by rw [Bd.returns] at h; cases h) Bd.notSynchronized ?_ (Nat.le_trans (Nat.le_refl 0) (by decide)) (Nat.le_trans (Nat.le_refl 0) (by decide)) (fun fs hr => retI X0 hx Bd.returns (hb hby d2_10) hr)
    · exact ⟨by rw [hf], N0, e0⟩
theorem d1_0 : decode prog_18_method_4_code 0 = .ok (.iconst 0, 1) := by decide +kernel
theorem d1_1 : decode prog_18_method_4_code 1 = .ok (.istore_n 1, 1) := by decide +kernel
theorem d1_2 : decode prog_18_method_4_code 2 = .ok (.iconst 1, 1) := by decide +kernel
theorem d1_3 : decode prog_18_method_4_code 3 = .ok (.istore_n 2, 1) := by decide +kernel
theorem d1_4 : decode prog_18_method_4_code 4 = .ok (.iload_n 2, 1) := by decide +kernel
theorem d1_5 : decode prog_18_method_4_code 5 = .ok (.aload_n 0, 1) := by decide +kernel
theorem d1_6 : decode prog_18_method_4_code 6 = .ok (.arraylength, 1) := by decide +kernel
theorem d1_7 : decode prog_18_method_4_code 7 = .ok (.if_icmp .ge 23, 3) := by decide +kernel
theorem d1_30 : decode prog_18_method_4_code 30 = .ok (.iload_n 1, 1) := by decide +kernel
theorem d1_31 : decode prog_18_method_4_code 31 = .ok (.ireturn, 1) := by decide +kernel
theorem pn_0 : plainName "com/example/laneweave/laneweave/Overlap" = true := by first | (simp [plainName, overriddenIn]; done) | decide +kernel
theorem ef_lon0 (m : MethodId) (x0 : Addr) : entryFrame m #[(.ref x0)] 3 = mkF m 0 #[.val (.ref x0), .unset, .unset] [] := by first | (simp [entryFrame, mkF, argsToLocals, Value.category]; done) | rfl
def lon0  : Int32 := (0 : Int32)
def Qlon0 (Z : State) (a : Addr)  (RES : Int32) (h0 : Heap) (n0 : Nat) (v : Option Value) (h : Heap) (L : List Loc) : Prop := v = some (.int RES) ∧ Fr n0 L ∧ h = h0
set_option maxRecDepth 65536 in
set_option maxHeartbeats 40000000 in
theorem rm_lon0 (l : Launch) (Z : State) (a0 : Array Value) (hw : ∀ d ∈ tables_1, d.before a0 Z = true) (ws : List Jvm.Cond) (a : Addr)  (h0 : Heap) (n0 : Nat) (Z0 : n0 ≤ h0.size) (F0 : VA Z h0 a .int ([].map Value.int)) :
    MetFree l (⟨"com/example/laneweave/laneweave/Overlap", "longest", "([I)I"⟩ : MethodName) (head1 (Jvm.Cond.code (⟨"com/example/laneweave/laneweave/Overlap", "longest", "([I)I"⟩ : MethodName) prog_18_method_4_code 3 (some .int) :: ws) ({ frames := 0, cells := 0, slots := 0, locals := 0 } : Room)) (fun A_ U => A_ = #[(.ref a)] ∧ Z.Warmed39 U.vm ∧ U.heap = h0) (fun _ _ _ _ _ => True) (fun _ U o U' => ∃ v L, o = .returned v ∧ Qlon0 Z a (lon0 ) h0 n0 v U'.heap L ∧ FrameEnd U o U' L ({ frames := 0, cells := 0, slots := 0, locals := 0 } : Room).cells ({ frames := 0, cells := 0, slots := 0, locals := 0 } : Room).slots) := by
  refine MetFree.of_bodySF (plainFor_of_name pn_0) hisR ?_
  intro p e s m args below meth c s₁ Bd hml0 hP hK
  obtain ⟨rfl, hZ, hh⟩ := hP
  have hx := Bd.exec
  have hby := Bd.bytes
  have hml : c.maxLocals = 3 := hml0
  have hown : s.vm.findClass "com/example/laneweave/laneweave/Overlap" = some m.cls := findClass_of_methodNamed Bd.named
  have hnm := (name_of_methodNamed Bd.named Bd.method).1
  have X0 : Stand p l e ({ frames := 0, cells := 0, slots := 0, locals := 0 } : Room) s m #[(.ref a)] below meth c s₁ [] 0 0 := Stand.of_body Bd
  have e0 : s₁.heap = h0 := by rw [← hh, Bd.state]; rfl
  have N0 := Fr.nil n0
  obtain ⟨RES, hf⟩ : ∃ z, z = lon0  := ⟨_, rfl⟩
  rw [← hf]
  rw [lon0] at hf
  suffices HGO : Go p e below s (Qlon0 Z a RES h0 n0) ({ frames := 0, cells := 0, slots := 0, locals := 0 } : Room).cells ({ frames := 0, cells := 0, slots := 0, locals := 0 } : Room).slots s₁ (mkF m 0 #[.val (.ref a), .unset, .unset] []) from Go.cast (ef_lon0 m a) HGO
  have ln1 : (([].map Value.int).length : Int) = ((0 : Int32)).toInt := (by rfl)
  refine Go.step (T' := s₁) (f' := (mkF m 31 #[.val (.ref a), .val (.int (0 : Int32)), .val (.int (1 : Int32))] [(.int (0 : Int32))])) (fun t kt => ?_) ?_
  · show Steps p.tables e below (s₁.setTop (mkF m 0 #[.val (.ref a), .unset, .unset] [])) _
    refine XS.iconst X0.here hx rfl (hb hby d1_0) ?_
    show Steps p.tables e below (s₁.setTop (mkF m 1 #[.val (.ref a), .unset, .unset] [(.int (0 : Int32))])) _
    refine XS.istoreN X0.here hx rfl (hb hby d1_1) rfl (l' := #[.val (.ref a), .val (.int (0 : Int32)), .unset]) rfl ?_
    show Steps p.tables e below (s₁.setTop (mkF m 2 #[.val (.ref a), .val (.int (0 : Int32)), .unset] [])) _
    refine XS.iconst X0.here hx rfl (hb hby d1_2) ?_
    show Steps p.tables e below (s₁.setTop (mkF m 3 #[.val (.ref a), .val (.int (0 : Int32)), .unset] [(.int (1 : Int32))])) _
    refine XS.istoreN X0.here hx rfl (hb hby d1_3) rfl (l' := #[.val (.ref a), .val (.int (0 : Int32)), .val (.int (1 : Int32))]) rfl ?_
    show Steps p.tables e below (s₁.setTop (mkF m 4 #[.val (.ref a), .val (.int (0 : Int32)), .val (.int (1 : Int32))] [])) _
    refine XS.iloadN X0.here hx rfl (hb hby d1_4) rfl ?_
    show Steps p.tables e below (s₁.setTop (mkF m 5 #[.val (.ref a), .val (.int (0 : Int32)), .val (.int (1 : Int32))] [(.int (1 : Int32))])) _
    refine XS.aloadN X0.here hx rfl (hb hby d1_5) rfl rfl ?_
    show Steps p.tables e below (s₁.setTop (mkF m 6 #[.val (.ref a), .val (.int (0 : Int32)), .val (.int (1 : Int32))] [(.ref a), (.int (1 : Int32))])) _
    refine lenA X0 hx hZ e0 F0 (n := (0 : Int32)) ln1 (g := (mkF m 6 #[.val (.ref a), .val (.int (0 : Int32)), .val (.int (1 : Int32))] [(.ref a), (.int (1 : Int32))])) rfl rfl (hb hby d1_6) _ ?_
    show Steps p.tables e below (s₁.setTop (mkF m 7 #[.val (.ref a), .val (.int (0 : Int32)), .val (.int (1 : Int32))] [(.int (0 : Int32)), (.int (1 : Int32))])) _
    refine XS.icmpYes X0.here hx rfl (pc0 := 7) (pc' := 30) rfl (hb hby d1_7) rfl (flt (by decide : ¬ ((1 : Int32) < (0 : Int32)))).2.1 (by decide) (by decide) ?_
    show Steps p.tables e below (s₁.setTop (mkF m 30 #[.val (.ref a), .val (.int (0 : Int32)), .val (.int (1 : Int32))] [])) _
    refine XS.iloadN X0.here hx rfl (hb hby d1_30) rfl ?_
    exact kt
  refine Go.fin X0 (v := some (.int (0 : Int32))) (fun h => by rw [Bd.returns] at h; cases h) Bd.notSynchronized ?_ (Nat.le_trans (Nat.le_refl 0) (by decide)) (Nat.le_trans (Nat.le_refl 0) (by decide)) (fun fs hr => retI X0 hx Bd.returns (hb hby d1_31) hr)
  · exact ⟨by rw [hf], N0, e0⟩
theorem ef_lon1 (m : MethodId) (x0 : Addr) : entryFrame m #[(.ref x0)] 3 = mkF m 0 #[.val (.ref x0), .unset, .unset] [] := by first | (simp [entryFrame, mkF, argsToLocals, Value.category]; done) | rfl
def lon1 (y0 : Int32) : Int32 := (0 : Int32)
def Qlon1 (Z : State) (a : Addr) (y0 : Int32) (RES : Int32) (h0 : Heap) (n0 : Nat) (v : Option Value) (h : Heap) (L : List Loc) : Prop := v = some (.int RES) ∧ Fr n0 L ∧ h = h0
set_option maxRecDepth 65536 in
set_option maxHeartbeats 40000000 in
theorem rm_lon1 (l : Launch) (Z : State) (a0 : Array Value) (hw : ∀ d ∈ tables_1, d.before a0 Z = true) (ws : List Jvm.Cond) (a : Addr) (y0 : Int32) (h0 : Heap) (n0 : Nat) (Z0 : n0 ≤ h0.size) (F0 : VA Z h0 a .int ([y0].map Value.int)) :
    MetFree l (⟨"com/example/laneweave/laneweave/Overlap", "longest", "([I)I"⟩ : MethodName) (head1 (Jvm.Cond.code (⟨"com/example/laneweave/laneweave/Overlap", "longest", "([I)I"⟩ : MethodName) prog_18_method_4_code 3 (some .int) :: ws) ({ frames := 0, cells := 0, slots := 0, locals := 0 } : Room)) (fun A_ U => A_ = #[(.ref a)] ∧ Z.Warmed39 U.vm ∧ U.heap = h0) (fun _ _ _ _ _ => True) (fun _ U o U' => ∃ v L, o = .returned v ∧ Qlon1 Z a y0 (lon1 y0) h0 n0 v U'.heap L ∧ FrameEnd U o U' L ({ frames := 0, cells := 0, slots := 0, locals := 0 } : Room).cells ({ frames := 0, cells := 0, slots := 0, locals := 0 } : Room).slots) := by
  refine MetFree.of_bodySF (plainFor_of_name pn_0) hisR ?_
  intro p e s m args below meth c s₁ Bd hml0 hP hK
  obtain ⟨rfl, hZ, hh⟩ := hP
  have hx := Bd.exec
  have hby := Bd.bytes
  have hml : c.maxLocals = 3 := hml0
  have hown : s.vm.findClass "com/example/laneweave/laneweave/Overlap" = some m.cls := findClass_of_methodNamed Bd.named
  have hnm := (name_of_methodNamed Bd.named Bd.method).1
  have X0 : Stand p l e ({ frames := 0, cells := 0, slots := 0, locals := 0 } : Room) s m #[(.ref a)] below meth c s₁ [] 0 0 := Stand.of_body Bd
  have e0 : s₁.heap = h0 := by rw [← hh, Bd.state]; rfl
  have N0 := Fr.nil n0
  obtain ⟨RES, hf⟩ : ∃ z, z = lon1 y0 := ⟨_, rfl⟩
  rw [← hf]
  rw [lon1] at hf
  suffices HGO : Go p e below s (Qlon1 Z a y0 RES h0 n0) ({ frames := 0, cells := 0, slots := 0, locals := 0 } : Room).cells ({ frames := 0, cells := 0, slots := 0, locals := 0 } : Room).slots s₁ (mkF m 0 #[.val (.ref a), .unset, .unset] []) from Go.cast (ef_lon1 m a) HGO
  have ln1 : (([y0].map Value.int).length : Int) = ((1 : Int32)).toInt := (by rfl)
  refine Go.step (T' := s₁) (f' := (mkF m 31 #[.val (.ref a), .val (.int (0 : Int32)), .val (.int (1 : Int32))] [(.int (0 : Int32))])) (fun t kt => ?_) ?_
  · show Steps p.tables e below (s₁.setTop (mkF m 0 #[.val (.ref a), .unset, .unset] [])) _
    refine XS.iconst X0.here hx rfl (hb hby d1_0) ?_
    show Steps p.tables e below (s₁.setTop (mkF m 1 #[.val (.ref a), .unset, .unset] [(.int (0 : Int32))])) _
    refine XS.istoreN X0.here hx rfl (hb hby d1_1) rfl (l' := #[.val (.ref a), .val (.int (0 : Int32)), .unset]) rfl ?_
    show Steps p.tables e below (s₁.setTop (mkF m 2 #[.val (.ref a), .val (.int (0 : Int32)), .unset] [])) _
    refine XS.iconst X0.here hx rfl (hb hby d1_2) ?_
    show Steps p.tables e below (s₁.setTop (mkF m 3 #[.val (.ref a), .val (.int (0 : Int32)), .unset] [(.int (1 : Int32))])) _
    refine XS.istoreN X0.here hx rfl (hb hby d1_3) rfl (l' := #[.val (.ref a), .val (.int (0 : Int32)), .val (.int (1 : Int32))]) rfl ?_
    show Steps p.tables e below (s₁.setTop (mkF m 4 #[.val (.ref a), .val (.int (0 : Int32)), .val (.int (1 : Int32))] [])) _
    refine XS.iloadN X0.here hx rfl (hb hby d1_4) rfl ?_
    show Steps p.tables e below (s₁.setTop (mkF m 5 #[.val (.ref a), .val (.int (0 : Int32)), .val (.int (1 : Int32))] [(.int (1 : Int32))])) _
    refine XS.aloadN X0.here hx rfl (hb hby d1_5) rfl rfl ?_
    show Steps p.tables e below (s₁.setTop (mkF m 6 #[.val (.ref a), .val (.int (0 : Int32)), .val (.int (1 : Int32))] [(.ref a), (.int (1 : Int32))])) _
    refine lenA X0 hx hZ e0 F0 (n := (1 : Int32)) ln1 (g := (mkF m 6 #[.val (.ref a), .val (.int (0 : Int32)), .val (.int (1 : Int32))] [(.ref a), (.int (1 : Int32))])) rfl rfl (hb hby d1_6) _ ?_
    show Steps p.tables e below (s₁.setTop (mkF m 7 #[.val (.ref a), .val (.int (0 : Int32)), .val (.int (1 : Int32))] [(.int (1 : Int32)), (.int (1 : Int32))])) _
    refine XS.icmpYes X0.here hx rfl (pc0 := 7) (pc' := 30) rfl (hb hby d1_7) rfl (flt (by decide : ¬ ((1 : Int32) < (1 : Int32)))).2.1 (by decide) (by decide) ?_
    show Steps p.tables e below (s₁.setTop (mkF m 30 #[.val (.ref a), .val (.int (0 : Int32)), .val (.int (1 : Int32))] [])) _
    refine XS.iloadN X0.here hx rfl (hb hby d1_30) rfl ?_
    exact kt
  refine Go.fin X0 (v := some (.int (0 : Int32))) (fun h => by rw [Bd.returns] at h; cases h) Bd.notSynchronized ?_ (Nat.le_trans (Nat.le_refl 0) (by decide)) (Nat.le_trans (Nat.le_refl 0) (by decide)) (fun fs hr => retI X0 hx Bd.returns (hb hby d1_31) hr)
  · exact ⟨by rw [hf], N0, e0⟩
theorem pd_0 : parseMethodDescriptor "(II)I" = some ⟨[.int, .int], some .int⟩ := by decide +kernel
theorem d1_10 : decode prog_18_method_4_code 10 = .ok (.iload_n 1, 1) := by decide +kernel
theorem d1_11 : decode prog_18_method_4_code 11 = .ok (.aload_n 0, 1) := by decide +kernel
theorem d1_12 : decode prog_18_method_4_code 12 = .ok (.iload_n 2, 1) := by decide +kernel
theorem d1_13 : decode prog_18_method_4_code 13 = .ok (.iaload, 1) := by decide +kernel
theorem d1_14 : decode prog_18_method_4_code 14 = .ok (.aload_n 0, 1) := by decide +kernel
theorem d1_15 : decode prog_18_method_4_code 15 = .ok (.iload_n 2, 1) := by decide +kernel
theorem d1_16 : decode prog_18_method_4_code 16 = .ok (.iconst 1, 1) := by decide +kernel
theorem d1_17 : decode prog_18_method_4_code 17 = .ok (.isub, 1) := by decide +kernel
theorem d1_18 : decode prog_18_method_4_code 18 = .ok (.iaload, 1) := by decide +kernel
theorem d1_19 : decode prog_18_method_4_code 19 = .ok (.isub, 1) := by decide +kernel
theorem d1_20 : decode prog_18_method_4_code 20 = .ok (.invokestatic 26, 3) := by decide +kernel
theorem d1_23 : decode prog_18_method_4_code 23 = .ok (.istore_n 1, 1) := by decide +kernel
theorem d1_24 : decode prog_18_method_4_code 24 = .ok (.iinc 2 1, 3) := by decide +kernel
theorem d1_27 : decode prog_18_method_4_code 27 = .ok (.goto (-23), 3) := by decide +kernel
theorem ef_lon2 (m : MethodId) (x0 : Addr) : entryFrame m #[(.ref x0)] 3 = mkF m 0 #[.val (.ref x0), .unset, .unset] [] := by first | (simp [entryFrame, mkF, argsToLocals, Value.category]; done) | rfl
def lon2 (y0 : Int32) (y1 : Int32) : Int32 := (maxI (0 : Int32) (y1 - y0))
def Qlon2 (Z : State) (a : Addr) (y0 : Int32) (y1 : Int32) (RES : Int32) (h0 : Heap) (n0 : Nat) (v : Option Value) (h : Heap) (L : List Loc) : Prop := v = some (.int RES) ∧ Fr n0 L ∧ h = h0
set_option maxRecDepth 65536 in
set_option maxHeartbeats 40000000 in
theorem rm_lon2 (l : Launch) (Z : State) (a0 : Array Value) (hw : ∀ d ∈ tables_1, d.before a0 Z = true) (ws : List Jvm.Cond) (a : Addr) (y0 : Int32) (y1 : Int32) (h0 : Heap) (n0 : Nat) (Z0 : n0 ≤ h0.size) (F0 : VA Z h0 a .int ([y0, y1].map Value.int)) :
    MetFree l (⟨"com/example/laneweave/laneweave/Overlap", "longest", "([I)I"⟩ : MethodName) (head1 (Jvm.Cond.code (⟨"com/example/laneweave/laneweave/Overlap", "longest", "([I)I"⟩ : MethodName) prog_18_method_4_code 3 (some .int) :: ws) ({ frames := 1, cells := 0, slots := 0, locals := 13 } : Room)) (fun A_ U => A_ = #[(.ref a)] ∧ Z.Warmed39 U.vm ∧ U.heap = h0) (fun _ _ _ _ _ => True) (fun _ U o U' => ∃ v L, o = .returned v ∧ Qlon2 Z a y0 y1 (lon2 y0 y1) h0 n0 v U'.heap L ∧ FrameEnd U o U' L ({ frames := 1, cells := 0, slots := 0, locals := 13 } : Room).cells ({ frames := 1, cells := 0, slots := 0, locals := 13 } : Room).slots) := by
  refine MetFree.of_bodySF (plainFor_of_name pn_0) hisR ?_
  intro p e s m args below meth c s₁ Bd hml0 hP hK
  obtain ⟨rfl, hZ, hh⟩ := hP
  have hx := Bd.exec
  have hby := Bd.bytes
  have hml : c.maxLocals = 3 := hml0
  have hown : s.vm.findClass "com/example/laneweave/laneweave/Overlap" = some m.cls := findClass_of_methodNamed Bd.named
  have hnm := (name_of_methodNamed Bd.named Bd.method).1
  have X0 : Stand p l e ({ frames := 1, cells := 0, slots := 0, locals := 13 } : Room) s m #[(.ref a)] below meth c s₁ [] 0 0 := Stand.of_body Bd
  have e0 : s₁.heap = h0 := by rw [← hh, Bd.state]; rfl
  have N0 := Fr.nil n0
  obtain ⟨RES, hf⟩ : ∃ z, z = lon2 y0 y1 := ⟨_, rfl⟩
  rw [← hf]
  rw [lon2] at hf
  suffices HGO : Go p e below s (Qlon2 Z a y0 y1 RES h0 n0) ({ frames := 1, cells := 0, slots := 0, locals := 13 } : Room).cells ({ frames := 1, cells := 0, slots := 0, locals := 13 } : Room).slots s₁ (mkF m 0 #[.val (.ref a), .unset, .unset] []) from Go.cast (ef_lon2 m a) HGO
  have ln1 : (([y0, y1].map Value.int).length : Int) = ((2 : Int32)).toInt := (by rfl)
  have ix2 : 0 ≤ ((1 : Int32)).toInt ∧ ((1 : Int32)).toInt < (([y0, y1]).length : Int) := by constructor <;> first | decide | (simp; done)
  have ix3 : 0 ≤ ((0 : Int32)).toInt ∧ ((0 : Int32)).toInt < (([y0, y1]).length : Int) := by constructor <;> first | decide | (simp; done)
  obtain ⟨_, _, ⟨T4, L4, k4, n4⟩, -, X4, ⟨Lc4, hQ4, l4, y4, z4⟩, st4⟩ := Jvm.LawKit.callS X0 hx (y := (⟨"java/lang/Math", "max", "(II)I"⟩ : MethodName)) hown (mvT hZ (hw _ (List.mem_of_getElem? (i := 11) rfl))) (mvT hZ (hw _ (List.mem_of_getElem? (i := 8) rfl))) (mvT hZ (hw _ (List.mem_of_getElem? (i := 9) rfl))) (mvT hZ (hw _ (List.mem_of_getElem? (i := 10) rfl))) (by decide) (backOf (W := 0) (rm_maxI l Z a0 hw [] (0 : Int32) (y1 - y0)  h0 n0 Z0 ) hZ (hw _ (List.mem_of_getElem? (i := 10) rfl)) (hw _ (List.mem_of_getElem? (i := 9) rfl)) (by decide) (by decide)) (g := (mkF m 20 #[.val (.ref a), .val (.int (0 : Int32)), .val (.int (1 : Int32))] [(.int (y1 - y0)), (.int (0 : Int32))])) rfl (by rw [hml]; rfl) (argsL := [(.int (0 : Int32)), (.int (y1 - y0))]) (rest := []) (lenOf pd_0 rfl) rfl (by show 2 * 0 + _ ≤ _; exact Nat.le_of_eq rfl) (hb hby d1_20) (fun _ _ => ⟨rfl, e0, (Nat.le_trans (Nat.add_le_add_right (Nat.le_refl 0) 0) (by decide)), (Nat.le_trans (Nat.add_le_add_right (Nat.le_refl 0) 0) (by decide))⟩)
  dsimp only [Pt.U, Pt.locs, Pt.cells, Pt.slots] at X4 l4 y4 z4 st4 hQ4
  subst l4 y4 z4
  obtain ⟨rfl, N4q, e4⟩ := hQ4
  have N4 := Fr.app N0 N4q
  have ln5 : (([y0, y1].map Value.int).length : Int) = ((2 : Int32)).toInt := (by rfl)
  refine Go.step (T' := T4) (f' := (mkF m 31 #[.val (.ref a), .val (.int (maxI (0 : Int32) (y1 - y0))), .val (.int (2 : Int32))] [(.int (maxI (0 : Int32) (y1 - y0)))])) (fun t kt => ?_) ?_
  · show Steps p.tables e below (s₁.setTop (mkF m 0 #[.val (.ref a), .unset, .unset] [])) _
    refine XS.iconst X0.here hx rfl (hb hby d1_0) ?_
    show Steps p.tables e below (s₁.setTop (mkF m 1 #[.val (.ref a), .unset, .unset] [(.int (0 : Int32))])) _
    refine XS.istoreN X0.here hx rfl (hb hby d1_1) rfl (l' := #[.val (.ref a), .val (.int (0 : Int32)), .unset]) rfl ?_
    show Steps p.tables e below (s₁.setTop (mkF m 2 #[.val (.ref a), .val (.int (0 : Int32)), .unset] [])) _
    refine XS.iconst X0.here hx rfl (hb hby d1_2) ?_
    show Steps p.tables e below (s₁.setTop (mkF m 3 #[.val (.ref a), .val (.int (0 : Int32)), .unset] [(.int (1 : Int32))])) _
    refine XS.istoreN X0.here hx rfl (hb hby d1_3) rfl (l' := #[.val (.ref a), .val (.int (0 : Int32)), .val (.int (1 : Int32))]) rfl ?_
    show Steps p.tables e below (s₁.setTop (mkF m 4 #[.val (.ref a), .val (.int (0 : Int32)), .val (.int (1 : Int32))] [])) _
    refine XS.iloadN X0.here hx rfl (hb hby d1_4) rfl ?_
    show Steps p.tables e below (s₁.setTop (mkF m 5 #[.val (.ref a), .val (.int (0 : Int32)), .val (.int (1 : Int32))] [(.int (1 : Int32))])) _
    refine XS.aloadN X0.here hx rfl (hb hby d1_5) rfl rfl ?_
    show Steps p.tables e below (s₁.setTop (mkF m 6 #[.val (.ref a), .val (.int (0 : Int32)), .val (.int (1 : Int32))] [(.ref a), (.int (1 : Int32))])) _
    refine lenA X0 hx hZ e0 F0 (n := (2 : Int32)) ln1 (g := (mkF m 6 #[.val (.ref a), .val (.int (0 : Int32)), .val (.int (1 : Int32))] [(.ref a), (.int (1 : Int32))])) rfl rfl (hb hby d1_6) _ ?_
    show Steps p.tables e below (s₁.setTop (mkF m 7 #[.val (.ref a), .val (.int (0 : Int32)), .val (.int (1 : Int32))] [(.int (2 : Int32)), (.int (1 : Int32))])) _
    refine XS.icmpNo X0.here hx rfl (hb hby d1_7) rfl (tlt (by decide : ((1 : Int32) < (2 : Int32)))).2.1 ?_
    show Steps p.tables e below (s₁.setTop (mkF m 10 #[.val (.ref a), .val (.int (0 : Int32)), .val (.int (1 : Int32))] [])) _
    refine XS.iloadN X0.here hx rfl (hb hby d1_10) rfl ?_
    show Steps p.tables e below (s₁.setTop (mkF m 11 #[.val (.ref a), .val (.int (0 : Int32)), .val (.int (1 : Int32))] [(.int (0 : Int32))])) _
    refine XS.aloadN X0.here hx rfl (hb hby d1_11) rfl rfl ?_
    show Steps p.tables e below (s₁.setTop (mkF m 12 #[.val (.ref a), .val (.int (0 : Int32)), .val (.int (1 : Int32))] [(.ref a), (.int (0 : Int32))])) _
    refine XS.iloadN X0.here hx rfl (hb hby d1_12) rfl ?_
    show Steps p.tables e below (s₁.setTop (mkF m 13 #[.val (.ref a), .val (.int (0 : Int32)), .val (.int (1 : Int32))] [(.int (1 : Int32)), (.ref a), (.int (0 : Int32))])) _
    refine ldI X0 hx hZ e0 F0 ix2.1 ix2.2 (g := (mkF m 13 #[.val (.ref a), .val (.int (0 : Int32)), .val (.int (1 : Int32))] [(.int (1 : Int32)), (.ref a), (.int (0 : Int32))])) rfl rfl (hb hby d1_13) _ ?_
    show Steps p.tables e below (s₁.setTop (mkF m 14 #[.val (.ref a), .val (.int (0 : Int32)), .val (.int (1 : Int32))] [(.int y1), (.int (0 : Int32))])) _
    refine XS.aloadN X0.here hx rfl (hb hby d1_14) rfl rfl ?_
    show Steps p.tables e below (s₁.setTop (mkF m 15 #[.val (.ref a), .val (.int (0 : Int32)), .val (.int (1 : Int32))] [(.ref a), (.int y1), (.int (0 : Int32))])) _
    refine XS.iloadN X0.here hx rfl (hb hby d1_15) rfl ?_
    show Steps p.tables e below (s₁.setTop (mkF m 16 #[.val (.ref a), .val (.int (0 : Int32)), .val (.int (1 : Int32))] [(.int (1 : Int32)), (.ref a), (.int y1), (.int (0 : Int32))])) _
    refine XS.iconst X0.here hx rfl (hb hby d1_16) ?_
    show Steps p.tables e below (s₁.setTop (mkF m 17 #[.val (.ref a), .val (.int (0 : Int32)), .val (.int (1 : Int32))] [(.int (1 : Int32)), (.int (1 : Int32)), (.ref a), (.int y1), (.int (0 : Int32))])) _
    refine XS.isub X0.here hx rfl (hb hby d1_17) rfl ?_
    show Steps p.tables e below (s₁.setTop (mkF m 18 #[.val (.ref a), .val (.int (0 : Int32)), .val (.int (1 : Int32))] [(.int (0 : Int32)), (.ref a), (.int y1), (.int (0 : Int32))])) _
    refine ldI X0 hx hZ e0 F0 ix3.1 ix3.2 (g := (mkF m 18 #[.val (.ref a), .val (.int (0 : Int32)), .val (.int (1 : Int32))] [(.int (0 : Int32)), (.ref a), (.int y1), (.int (0 : Int32))])) rfl rfl (hb hby d1_18) _ ?_
    show Steps p.tables e below (s₁.setTop (mkF m 19 #[.val (.ref a), .val (.int (0 : Int32)), .val (.int (1 : Int32))] [(.int y0), (.int y1), (.int (0 : Int32))])) _
    refine XS.isub X0.here hx rfl (hb hby d1_19) rfl ?_
    show Steps p.tables e below (s₁.setTop (mkF m 20 #[.val (.ref a), .val (.int (0 : Int32)), .val (.int (1 : Int32))] [(.int (y1 - y0)), (.int (0 : Int32))])) _
    refine st4 _ ?_
    show Steps p.tables e below (T4.setTop (mkF m 23 #[.val (.ref a), .val (.int (0 : Int32)), .val (.int (1 : Int32))] [(.int (maxI (0 : Int32) (y1 - y0)))])) _
    refine XS.istoreN X4.here hx rfl (hb hby d1_23) rfl (l' := #[.val (.ref a), .val (.int (maxI (0 : Int32) (y1 - y0))), .val (.int (1 : Int32))]) rfl ?_
    show Steps p.tables e below (T4.setTop (mkF m 24 #[.val (.ref a), .val (.int (maxI (0 : Int32) (y1 - y0))), .val (.int (1 : Int32))] [])) _
    refine XS.iinc X4.here hx rfl (hb hby d1_24) rfl (l' := #[.val (.ref a), .val (.int (maxI (0 : Int32) (y1 - y0))), .val (.int (2 : Int32))]) rfl ?_
    show Steps p.tables e below (T4.setTop (mkF m 27 #[.val (.ref a), .val (.int (maxI (0 : Int32) (y1 - y0))), .val (.int (2 : Int32))] [])) _
    refine XS.goto X4.here hx rfl (pc0 := 27) (pc' := 4) rfl (hb hby d1_27) (by decide) (by decide) ?_
    show Steps p.tables e below (T4.setTop (mkF m 4 #[.val (.ref a), .val (.int (maxI (0 : Int32) (y1 - y0))), .val (.int (2 : Int32))] [])) _
    refine XS.iloadN X4.here hx rfl (hb hby d1_4) rfl ?_
    show Steps p.tables e below (T4.setTop (mkF m 5 #[.val (.ref a), .val (.int (maxI (0 : Int32) (y1 - y0))), .val (.int (2 : Int32))] [(.int (2 : Int32))])) _
    refine XS.aloadN X4.here hx rfl (hb hby d1_5) rfl rfl ?_
    show Steps p.tables e below (T4.setTop (mkF m 6 #[.val (.ref a), .val (.int (maxI (0 : Int32) (y1 - y0))), .val (.int (2 : Int32))] [(.ref a), (.int (2 : Int32))])) _
    refine lenA X4 hx hZ e4 F0 (n := (2 : Int32)) ln5 (g := (mkF m 6 #[.val (.ref a), .val (.int (maxI (0 : Int32) (y1 - y0))), .val (.int (2 : Int32))] [(.ref a), (.int (2 : Int32))])) rfl rfl (hb hby d1_6) _ ?_
    show Steps p.tables e below (T4.setTop (mkF m 7 #[.val (.ref a), .val (.int (maxI (0 : Int32) (y1 - y0))), .val (.int (2 : Int32))] [(.int (2 : Int32)), (.int (2 : Int32))])) _
    refine XS.icmpYes X4.here hx rfl (pc0 := 7) (pc' := 30) rfl (hb hby d1_7) rfl (flt (by decide : ¬ ((2 : Int32) < (2 : Int32)))).2.1 (by decide) (by decide) ?_
    show Steps p.tables e below (T4.setTop (mkF m 30 #[.val (.ref a), .val (.int (maxI (0 : Int32) (y1 - y0))), .val (.int (2 : Int32))] [])) _
    refine XS.iloadN X4.here hx rfl (hb hby d1_30) rfl ?_
    exact kt
  refine Go.fin X4 (v := some (.int (maxI (0 : Int32) (y1 - y0)))) (fun h => by rw [Bd.returns] at h; cases h) Bd.notSynchronized ?_ (Nat.le_trans (Nat.add_le_add_right (Nat.le_refl 0) 0) (by decide)) (Nat.le_trans (Nat.add_le_add_right (Nat.le_refl 0) 0) (by decide)) (fun fs hr => retI X4 hx Bd.returns (hb hby d1_31) hr)
  · exact ⟨by rw [hf], N4, e4⟩
theorem ef_lon3 (m : MethodId) (x0 : Addr) : entryFrame m #[(.ref x0)] 3 = mkF m 0 #[.val (.ref x0), .unset, .unset] [] := by first | (simp [entryFrame, mkF, argsToLocals, Value.category]; done) | rfl
def lon3 (y0 : Int32) (y1 : Int32) (y2 : Int32) : Int32 := (maxI (maxI (0 : Int32) (y1 - y0)) (y2 - y1))
def Qlon3 (Z : State) (a : Addr) (y0 : Int32) (y1 : Int32) (y2 : Int32) (RES : Int32) (h0 : Heap) (n0 : Nat) (v : Option Value) (h : Heap) (L : List Loc) : Prop := v = some (.int RES) ∧ Fr n0 L ∧ h = h0
set_option maxRecDepth 65536 in
set_option maxHeartbeats 40000000 in
theorem rm_lon3 (l : Launch) (Z : State) (a0 : Array Value) (hw : ∀ d ∈ tables_1, d.before a0 Z = true) (ws : List Jvm.Cond) (a : Addr) (y0 : Int32) (y1 : Int32) (y2 : Int32) (h0 : Heap) (n0 : Nat) (Z0 : n0 ≤ h0.size) (F0 : VA Z h0 a .int ([y0, y1, y2].map Value.int)) :
    MetFree l (⟨"com/example/laneweave/laneweave/Overlap", "longest", "([I)I"⟩ : MethodName) (head1 (Jvm.Cond.code (⟨"com/example/laneweave/laneweave/Overlap", "longest", "([I)I"⟩ : MethodName) prog_18_method_4_code 3 (some .int) :: ws) ({ frames := 1, cells := 0, slots := 0, locals := 13 } : Room)) (fun A_ U => A_ = #[(.ref a)] ∧ Z.Warmed39 U.vm ∧ U.heap = h0) (fun _ _ _ _ _ => True) (fun _ U o U' => ∃ v L, o = .returned v ∧ Qlon3 Z a y0 y1 y2 (lon3 y0 y1 y2) h0 n0 v U'.heap L ∧ FrameEnd U o U' L ({ frames := 1, cells := 0, slots := 0, locals := 13 } : Room).cells ({ frames := 1, cells := 0, slots := 0, locals := 13 } : Room).slots) := by
  refine MetFree.of_bodySF (plainFor_of_name pn_0) hisR ?_
  intro p e s m args below meth c s₁ Bd hml0 hP hK
  obtain ⟨rfl, hZ, hh⟩ := hP
  have hx := Bd.exec
  have hby := Bd.bytes
  have hml : c.maxLocals = 3 := hml0
  have hown : s.vm.findClass "com/example/laneweave/laneweave/Overlap" = some m.cls := findClass_of_methodNamed Bd.named
  have hnm := (name_of_methodNamed Bd.named Bd.method).1
  have X0 : Stand p l e ({ frames := 1, cells := 0, slots := 0, locals := 13 } : Room) s m #[(.ref a)] below meth c s₁ [] 0 0 := Stand.of_body Bd
  have e0 : s₁.heap = h0 := by rw [← hh, Bd.state]; rfl
  have N0 := Fr.nil n0
  obtain ⟨RES, hf⟩ : ∃ z, z = lon3 y0 y1 y2 := ⟨_, rfl⟩
  rw [← hf]
  rw [lon3] at hf
  suffices HGO : Go p e below s (Qlon3 Z a y0 y1 y2 RES h0 n0) ({ frames := 1, cells := 0, slots := 0, locals := 13 } : Room).cells ({ frames := 1, cells := 0, slots := 0, locals := 13 } : Room).slots s₁ (mkF m 0 #[.val (.ref a), .unset, .unset] []) from Go.cast (ef_lon3 m a) HGO
  have ln1 : (([y0, y1, y2].map Value.int).length : Int) = ((3 : Int32)).toInt := (by rfl)
  have ix2 : 0 ≤ ((1 : Int32)).toInt ∧ ((1 : Int32)).toInt < (([y0, y1, y2]).length : Int) := by constructor <;> first | decide | (simp; done)
  have ix3 : 0 ≤ ((0 : Int32)).toInt ∧ ((0 : Int32)).toInt < (([y0, y1, y2]).length : Int) := by constructor <;> first | decide | (simp; done)
  obtain ⟨_, _, ⟨T4, L4, k4, n4⟩, -, X4, ⟨Lc4, hQ4, l4, y4, z4⟩, st4⟩ := Jvm.LawKit.callS X0 hx (y := (⟨"java/lang/Math", "max", "(II)I"⟩ : MethodName)) hown (mvT hZ (hw _ (List.mem_of_getElem? (i := 11) rfl))) (mvT hZ (hw _ (List.mem_of_getElem? (i := 8) rfl))) (mvT hZ (hw _ (List.mem_of_getElem? (i := 9) rfl))) (mvT hZ (hw _ (List.mem_of_getElem? (i := 10) rfl))) (by decide) (backOf (W := 0) (rm_maxI l Z a0 hw [] (0 : Int32) (y1 - y0)  h0 n0 Z0 ) hZ (hw _ (List.mem_of_getElem? (i := 10) rfl)) (hw _ (List.mem_of_getElem? (i := 9) rfl)) (by decide) (by decide)) (g := (mkF m 20 #[.val (.ref a), .val (.int (0 : Int32)), .val (.int (1 : Int32))] [(.int (y1 - y0)), (.int (0 : Int32))])) rfl (by rw [hml]; rfl) (argsL := [(.int (0 : Int32)), (.int (y1 - y0))]) (rest := []) (lenOf pd_0 rfl) rfl (by show 2 * 0 + _ ≤ _; exact Nat.le_of_eq rfl) (hb hby d1_20) (fun _ _ => ⟨rfl, e0, (Nat.le_trans (Nat.add_le_add_right (Nat.le_refl 0) 0) (by decide)), (Nat.le_trans (Nat.add_le_add_right (Nat.le_refl 0) 0) (by decide))⟩)
  dsimp only [Pt.U, Pt.locs, Pt.cells, Pt.slots] at X4 l4 y4 z4 st4 hQ4
  subst l4 y4 z4
  obtain ⟨rfl, N4q, e4⟩ := hQ4
  have N4 := Fr.app N0 N4q
  have ln5 : (([y0, y1, y2].map Value.int).length : Int) = ((3 : Int32)).toInt := (by rfl)
  have ix6 : 0 ≤ ((2 : Int32)).toInt ∧ ((2 : Int32)).toInt < (([y0, y1, y2]).length : Int) := by constructor <;> first | decide | (simp; done)
  have ix7 : 0 ≤ ((1 : Int32)).toInt ∧ ((1 : Int32)).toInt < (([y0, y1, y2]).length : Int) := by constructor <;> first | decide | (simp; done)
  obtain ⟨_, _, ⟨T8, L8, k8, n8⟩, -, X8, ⟨Lc8, hQ8, l8, y8, z8⟩, st8⟩ := Jvm.LawKit.callS X4 hx (y := (⟨"java/lang/Math", "max", "(II)I"⟩ : MethodName)) hown (mvT hZ (hw _ (List.mem_of_getElem? (i := 11) rfl))) (mvT hZ (hw _ (List.mem_of_getElem? (i := 8) rfl))) (mvT hZ (hw _ (List.mem_of_getElem? (i := 9) rfl))) (mvT hZ (hw _ (List.mem_of_getElem? (i := 10) rfl))) (by decide) (backOf (W := 0) (rm_maxI l Z a0 hw [] (maxI (0 : Int32) (y1 - y0)) (y2 - y1)  h0 n0 Z0 ) hZ (hw _ (List.mem_of_getElem? (i := 10) rfl)) (hw _ (List.mem_of_getElem? (i := 9) rfl)) (by decide) (by decide)) (g := (mkF m 20 #[.val (.ref a), .val (.int (maxI (0 : Int32) (y1 - y0))), .val (.int (2 : Int32))] [(.int (y2 - y1)), (.int (maxI (0 : Int32) (y1 - y0)))])) rfl (by rw [hml]; rfl) (argsL := [(.int (maxI (0 : Int32) (y1 - y0))), (.int (y2 - y1))]) (rest := []) (lenOf pd_0 rfl) rfl (by show 2 * 0 + _ ≤ _; exact Nat.le_of_eq rfl) (hb hby d1_20) (fun _ _ => ⟨rfl, e4, (Nat.le_trans (Nat.add_le_add_right (Nat.add_le_add_right (Nat.le_refl 0) 0) 0) (by decide)), (Nat.le_trans (Nat.add_le_add_right (Nat.add_le_add_right (Nat.le_refl 0) 0) 0) (by decide))⟩)
  dsimp only [Pt.U, Pt.locs, Pt.cells, Pt.slots] at X8 l8 y8 z8 st8 hQ8
  subst l8 y8 z8
  obtain ⟨rfl, N8q, e8⟩ := hQ8
  have N8 := Fr.app N4 N8q
  have ln9 : (([y0, y1, y2].map Value.int).length : Int) = ((3 : Int32)).toInt := (by rfl)
  refine Go.step (T' := T8) (f' := (mkF m 31 #[.val (.ref a), .val (.int (maxI (maxI (0 : Int32) (y1 - y0)) (y2 - y1))), .val (.int (3 : Int32))] [(.int (maxI (maxI (0 : Int32) (y1 - y0)) (y2 - y1)))])) (fun t kt => ?_) ?_
  · show Steps p.tables e below (s₁.setTop (mkF m 0 #[.val (.ref a), .unset, .unset] [])) _
    refine XS.iconst X0.here hx rfl (hb hby d1_0) ?_
    show Steps p.tables e below (s₁.setTop (mkF m 1 #[.val (.ref a), .unset, .unset] [(.int (0 : Int32))])) _
    refine XS.istoreN X0.here hx rfl (hb hby d1_1) rfl (l' := #[.val (.ref a), .val (.int (0 : Int32)), .unset]) rfl ?_
    show Steps p.tables e below (s₁.setTop (mkF m 2 #[.val (.ref a), .val (.int (0 : Int32)), .unset] [])) _
    refine XS.iconst X0.here hx rfl (hb hby d1_2) ?_
    show Steps p.tables e below (s₁.setTop (mkF m 3 #[.val (.ref a), .val (.int (0 : Int32)), .unset] [(.int (1 : Int32))])) _
    refine XS.istoreN X0.here hx rfl (hb hby d1_3) rfl (l' := #[.val (.ref a), .val (.int (0 : Int32)), .val (.int (1 : Int32))]) rfl ?_
    show Steps p.tables e below (s₁.setTop (mkF m 4 #[.val (.ref a), .val (.int (0 : Int32)), .val (.int (1 : Int32))] [])) _
    refine XS.iloadN X0.here hx rfl (hb hby d1_4) rfl ?_
    show Steps p.tables e below (s₁.setTop (mkF m 5 #[.val (.ref a), .val (.int (0 : Int32)), .val (.int (1 : Int32))] [(.int (1 : Int32))])) _
    refine XS.aloadN X0.here hx rfl (hb hby d1_5) rfl rfl ?_
    show Steps p.tables e below (s₁.setTop (mkF m 6 #[.val (.ref a), .val (.int (0 : Int32)), .val (.int (1 : Int32))] [(.ref a), (.int (1 : Int32))])) _
    refine lenA X0 hx hZ e0 F0 (n := (3 : Int32)) ln1 (g := (mkF m 6 #[.val (.ref a), .val (.int (0 : Int32)), .val (.int (1 : Int32))] [(.ref a), (.int (1 : Int32))])) rfl rfl (hb hby d1_6) _ ?_
    show Steps p.tables e below (s₁.setTop (mkF m 7 #[.val (.ref a), .val (.int (0 : Int32)), .val (.int (1 : Int32))] [(.int (3 : Int32)), (.int (1 : Int32))])) _
    refine XS.icmpNo X0.here hx rfl (hb hby d1_7) rfl (tlt (by decide : ((1 : Int32) < (3 : Int32)))).2.1 ?_
    show Steps p.tables e below (s₁.setTop (mkF m 10 #[.val (.ref a), .val (.int (0 : Int32)), .val (.int (1 : Int32))] [])) _
    refine XS.iloadN X0.here hx rfl (hb hby d1_10) rfl ?_
    show Steps p.tables e below (s₁.setTop (mkF m 11 #[.val (.ref a), .val (.int (0 : Int32)), .val (.int (1 : Int32))] [(.int (0 : Int32))])) _
    refine XS.aloadN X0.here hx rfl (hb hby d1_11) rfl rfl ?_
    show Steps p.tables e below (s₁.setTop (mkF m 12 #[.val (.ref a), .val (.int (0 : Int32)), .val (.int (1 : Int32))] [(.ref a), (.int (0 : Int32))])) _
    refine XS.iloadN X0.here hx rfl (hb hby d1_12) rfl ?_
    show Steps p.tables e below (s₁.setTop (mkF m 13 #[.val (.ref a), .val (.int (0 : Int32)), .val (.int (1 : Int32))] [(.int (1 : Int32)), (.ref a), (.int (0 : Int32))])) _
    refine ldI X0 hx hZ e0 F0 ix2.1 ix2.2 (g := (mkF m 13 #[.val (.ref a), .val (.int (0 : Int32)), .val (.int (1 : Int32))] [(.int (1 : Int32)), (.ref a), (.int (0 : Int32))])) rfl rfl (hb hby d1_13) _ ?_
    show Steps p.tables e below (s₁.setTop (mkF m 14 #[.val (.ref a), .val (.int (0 : Int32)), .val (.int (1 : Int32))] [(.int y1), (.int (0 : Int32))])) _
    refine XS.aloadN X0.here hx rfl (hb hby d1_14) rfl rfl ?_
    show Steps p.tables e below (s₁.setTop (mkF m 15 #[.val (.ref a), .val (.int (0 : Int32)), .val (.int (1 : Int32))] [(.ref a), (.int y1), (.int (0 : Int32))])) _
    refine XS.iloadN X0.here hx rfl (hb hby d1_15) rfl ?_
    show Steps p.tables e below (s₁.setTop (mkF m 16 #[.val (.ref a), .val (.int (0 : Int32)), .val (.int (1 : Int32))] [(.int (1 : Int32)), (.ref a), (.int y1), (.int (0 : Int32))])) _
    refine XS.iconst X0.here hx rfl (hb hby d1_16) ?_
    show Steps p.tables e below (s₁.setTop (mkF m 17 #[.val (.ref a), .val (.int (0 : Int32)), .val (.int (1 : Int32))] [(.int (1 : Int32)), (.int (1 : Int32)), (.ref a), (.int y1), (.int (0 : Int32))])) _
    refine XS.isub X0.here hx rfl (hb hby d1_17) rfl ?_
    show Steps p.tables e below (s₁.setTop (mkF m 18 #[.val (.ref a), .val (.int (0 : Int32)), .val (.int (1 : Int32))] [(.int (0 : Int32)), (.ref a), (.int y1), (.int (0 : Int32))])) _
    refine ldI X0 hx hZ e0 F0 ix3.1 ix3.2 (g := (mkF m 18 #[.val (.ref a), .val (.int (0 : Int32)), .val (.int (1 : Int32))] [(.int (0 : Int32)), (.ref a), (.int y1), (.int (0 : Int32))])) rfl rfl (hb hby d1_18) _ ?_
    show Steps p.tables e below (s₁.setTop (mkF m 19 #[.val (.ref a), .val (.int (0 : Int32)), .val (.int (1 : Int32))] [(.int y0), (.int y1), (.int (0 : Int32))])) _
    refine XS.isub X0.here hx rfl (hb hby d1_19) rfl ?_
    show Steps p.tables e below (s₁.setTop (mkF m 20 #[.val (.ref a), .val (.int (0 : Int32)), .val (.int (1 : Int32))] [(.int (y1 - y0)), (.int (0 : Int32))])) _
    refine st4 _ ?_
    show Steps p.tables e below (T4.setTop (mkF m 23 #[.val (.ref a), .val (.int (0 : Int32)), .val (.int (1 : Int32))] [(.int (maxI (0 : Int32) (y1 - y0)))])) _
    refine XS.istoreN X4.here hx rfl (hb hby d1_23) rfl (l' := #[.val (.ref a), .val (.int (maxI (0 : Int32) (y1 - y0))), .val (.int (1 : Int32))]) rfl ?_
    show Steps p.tables e below (T4.setTop (mkF m 24 #[.val (.ref a), .val (.int (maxI (0 : Int32) (y1 - y0))), .val (.int (1 : Int32))] [])) _
    refine XS.iinc X4.here hx rfl (hb hby d1_24) rfl (l' := #[.val (.ref a), .val (.int (maxI (0 : Int32) (y1 - y0))), .val (.int (2 : Int32))]) rfl ?_
    show Steps p.tables e below (T4.setTop (mkF m 27 #[.val (.ref a), .val (.int (maxI (0 : Int32) (y1 - y0))), .val (.int (2 : Int32))] [])) _
    refine XS.goto X4.here hx rfl (pc0 := 27) (pc' := 4) rfl (hb hby d1_27) (by decide) (by decide) ?_
    show Steps p.tables e below (T4.setTop (mkF m 4 #[.val (.ref a), .val (.int (maxI (0 : Int32) (y1 - y0))), .val (.int (2 : Int32))] [])) _
    refine XS.iloadN X4.here hx rfl (hb hby d1_4) rfl ?_
    show Steps p.tables e below (T4.setTop (mkF m 5 #[.val (.ref a), .val (.int (maxI (0 : Int32) (y1 - y0))), .val (.int (2 : Int32))] [(.int (2 : Int32))])) _
    refine XS.aloadN X4.here hx rfl (hb hby d1_5) rfl rfl ?_
    show Steps p.tables e below (T4.setTop (mkF m 6 #[.val (.ref a), .val (.int (maxI (0 : Int32) (y1 - y0))), .val (.int (2 : Int32))] [(.ref a), (.int (2 : Int32))])) _
    refine lenA X4 hx hZ e4 F0 (n := (3 : Int32)) ln5 (g := (mkF m 6 #[.val (.ref a), .val (.int (maxI (0 : Int32) (y1 - y0))), .val (.int (2 : Int32))] [(.ref a), (.int (2 : Int32))])) rfl rfl (hb hby d1_6) _ ?_
    show Steps p.tables e below (T4.setTop (mkF m 7 #[.val (.ref a), .val (.int (maxI (0 : Int32) (y1 - y0))), .val (.int (2 : Int32))] [(.int (3 : Int32)), (.int (2 : Int32))])) _
    refine XS.icmpNo X4.here hx rfl (hb hby d1_7) rfl (tlt (by decide : ((2 : Int32) < (3 : Int32)))).2.1 ?_
    show Steps p.tables e below (T4.setTop (mkF m 10 #[.val (.ref a), .val (.int (maxI (0 : Int32) (y1 - y0))), .val (.int (2 : Int32))] [])) _
    refine XS.iloadN X4.here hx rfl (hb hby d1_10) rfl ?_
    show Steps p.tables e below (T4.setTop (mkF m 11 #[.val (.ref a), .val (.int (maxI (0 : Int32) (y1 - y0))), .val (.int (2 : Int32))] [(.int (maxI (0 : Int32) (y1 - y0)))])) _
    refine XS.aloadN X4.here hx rfl (hb hby d1_11) rfl rfl ?_
    show Steps p.tables e below (T4.setTop (mkF m 12 #[.val (.ref a), .val (.int (maxI (0 : Int32) (y1 - y0))), .val (.int (2 : Int32))] [(.ref a), (.int (maxI (0 : Int32) (y1 - y0)))])) _
    refine XS.iloadN X4.here hx rfl (hb hby d1_12) rfl ?_
    show Steps p.tables e below (T4.setTop (mkF m 13 #[.val (.ref a), .val (.int (maxI (0 : Int32) (y1 - y0))), .val (.int (2 : Int32))] [(.int (2 : Int32)), (.ref a), (.int (maxI (0 : Int32) (y1 - y0)))])) _
    refine ldI X4 hx hZ e4 F0 ix6.1 ix6.2 (g := (mkF m 13 #[.val (.ref a), .val (.int (maxI (0 : Int32) (y1 - y0))), .val (.int (2 : Int32))] [(.int (2 : Int32)), (.ref a), (.int (maxI (0 : Int32) (y1 - y0)))])) rfl rfl (hb hby d1_13) _ ?_
    show Steps p.tables e below (T4.setTop (mkF m 14 #[.val (.ref a), .val (.int (maxI (0 : Int32) (y1 - y0))), .val (.int (2 : Int32))] [(.int y2), (.int (maxI (0 : Int32) (y1 - y0)))])) _
    refine XS.aloadN X4.here hx rfl (hb hby d1_14) rfl rfl ?_
    show Steps p.tables e below (T4.setTop (mkF m 15 #[.val (.ref a), .val (.int (maxI (0 : Int32) (y1 - y0))), .val (.int (2 : Int32))] [(.ref a), (.int y2), (.int (maxI (0 : Int32) (y1 - y0)))])) _
    refine XS.iloadN X4.here hx rfl (hb hby d1_15) rfl ?_
    show Steps p.tables e below (T4.setTop (mkF m 16 #[.val (.ref a), .val (.int (maxI (0 : Int32) (y1 - y0))), .val (.int (2 : Int32))] [(.int (2 : Int32)), (.ref a), (.int y2), (.int (maxI (0 : Int32) (y1 - y0)))])) _
    refine XS.iconst X4.here hx rfl (hb hby d1_16) ?_
    show Steps p.tables e below (T4.setTop (mkF m 17 #[.val (.ref a), .val (.int (maxI (0 : Int32) (y1 - y0))), .val (.int (2 : Int32))] [(.int (1 : Int32)), (.int (2 : Int32)), (.ref a), (.int y2), (.int (maxI (0 : Int32) (y1 - y0)))])) _
    refine XS.isub X4.here hx rfl (hb hby d1_17) rfl ?_
    show Steps p.tables e below (T4.setTop (mkF m 18 #[.val (.ref a), .val (.int (maxI (0 : Int32) (y1 - y0))), .val (.int (2 : Int32))] [(.int (1 : Int32)), (.ref a), (.int y2), (.int (maxI (0 : Int32) (y1 - y0)))])) _
    refine ldI X4 hx hZ e4 F0 ix7.1 ix7.2 (g := (mkF m 18 #[.val (.ref a), .val (.int (maxI (0 : Int32) (y1 - y0))), .val (.int (2 : Int32))] [(.int (1 : Int32)), (.ref a), (.int y2), (.int (maxI (0 : Int32) (y1 - y0)))])) rfl rfl (hb hby d1_18) _ ?_
    show Steps p.tables e below (T4.setTop (mkF m 19 #[.val (.ref a), .val (.int (maxI (0 : Int32) (y1 - y0))), .val (.int (2 : Int32))] [(.int y1), (.int y2), (.int (maxI (0 : Int32) (y1 - y0)))])) _
    refine XS.isub X4.here hx rfl (hb hby d1_19) rfl ?_
    show Steps p.tables e below (T4.setTop (mkF m 20 #[.val (.ref a), .val (.int (maxI (0 : Int32) (y1 - y0))), .val (.int (2 : Int32))] [(.int (y2 - y1)), (.int (maxI (0 : Int32) (y1 - y0)))])) _
    refine st8 _ ?_
    show Steps p.tables e below (T8.setTop (mkF m 23 #[.val (.ref a), .val (.int (maxI (0 : Int32) (y1 - y0))), .val (.int (2 : Int32))] [(.int (maxI (maxI (0 : Int32) (y1 - y0)) (y2 - y1)))])) _
    refine XS.istoreN X8.here hx rfl (hb hby d1_23) rfl (l' := #[.val (.ref a), .val (.int (maxI (maxI (0 : Int32) (y1 - y0)) (y2 - y1))), .val (.int (2 : Int32))]) rfl ?_
    show Steps p.tables e below (T8.setTop (mkF m 24 #[.val (.ref a), .val (.int (maxI (maxI (0 : Int32) (y1 - y0)) (y2 - y1))), .val (.int (2 : Int32))] [])) _
    refine XS.iinc X8.here hx rfl (hb hby d1_24) rfl (l' := #[.val (.ref a), .val (.int (maxI (maxI (0 : Int32) (y1 - y0)) (y2 - y1))), .val (.int (3 : Int32))]) rfl ?_
    show Steps p.tables e below (T8.setTop (mkF m 27 #[.val (.ref a), .val (.int (maxI (maxI (0 : Int32) (y1 - y0)) (y2 - y1))), .val (.int (3 : Int32))] [])) _
    refine XS.goto X8.here hx rfl (pc0 := 27) (pc' := 4) rfl (hb hby d1_27) (by decide) (by decide) ?_
    show Steps p.tables e below (T8.setTop (mkF m 4 #[.val (.ref a), .val (.int (maxI (maxI (0 : Int32) (y1 - y0)) (y2 - y1))), .val (.int (3 : Int32))] [])) _
    refine XS.iloadN X8.here hx rfl (hb hby d1_4) rfl ?_
    show Steps p.tables e below (T8.setTop (mkF m 5 #[.val (.ref a), .val (.int (maxI (maxI (0 : Int32) (y1 - y0)) (y2 - y1))), .val (.int (3 : Int32))] [(.int (3 : Int32))])) _
    refine XS.aloadN X8.here hx rfl (hb hby d1_5) rfl rfl ?_
    show Steps p.tables e below (T8.setTop (mkF m 6 #[.val (.ref a), .val (.int (maxI (maxI (0 : Int32) (y1 - y0)) (y2 - y1))), .val (.int (3 : Int32))] [(.ref a), (.int (3 : Int32))])) _
    refine lenA X8 hx hZ e8 F0 (n := (3 : Int32)) ln9 (g := (mkF m 6 #[.val (.ref a), .val (.int (maxI (maxI (0 : Int32) (y1 - y0)) (y2 - y1))), .val (.int (3 : Int32))] [(.ref a), (.int (3 : Int32))])) rfl rfl (hb hby d1_6) _ ?_
    show Steps p.tables e below (T8.setTop (mkF m 7 #[.val (.ref a), .val (.int (maxI (maxI (0 : Int32) (y1 - y0)) (y2 - y1))), .val (.int (3 : Int32))] [(.int (3 : Int32)), (.int (3 : Int32))])) _
    refine XS.icmpYes X8.here hx rfl (pc0 := 7) (pc' := 30) rfl (hb hby d1_7) rfl (flt (by decide : ¬ ((3 : Int32) < (3 : Int32)))).2.1 (by decide) (by decide) ?_
    show Steps p.tables e below (T8.setTop (mkF m 30 #[.val (.ref a), .val (.int (maxI (maxI (0 : Int32) (y1 - y0)) (y2 - y1))), .val (.int (3 : Int32))] [])) _
    refine XS.iloadN X8.here hx rfl (hb hby d1_30) rfl ?_
    exact kt
  refine Go.fin X8 (v := some (.int (maxI (maxI (0 : Int32) (y1 - y0)) (y2 - y1)))) (fun h => by rw [Bd.returns] at h; cases h) Bd.notSynchronized ?_ (Nat.le_trans (Nat.add_le_add_right (Nat.add_le_add_right (Nat.le_refl 0) 0) 0) (by decide)) (Nat.le_trans (Nat.add_le_add_right (Nat.add_le_add_right (Nat.le_refl 0) 0) 0) (by decide)) (fun fs hr => retI X8 hx Bd.returns (hb hby d1_31) hr)
  · exact ⟨by rw [hf], N8, e8⟩
theorem ef_lon4 (m : MethodId) (x0 : Addr) : entryFrame m #[(.ref x0)] 3 = mkF m 0 #[.val (.ref x0), .unset, .unset] [] := by first | (simp [entryFrame, mkF, argsToLocals, Value.category]; done) | rfl
def lon4 (y0 : Int32) (y1 : Int32) (y2 : Int32) (y3 : Int32) : Int32 := (maxI (maxI (maxI (0 : Int32) (y1 - y0)) (y2 - y1)) (y3 - y2))
def Qlon4 (Z : State) (a : Addr) (y0 : Int32) (y1 : Int32) (y2 : Int32) (y3 : Int32) (RES : Int32) (h0 : Heap) (n0 : Nat) (v : Option Value) (h : Heap) (L : List Loc) : Prop := v = some (.int RES) ∧ Fr n0 L ∧ h = h0
set_option maxRecDepth 65536 in
set_option maxHeartbeats 40000000 in
theorem rm_lon4 (l : Launch) (Z : State) (a0 : Array Value) (hw : ∀ d ∈ tables_1, d.before a0 Z = true) (ws : List Jvm.Cond) (a : Addr) (y0 : Int32) (y1 : Int32) (y2 : Int32) (y3 : Int32) (h0 : Heap) (n0 : Nat) (Z0 : n0 ≤ h0.size) (F0 : VA Z h0 a .int ([y0, y1, y2, y3].map Value.int)) :
    MetFree l (⟨"com/example/laneweave/laneweave/Overlap", "longest", "([I)I"⟩ : MethodName) (head1 (Jvm.Cond.code (⟨"com/example/laneweave/laneweave/Overlap", "longest", "([I)I"⟩ : MethodName) prog_18_method_4_code 3 (some .int) :: ws) ({ frames := 1, cells := 0, slots := 0, locals := 13 } : Room)) (fun A_ U => A_ = #[(.ref a)] ∧ Z.Warmed39 U.vm ∧ U.heap = h0) (fun _ _ _ _ _ => True) (fun _ U o U' => ∃ v L, o = .returned v ∧ Qlon4 Z a y0 y1 y2 y3 (lon4 y0 y1 y2 y3) h0 n0 v U'.heap L ∧ FrameEnd U o U' L ({ frames := 1, cells := 0, slots := 0, locals := 13 } : Room).cells ({ frames := 1, cells := 0, slots := 0, locals := 13 } : Room).slots) := by
  refine MetFree.of_bodySF (plainFor_of_name pn_0) hisR ?_
  intro p e s m args below meth c s₁ Bd hml0 hP hK
  obtain ⟨rfl, hZ, hh⟩ := hP
  have hx := Bd.exec
  have hby := Bd.bytes
  have hml : c.maxLocals = 3 := hml0
  have hown : s.vm.findClass "com/example/laneweave/laneweave/Overlap" = some m.cls := findClass_of_methodNamed Bd.named
  have hnm := (name_of_methodNamed Bd.named Bd.method).1
  have X0 : Stand p l e ({ frames := 1, cells := 0, slots := 0, locals := 13 } : Room) s m #[(.ref a)] below meth c s₁ [] 0 0 := Stand.of_body Bd
  have e0 : s₁.heap = h0 := by rw [← hh, Bd.state]; rfl
  have N0 := Fr.nil n0
  obtain ⟨RES, hf⟩ : ∃ z, z = lon4 y0 y1 y2 y3 := ⟨_, rfl⟩
  rw [← hf]
  rw [lon4] at hf
  suffices HGO : Go p e below s (Qlon4 Z a y0 y1 y2 y3 RES h0 n0) ({ frames := 1, cells := 0, slots := 0, locals := 13 } : Room).cells ({ frames := 1, cells := 0, slots := 0, locals := 13 } : Room).slots s₁ (mkF m 0 #[.val (.ref a), .unset, .unset] []) from Go.cast (ef_lon4 m a) HGO
  have ln1 : (([y0, y1, y2, y3].map Value.int).length : Int) = ((4 : Int32)).toInt := (by rfl)
  have ix2 : 0 ≤ ((1 : Int32)).toInt ∧ ((1 : Int32)).toInt < (([y0, y1, y2, y3]).length : Int) := by constructor <;> first | decide | (simp; done)
  have ix3 : 0 ≤ ((0 : Int32)).toInt ∧ ((0 : Int32)).toInt < (([y0, y1, y2, y3]).length : Int) := by constructor <;> first | decide | (simp; done)
  obtain ⟨_, _, ⟨T4, L4, k4, n4⟩, -, X4, ⟨Lc4, hQ4, l4, y4, z4⟩, st4⟩ := Jvm.LawKit.callS X0 hx (y := (⟨"java/lang/Math", "max", "(II)I"⟩ : MethodName)) hown (mvT hZ (hw _ (List.mem_of_getElem? (i := 11) rfl))) (mvT hZ (hw _ (List.mem_of_getElem? (i := 8) rfl))) (mvT hZ (hw _ (List.mem_of_getElem? (i := 9) rfl))) (mvT hZ (hw _ (List.mem_of_getElem? (i := 10) rfl))) (by decide) (backOf (W := 0) (rm_maxI l Z a0 hw [] (0 : Int32) (y1 - y0)  h0 n0 Z0 ) hZ (hw _ (List.mem_of_getElem? (i := 10) rfl)) (hw _ (List.mem_of_getElem? (i := 9) rfl)) (by decide) (by decide)) (g := (mkF m 20 #[.val (.ref a), .val (.int (0 : Int32)), .val (.int (1 : Int32))] [(.int (y1 - y0)), (.int (0 : Int32))])) rfl (by rw [hml]; rfl) (argsL := [(.int (0 : Int32)), (.int (y1 - y0))]) (rest := []) (lenOf pd_0 rfl) rfl (by show 2 * 0 + _ ≤ _; exact Nat.le_of_eq rfl) (hb hby d1_20) (fun _ _ => ⟨rfl, e0, (Nat.le_trans (Nat.add_le_add_right (Nat.le_refl 0) 0) (by decide)), (Nat.le_trans (Nat.add_le_add_right (Nat.le_refl 0) 0) (by decide))⟩)
  dsimp only [Pt.U, Pt.locs, Pt.cells, Pt.slots] at X4 l4 y4 z4 st4 hQ4
  subst l4 y4 z4
  obtain ⟨rfl, N4q, e4⟩ := hQ4
  have N4 := Fr.app N0 N4q
  have ln5 : (([y0, y1, y2, y3].map Value.int).length : Int) = ((4 : Int32)).toInt := (by rfl)
  have ix6 : 0 ≤ ((2 : Int32)).toInt ∧ ((2 : Int32)).toInt < (([y0, y1, y2, y3]).length : Int) := by constructor <;> first | decide | (simp; done)
  have ix7 : 0 ≤ ((1 : Int32)).toInt ∧ ((1 : Int32)).toInt < (([y0, y1, y2, y3]).length : Int) := by constructor <;> first | decide | (simp; done)
  obtain ⟨_, _, ⟨T8, L8, k8, n8⟩, -, X8, ⟨Lc8, hQ8, l8, y8, z8⟩, st8⟩ := Jvm.LawKit.callS X4 hx (y := (⟨"java/lang/Math", "max", "(II)I"⟩ : MethodName)) hown (mvT hZ (hw _ (List.mem_of_getElem? (i := 11) rfl))) (mvT hZ (hw _ (List.mem_of_getElem? (i := 8) rfl))) (mvT hZ (hw _ (List.mem_of_getElem? (i := 9) rfl))) (mvT hZ (hw _ (List.mem_of_getElem? (i := 10) rfl))) (by decide) (backOf (W := 0) (rm_maxI l Z a0 hw [] (maxI (0 : Int32) (y1 - y0)) (y2 - y1)  h0 n0 Z0 ) hZ (hw _ (List.mem_of_getElem? (i := 10) rfl)) (hw _ (List.mem_of_getElem? (i := 9) rfl)) (by decide) (by decide)) (g := (mkF m 20 #[.val (.ref a), .val (.int (maxI (0 : Int32) (y1 - y0))), .val (.int (2 : Int32))] [(.int (y2 - y1)), (.int (maxI (0 : Int32) (y1 - y0)))])) rfl (by rw [hml]; rfl) (argsL := [(.int (maxI (0 : Int32) (y1 - y0))), (.int (y2 - y1))]) (rest := []) (lenOf pd_0 rfl) rfl (by show 2 * 0 + _ ≤ _; exact Nat.le_of_eq rfl) (hb hby d1_20) (fun _ _ => ⟨rfl, e4, (Nat.le_trans (Nat.add_le_add_right (Nat.add_le_add_right (Nat.le_refl 0) 0) 0) (by decide)), (Nat.le_trans (Nat.add_le_add_right (Nat.add_le_add_right (Nat.le_refl 0) 0) 0) (by decide))⟩)
  dsimp only [Pt.U, Pt.locs, Pt.cells, Pt.slots] at X8 l8 y8 z8 st8 hQ8
  subst l8 y8 z8
  obtain ⟨rfl, N8q, e8⟩ := hQ8
  have N8 := Fr.app N4 N8q
  have ln9 : (([y0, y1, y2, y3].map Value.int).length : Int) = ((4 : Int32)).toInt := (by rfl)
  have ix10 : 0 ≤ ((3 : Int32)).toInt ∧ ((3 : Int32)).toInt < (([y0, y1, y2, y3]).length : Int) := by constructor <;> first | decide | (simp; done)
  have ix11 : 0 ≤ ((2 : Int32)).toInt ∧ ((2 : Int32)).toInt < (([y0, y1, y2, y3]).length : Int) := by constructor <;> first | decide | (simp; done)
  obtain ⟨_, _, ⟨T12, L12, k12, n12⟩, -, X12, ⟨Lc12, hQ12, l12, y12, z12⟩, st12⟩ := Jvm.LawKit.callS X8 hx (y := (⟨"java/lang/Math", "max", "(II)I"⟩ : MethodName)) hown (mvT hZ (hw _ (List.mem_of_getElem? (i := 11) rfl))) (mvT hZ (hw _ (List.mem_of_getElem? (i := 8) rfl))) (mvT hZ (hw _ (List.mem_of_getElem? (i := 9) rfl))) (mvT hZ (hw _ (List.mem_of_getElem? (i := 10) rfl))) (by decide) (backOf (W := 0) (rm_maxI l Z a0 hw [] (maxI (maxI (0 : Int32) (y1 - y0)) (y2 - y1)) (y3 - y2)  h0 n0 Z0 ) hZ (hw _ (List.mem_of_getElem? (i := 10) rfl)) (hw _ (List.mem_of_getElem? (i := 9) rfl)) (by decide) (by decide)) (g := (mkF m 20 #[.val (.ref a), .val (.int (maxI (maxI (0 : Int32) (y1 - y0)) (y2 - y1))), .val (.int (3 : Int32))] [(.int (y3 - y2)), (.int (maxI (maxI (0 : Int32) (y1 - y0)) (y2 - y1)))])) rfl (by rw [hml]; rfl) (argsL := [(.int (maxI (maxI (0 : Int32) (y1 - y0)) (y2 - y1))), (.int (y3 - y2))]) (rest := []) (lenOf pd_0 rfl) rfl (by show 2 * 0 + _ ≤ _; exact Nat.le_of_eq rfl) (hb hby d1_20) (fun _ _ => ⟨rfl, e8, (Nat.le_trans (Nat.add_le_add_right (Nat.add_le_add_right (Nat.add_le_add_right (Nat.le_refl 0) 0) 0) 0) (by decide)), (Nat.le_trans (Nat.add_le_add_right (Nat.add_le_add_right (Nat.add_le_add_right (Nat.le_refl 0) 0) 0) 0) (by decide))⟩)
  dsimp only [Pt.U, Pt.locs, Pt.cells, Pt.slots] at X12 l12 y12 z12 st12 hQ12
  subst l12 y12 z12
  obtain ⟨rfl, N12q, e12⟩ := hQ12
  have N12 := Fr.app N8 N12q
  have ln13 : (([y0, y1, y2, y3].map Value.int).length : Int) = ((4 : Int32)).toInt := (by rfl)
  refine Go.step (T' := T12) (f' := (mkF m 31 #[.val (.ref a), .val (.int (maxI (maxI (maxI (0 : Int32) (y1 - y0)) (y2 - y1)) (y3 - y2))), .val (.int (4 : Int32))] [(.int (maxI (maxI (maxI (0 : Int32) (y1 - y0)) (y2 - y1)) (y3 - y2)))])) (fun t kt => ?_) ?_
  · show Steps p.tables e below (s₁.setTop (mkF m 0 #[.val (.ref a), .unset, .unset] [])) _
    refine XS.iconst X0.here hx rfl (hb hby d1_0) ?_
    show Steps p.tables e below (s₁.setTop (mkF m 1 #[.val (.ref a), .unset, .unset] [(.int (0 : Int32))])) _
    refine XS.istoreN X0.here hx rfl (hb hby d1_1) rfl (l' := #[.val (.ref a), .val (.int (0 : Int32)), .unset]) rfl ?_
    show Steps p.tables e below (s₁.setTop (mkF m 2 #[.val (.ref a), .val (.int (0 : Int32)), .unset] [])) _
    refine XS.iconst X0.here hx rfl (hb hby d1_2) ?_
    show Steps p.tables e below (s₁.setTop (mkF m 3 #[.val (.ref a), .val (.int (0 : Int32)), .unset] [(.int (1 : Int32))])) _
    refine XS.istoreN X0.here hx rfl (hb hby d1_3) rfl (l' := #[.val (.ref a), .val (.int (0 : Int32)), .val (.int (1 : Int32))]) rfl ?_
    show Steps p.tables e below (s₁.setTop (mkF m 4 #[.val (.ref a), .val (.int (0 : Int32)), .val (.int (1 : Int32))] [])) _
    refine XS.iloadN X0.here hx rfl (hb hby d1_4) rfl ?_
    show Steps p.tables e below (s₁.setTop (mkF m 5 #[.val (.ref a), .val (.int (0 : Int32)), .val (.int (1 : Int32))] [(.int (1 : Int32))])) _
    refine XS.aloadN X0.here hx rfl (hb hby d1_5) rfl rfl ?_
    show Steps p.tables e below (s₁.setTop (mkF m 6 #[.val (.ref a), .val (.int (0 : Int32)), .val (.int (1 : Int32))] [(.ref a), (.int (1 : Int32))])) _
    refine lenA X0 hx hZ e0 F0 (n := (4 : Int32)) ln1 (g := (mkF m 6 #[.val (.ref a), .val (.int (0 : Int32)), .val (.int (1 : Int32))] [(.ref a), (.int (1 : Int32))])) rfl rfl (hb hby d1_6) _ ?_
    show Steps p.tables e below (s₁.setTop (mkF m 7 #[.val (.ref a), .val (.int (0 : Int32)), .val (.int (1 : Int32))] [(.int (4 : Int32)), (.int (1 : Int32))])) _
    refine XS.icmpNo X0.here hx rfl (hb hby d1_7) rfl (tlt (by decide : ((1 : Int32) < (4 : Int32)))).2.1 ?_
    show Steps p.tables e below (s₁.setTop (mkF m 10 #[.val (.ref a), .val (.int (0 : Int32)), .val (.int (1 : Int32))] [])) _
    refine XS.iloadN X0.here hx rfl (hb hby d1_10) rfl ?_
    show Steps p.tables e below (s₁.setTop (mkF m 11 #[.val (.ref a), .val (.int (0 : Int32)), .val (.int (1 : Int32))] [(.int (0 : Int32))])) _
    refine XS.aloadN X0.here hx rfl (hb hby d1_11) rfl rfl ?_
    show Steps p.tables e below (s₁.setTop (mkF m 12 #[.val (.ref a), .val (.int (0 : Int32)), .val (.int (1 : Int32))] [(.ref a), (.int (0 : Int32))])) _
    refine XS.iloadN X0.here hx rfl (hb hby d1_12) rfl ?_
    show Steps p.tables e below (s₁.setTop (mkF m 13 #[.val (.ref a), .val (.int (0 : Int32)), .val (.int (1 : Int32))] [(.int (1 : Int32)), (.ref a), (.int (0 : Int32))])) _
    refine ldI X0 hx hZ e0 F0 ix2.1 ix2.2 (g := (mkF m 13 #[.val (.ref a), .val (.int (0 : Int32)), .val (.int (1 : Int32))] [(.int (1 : Int32)), (.ref a), (.int (0 : Int32))])) rfl rfl (hb hby d1_13) _ ?_
    show Steps p.tables e below (s₁.setTop (mkF m 14 #[.val (.ref a), .val (.int (0 : Int32)), .val (.int (1 : Int32))] [(.int y1), (.int (0 : Int32))])) _
    refine XS.aloadN X0.here hx rfl (hb hby d1_14) rfl rfl ?_
    show Steps p.tables e below (s₁.setTop (mkF m 15 #[.val (.ref a), .val (.int (0 : Int32)), .val (.int (1 : Int32))] [(.ref a), (.int y1), (.int (0 : Int32))])) _
    refine XS.iloadN X0.here hx rfl (hb hby d1_15) rfl ?_
    show Steps p.tables e below (s₁.setTop (mkF m 16 #[.val (.ref a), .val (.int (0 : Int32)), .val (.int (1 : Int32))] [(.int (1 : Int32)), (.ref a), (.int y1), (.int (0 : Int32))])) _
    refine XS.iconst X0.here hx rfl (hb hby d1_16) ?_
    show Steps p.tables e below (s₁.setTop (mkF m 17 #[.val (.ref a), .val (.int (0 : Int32)), .val (.int (1 : Int32))] [(.int (1 : Int32)), (.int (1 : Int32)), (.ref a), (.int y1), (.int (0 : Int32))])) _
    refine XS.isub X0.here hx rfl (hb hby d1_17) rfl ?_
    show Steps p.tables e below (s₁.setTop (mkF m 18 #[.val (.ref a), .val (.int (0 : Int32)), .val (.int (1 : Int32))] [(.int (0 : Int32)), (.ref a), (.int y1), (.int (0 : Int32))])) _
    refine ldI X0 hx hZ e0 F0 ix3.1 ix3.2 (g := (mkF m 18 #[.val (.ref a), .val (.int (0 : Int32)), .val (.int (1 : Int32))] [(.int (0 : Int32)), (.ref a), (.int y1), (.int (0 : Int32))])) rfl rfl (hb hby d1_18) _ ?_
    show Steps p.tables e below (s₁.setTop (mkF m 19 #[.val (.ref a), .val (.int (0 : Int32)), .val (.int (1 : Int32))] [(.int y0), (.int y1), (.int (0 : Int32))])) _
    refine XS.isub X0.here hx rfl (hb hby d1_19) rfl ?_
    show Steps p.tables e below (s₁.setTop (mkF m 20 #[.val (.ref a), .val (.int (0 : Int32)), .val (.int (1 : Int32))] [(.int (y1 - y0)), (.int (0 : Int32))])) _
    refine st4 _ ?_
    show Steps p.tables e below (T4.setTop (mkF m 23 #[.val (.ref a), .val (.int (0 : Int32)), .val (.int (1 : Int32))] [(.int (maxI (0 : Int32) (y1 - y0)))])) _
    refine XS.istoreN X4.here hx rfl (hb hby d1_23) rfl (l' := #[.val (.ref a), .val (.int (maxI (0 : Int32) (y1 - y0))), .val (.int (1 : Int32))]) rfl ?_
    show Steps p.tables e below (T4.setTop (mkF m 24 #[.val (.ref a), .val (.int (maxI (0 : Int32) (y1 - y0))), .val (.int (1 : Int32))] [])) _
    refine XS.iinc X4.here hx rfl (hb hby d1_24) rfl (l' := #[.val (.ref a), .val (.int (maxI (0 : Int32) (y1 - y0))), .val (.int (2 : Int32))]) rfl ?_
    show Steps p.tables e below (T4.setTop (mkF m 27 #[.val (.ref a), .val (.int (maxI (0 : Int32) (y1 - y0))), .val (.int (2 : Int32))] [])) _
    refine XS.goto X4.here hx rfl (pc0 := 27) (pc' := 4) rfl (hb hby d1_27) (by decide) (by decide) ?_
    show Steps p.tables e below (T4.setTop (mkF m 4 #[.val (.ref a), .val (.int (maxI (0 : Int32) (y1 - y0))), .val (.int (2 : Int32))] [])) _
    refine XS.iloadN X4.here hx rfl (hb hby d1_4) rfl ?_
    show Steps p.tables e below (T4.setTop (mkF m 5 #[.val (.ref a), .val (.int (maxI (0 : Int32) (y1 - y0))), .val (.int (2 : Int32))] [(.int (2 : Int32))])) _
    refine XS.aloadN X4.here hx rfl (hb hby d1_5) rfl rfl ?_
    show Steps p.tables e below (T4.setTop (mkF m 6 #[.val (.ref a), .val (.int (maxI (0 : Int32) (y1 - y0))), .val (.int (2 : Int32))] [(.ref a), (.int (2 : Int32))])) _
    refine lenA X4 hx hZ e4 F0 (n := (4 : Int32)) ln5 (g := (mkF m 6 #[.val (.ref a), .val (.int (maxI (0 : Int32) (y1 - y0))), .val (.int (2 : Int32))] [(.ref a), (.int (2 : Int32))])) rfl rfl (hb hby d1_6) _ ?_
    show Steps p.tables e below (T4.setTop (mkF m 7 #[.val (.ref a), .val (.int (maxI (0 : Int32) (y1 - y0))), .val (.int (2 : Int32))] [(.int (4 : Int32)), (.int (2 : Int32))])) _
    refine XS.icmpNo X4.here hx rfl (hb hby d1_7) rfl (tlt (by decide : ((2 : Int32) < (4 : Int32)))).2.1 ?_
    show Steps p.tables e below (T4.setTop (mkF m 10 #[.val (.ref a), .val (.int (maxI (0 : Int32) (y1 - y0))), .val (.int (2 : Int32))] [])) _
    refine XS.iloadN X4.here hx rfl (hb hby d1_10) rfl ?_
    show Steps p.tables e below (T4.setTop (mkF m 11 #[.val (.ref a), .val (.int (maxI (0 : Int32) (y1 - y0))), .val (.int (2 : Int32))] [(.int (maxI (0 : Int32) (y1 - y0)))])) _
    refine XS.aloadN X4.here hx rfl (hb hby d1_11) rfl rfl ?_
    show Steps p.tables e below (T4.setTop (mkF m 12 #[.val (.ref a), .val (.int (maxI (0 : Int32) (y1 - y0))), .val (.int (2 : Int32))] [(.ref a), (.int (maxI (0 : Int32) (y1 - y0)))])) _
    refine XS.iloadN X4.here hx rfl (hb hby d1_12) rfl ?_
    show Steps p.tables e below (T4.setTop (mkF m 13 #[.val (.ref a), .val (.int (maxI (0 : Int32) (y1 - y0))), .val (.int (2 : Int32))] [(.int (2 : Int32)), (.ref a), (.int (maxI (0 : Int32) (y1 - y0)))])) _
    refine ldI X4 hx hZ e4 F0 ix6.1 ix6.2 (g := (mkF m 13 #[.val (.ref a), .val (.int (maxI (0 : Int32) (y1 - y0))), .val (.int (2 : Int32))] [(.int (2 : Int32)), (.ref a), (.int (maxI (0 : Int32) (y1 - y0)))])) rfl rfl (hb hby d1_13) _ ?_
    show Steps p.tables e below (T4.setTop (mkF m 14 #[.val (.ref a), .val (.int (maxI (0 : Int32) (y1 - y0))), .val (.int (2 : Int32))] [(.int y2), (.int (maxI (0 : Int32) (y1 - y0)))])) _
    refine XS.aloadN X4.here hx rfl (hb hby d1_14) rfl rfl ?_
    show Steps p.tables e below (T4.setTop (mkF m 15 #[.val (.ref a), .val (.int (maxI (0 : Int32) (y1 - y0))), .val (.int (2 : Int32))] [(.ref a), (.int y2), (.int (maxI (0 : Int32) (y1 - y0)))])) _
    refine XS.iloadN X4.here hx rfl (hb hby d1_15) rfl ?_
    show Steps p.tables e below (T4.setTop (mkF m 16 #[.val (.ref a), .val (.int (maxI (0 : Int32) (y1 - y0))), .val (.int (2 : Int32))] [(.int (2 : Int32)), (.ref a), (.int y2), (.int (maxI (0 : Int32) (y1 - y0)))])) _
    refine XS.iconst X4.here hx rfl (hb hby d1_16) ?_
    show Steps p.tables e below (T4.setTop (mkF m 17 #[.val (.ref a), .val (.int (maxI (0 : Int32) (y1 - y0))), .val (.int (2 : Int32))] [(.int (1 : Int32)), (.int (2 : Int32)), (.ref a), (.int y2), (.int (maxI (0 : Int32) (y1 - y0)))])) _
    refine XS.isub X4.here hx rfl (hb hby d1_17) rfl ?_
    show Steps p.tables e below (T4.setTop (mkF m 18 #[.val (.ref a), .val (.int (maxI (0 : Int32) (y1 - y0))), .val (.int (2 : Int32))] [(.int (1 : Int32)), (.ref a), (.int y2), (.int (maxI (0 : Int32) (y1 - y0)))])) _
    refine ldI X4 hx hZ e4 F0 ix7.1 ix7.2 (g := (mkF m 18 #[.val (.ref a), .val (.int (maxI (0 : Int32) (y1 - y0))), .val (.int (2 : Int32))] [(.int (1 : Int32)), (.ref a), (.int y2), (.int (maxI (0 : Int32) (y1 - y0)))])) rfl rfl (hb hby d1_18) _ ?_
    show Steps p.tables e below (T4.setTop (mkF m 19 #[.val (.ref a), .val (.int (maxI (0 : Int32) (y1 - y0))), .val (.int (2 : Int32))] [(.int y1), (.int y2), (.int (maxI (0 : Int32) (y1 - y0)))])) _
    refine XS.isub X4.here hx rfl (hb hby d1_19) rfl ?_
    show Steps p.tables e below (T4.setTop (mkF m 20 #[.val (.ref a), .val (.int (maxI (0 : Int32) (y1 - y0))), .val (.int (2 : Int32))] [(.int (y2 - y1)), (.int (maxI (0 : Int32) (y1 - y0)))])) _
    refine st8 _ ?_
    show Steps p.tables e below (T8.setTop (mkF m 23 #[.val (.ref a), .val (.int (maxI (0 : Int32) (y1 - y0))), .val (.int (2 : Int32))] [(.int (maxI (maxI (0 : Int32) (y1 - y0)) (y2 - y1)))])) _
    refine XS.istoreN X8.here hx rfl (hb hby d1_23) rfl (l' := #[.val (.ref a), .val (.int (maxI (maxI (0 : Int32) (y1 - y0)) (y2 - y1))), .val (.int (2 : Int32))]) rfl ?_
    show Steps p.tables e below (T8.setTop (mkF m 24 #[.val (.ref a), .val (.int (maxI (maxI (0 : Int32) (y1 - y0)) (y2 - y1))), .val (.int (2 : Int32))] [])) _
    refine XS.iinc X8.here hx rfl (hb hby d1_24) rfl (l' := #[.val (.ref a), .val (.int (maxI (maxI (0 : Int32) (y1 - y0)) (y2 - y1))), .val (.int (3 : Int32))]) rfl ?_
    show Steps p.tables e below (T8.setTop (mkF m 27 #[.val (.ref a), .val (.int (maxI (maxI (0 : Int32) (y1 - y0)) (y2 - y1))), .val (.int (3 : Int32))] [])) _
    refine XS.goto X8.here hx rfl (pc0 := 27) (pc' := 4) rfl (hb hby d1_27) (by decide) (by decide) ?_
    show Steps p.tables e below (T8.setTop (mkF m 4 #[.val (.ref a), .val (.int (maxI (maxI (0 : Int32) (y1 - y0)) (y2 - y1))), .val (.int (3 : Int32))] [])) _
    refine XS.iloadN X8.here hx rfl (hb hby d1_4) rfl ?_
    show Steps p.tables e below (T8.setTop (mkF m 5 #[.val (.ref a), .val (.int (maxI (maxI (0 : Int32) (y1 - y0)) (y2 - y1))), .val (.int (3 : Int32))] [(.int (3 : Int32))])) _
    refine XS.aloadN X8.here hx rfl (hb hby d1_5) rfl rfl ?_
    show Steps p.tables e below (T8.setTop (mkF m 6 #[.val (.ref a), .val (.int (maxI (maxI (0 : Int32) (y1 - y0)) (y2 - y1))), .val (.int (3 : Int32))] [(.ref a), (.int (3 : Int32))])) _
    refine lenA X8 hx hZ e8 F0 (n := (4 : Int32)) ln9 (g := (mkF m 6 #[.val (.ref a), .val (.int (maxI (maxI (0 : Int32) (y1 - y0)) (y2 - y1))), .val (.int (3 : Int32))] [(.ref a), (.int (3 : Int32))])) rfl rfl (hb hby d1_6) _ ?_
    show Steps p.tables e below (T8.setTop (mkF m 7 #[.val (.ref a), .val (.int (maxI (maxI (0 : Int32) (y1 - y0)) (y2 - y1))), .val (.int (3 : Int32))] [(.int (4 : Int32)), (.int (3 : Int32))])) _
    refine XS.icmpNo X8.here hx rfl (hb hby d1_7) rfl (tlt (by decide : ((3 : Int32) < (4 : Int32)))).2.1 ?_
    show Steps p.tables e below (T8.setTop (mkF m 10 #[.val (.ref a), .val (.int (maxI (maxI (0 : Int32) (y1 - y0)) (y2 - y1))), .val (.int (3 : Int32))] [])) _
    refine XS.iloadN X8.here hx rfl (hb hby d1_10) rfl ?_
    show Steps p.tables e below (T8.setTop (mkF m 11 #[.val (.ref a), .val (.int (maxI (maxI (0 : Int32) (y1 - y0)) (y2 - y1))), .val (.int (3 : Int32))] [(.int (maxI (maxI (0 : Int32) (y1 - y0)) (y2 - y1)))])) _
    refine XS.aloadN X8.here hx rfl (hb hby d1_11) rfl rfl ?_
    show Steps p.tables e below (T8.setTop (mkF m 12 #[.val (.ref a), .val (.int (maxI (maxI (0 : Int32) (y1 - y0)) (y2 - y1))), .val (.int (3 : Int32))] [(.ref a), (.int (maxI (maxI (0 : Int32) (y1 - y0)) (y2 - y1)))])) _
    refine XS.iloadN X8.here hx rfl (hb hby d1_12) rfl ?_
    show Steps p.tables e below (T8.setTop (mkF m 13 #[.val (.ref a), .val (.int (maxI (maxI (0 : Int32) (y1 - y0)) (y2 - y1))), .val (.int (3 : Int32))] [(.int (3 : Int32)), (.ref a), (.int (maxI (maxI (0 : Int32) (y1 - y0)) (y2 - y1)))])) _
    refine ldI X8 hx hZ e8 F0 ix10.1 ix10.2 (g := (mkF m 13 #[.val (.ref a), .val (.int (maxI (maxI (0 : Int32) (y1 - y0)) (y2 - y1))), .val (.int (3 : Int32))] [(.int (3 : Int32)), (.ref a), (.int (maxI (maxI (0 : Int32) (y1 - y0)) (y2 - y1)))])) rfl rfl (hb hby d1_13) _ ?_
    show Steps p.tables e below (T8.setTop (mkF m 14 #[.val (.ref a), .val (.int (maxI (maxI (0 : Int32) (y1 - y0)) (y2 - y1))), .val (.int (3 : Int32))] [(.int y3), (.int (maxI (maxI (0 : Int32) (y1 - y0)) (y2 - y1)))])) _
    refine XS.aloadN X8.here hx rfl (hb hby d1_14) rfl rfl ?_
    show Steps p.tables e below (T8.setTop (mkF m 15 #[.val (.ref a), .val (.int (maxI (maxI (0 : Int32) (y1 - y0)) (y2 - y1))), .val (.int (3 : Int32))] [(.ref a), (.int y3), (.int (maxI (maxI (0 : Int32) (y1 - y0)) (y2 - y1)))])) _
    refine XS.iloadN X8.here hx rfl (hb hby d1_15) rfl ?_
    show Steps p.tables e below (T8.setTop (mkF m 16 #[.val (.ref a), .val (.int (maxI (maxI (0 : Int32) (y1 - y0)) (y2 - y1))), .val (.int (3 : Int32))] [(.int (3 : Int32)), (.ref a), (.int y3), (.int (maxI (maxI (0 : Int32) (y1 - y0)) (y2 - y1)))])) _
    refine XS.iconst X8.here hx rfl (hb hby d1_16) ?_
    show Steps p.tables e below (T8.setTop (mkF m 17 #[.val (.ref a), .val (.int (maxI (maxI (0 : Int32) (y1 - y0)) (y2 - y1))), .val (.int (3 : Int32))] [(.int (1 : Int32)), (.int (3 : Int32)), (.ref a), (.int y3), (.int (maxI (maxI (0 : Int32) (y1 - y0)) (y2 - y1)))])) _
    refine XS.isub X8.here hx rfl (hb hby d1_17) rfl ?_
    show Steps p.tables e below (T8.setTop (mkF m 18 #[.val (.ref a), .val (.int (maxI (maxI (0 : Int32) (y1 - y0)) (y2 - y1))), .val (.int (3 : Int32))] [(.int (2 : Int32)), (.ref a), (.int y3), (.int (maxI (maxI (0 : Int32) (y1 - y0)) (y2 - y1)))])) _
    refine ldI X8 hx hZ e8 F0 ix11.1 ix11.2 (g := (mkF m 18 #[.val (.ref a), .val (.int (maxI (maxI (0 : Int32) (y1 - y0)) (y2 - y1))), .val (.int (3 : Int32))] [(.int (2 : Int32)), (.ref a), (.int y3), (.int (maxI (maxI (0 : Int32) (y1 - y0)) (y2 - y1)))])) rfl rfl (hb hby d1_18) _ ?_
    show Steps p.tables e below (T8.setTop (mkF m 19 #[.val (.ref a), .val (.int (maxI (maxI (0 : Int32) (y1 - y0)) (y2 - y1))), .val (.int (3 : Int32))] [(.int y2), (.int y3), (.int (maxI (maxI (0 : Int32) (y1 - y0)) (y2 - y1)))])) _
    refine XS.isub X8.here hx rfl (hb hby d1_19) rfl ?_
    show Steps p.tables e below (T8.setTop (mkF m 20 #[.val (.ref a), .val (.int (maxI (maxI (0 : Int32) (y1 - y0)) (y2 - y1))), .val (.int (3 : Int32))] [(.int (y3 - y2)), (.int (maxI (maxI (0 : Int32) (y1 - y0)) (y2 - y1)))])) _
    refine st12 _ ?_
    show Steps p.tables e below (T12.setTop (mkF m 23 #[.val (.ref a), .val (.int (maxI (maxI (0 : Int32) (y1 - y0)) (y2 - y1))), .val (.int (3 : Int32))] [(.int (maxI (maxI (maxI (0 : Int32) (y1 - y0)) (y2 - y1)) (y3 - y2)))])) _
    refine XS.istoreN X12.here hx rfl (hb hby d1_23) rfl (l' := #[.val (.ref a), .val (.int (maxI (maxI (maxI (0 : Int32) (y1 - y0)) (y2 - y1)) (y3 - y2))), .val (.int (3 : Int32))]) rfl ?_
    show Steps p.tables e below (T12.setTop (mkF m 24 #[.val (.ref a), .val (.int (maxI (maxI (maxI (0 : Int32) (y1 - y0)) (y2 - y1)) (y3 - y2))), .val (.int (3 : Int32))] [])) _
    refine XS.iinc X12.here hx rfl (hb hby d1_24) rfl (l' := #[.val (.ref a), .val (.int (maxI (maxI (maxI (0 : Int32) (y1 - y0)) (y2 - y1)) (y3 - y2))), .val (.int (4 : Int32))]) rfl ?_
    show Steps p.tables e below (T12.setTop (mkF m 27 #[.val (.ref a), .val (.int (maxI (maxI (maxI (0 : Int32) (y1 - y0)) (y2 - y1)) (y3 - y2))), .val (.int (4 : Int32))] [])) _
    refine XS.goto X12.here hx rfl (pc0 := 27) (pc' := 4) rfl (hb hby d1_27) (by decide) (by decide) ?_
    show Steps p.tables e below (T12.setTop (mkF m 4 #[.val (.ref a), .val (.int (maxI (maxI (maxI (0 : Int32) (y1 - y0)) (y2 - y1)) (y3 - y2))), .val (.int (4 : Int32))] [])) _
    refine XS.iloadN X12.here hx rfl (hb hby d1_4) rfl ?_
    show Steps p.tables e below (T12.setTop (mkF m 5 #[.val (.ref a), .val (.int (maxI (maxI (maxI (0 : Int32) (y1 - y0)) (y2 - y1)) (y3 - y2))), .val (.int (4 : Int32))] [(.int (4 : Int32))])) _
    refine XS.aloadN X12.here hx rfl (hb hby d1_5) rfl rfl ?_
    show Steps p.tables e below (T12.setTop (mkF m 6 #[.val (.ref a), .val (.int (maxI (maxI (maxI (0 : Int32) (y1 - y0)) (y2 - y1)) (y3 - y2))), .val (.int (4 : Int32))] [(.ref a), (.int (4 : Int32))])) _
    refine lenA X12 hx hZ e12 F0 (n := (4 : Int32)) ln13 (g := (mkF m 6 #[.val (.ref a), .val (.int (maxI (maxI (maxI (0 : Int32) (y1 - y0)) (y2 - y1)) (y3 - y2))), .val (.int (4 : Int32))] [(.ref a), (.int (4 : Int32))])) rfl rfl (hb hby d1_6) _ ?_
    show Steps p.tables e below (T12.setTop (mkF m 7 #[.val (.ref a), .val (.int (maxI (maxI (maxI (0 : Int32) (y1 - y0)) (y2 - y1)) (y3 - y2))), .val (.int (4 : Int32))] [(.int (4 : Int32)), (.int (4 : Int32))])) _
    refine XS.icmpYes X12.here hx rfl (pc0 := 7) (pc' := 30) rfl (hb hby d1_7) rfl (flt (by decide : ¬ ((4 : Int32) < (4 : Int32)))).2.1 (by decide) (by decide) ?_
    show Steps p.tables e below (T12.setTop (mkF m 30 #[.val (.ref a), .val (.int (maxI (maxI (maxI (0 : Int32) (y1 - y0)) (y2 - y1)) (y3 - y2))), .val (.int (4 : Int32))] [])) _
    refine XS.iloadN X12.here hx rfl (hb hby d1_30) rfl ?_
    exact kt
  refine Go.fin X12 (v := some (.int (maxI (maxI (maxI (0 : Int32) (y1 - y0)) (y2 - y1)) (y3 - y2)))) (fun h => by rw [Bd.returns] at h; cases h) Bd.notSynchronized ?_ (Nat.le_trans (Nat.add_le_add_right (Nat.add_le_add_right (Nat.add_le_add_right (Nat.le_refl 0) 0) 0) 0) (by decide)) (Nat.le_trans (Nat.add_le_add_right (Nat.add_le_add_right (Nat.add_le_add_right (Nat.le_refl 0) 0) 0) 0) (by decide)) (fun fs hr => retI X12 hx Bd.returns (hb hby d1_31) hr)
  · exact ⟨by rw [hf], N12, e12⟩
theorem ef_lon5 (m : MethodId) (x0 : Addr) : entryFrame m #[(.ref x0)] 3 = mkF m 0 #[.val (.ref x0), .unset, .unset] [] := by first | (simp [entryFrame, mkF, argsToLocals, Value.category]; done) | rfl
def lon5 (y0 : Int32) (y1 : Int32) (y2 : Int32) (y3 : Int32) (y4 : Int32) : Int32 := (maxI (maxI (maxI (maxI (0 : Int32) (y1 - y0)) (y2 - y1)) (y3 - y2)) (y4 - y3))
def Qlon5 (Z : State) (a : Addr) (y0 : Int32) (y1 : Int32) (y2 : Int32) (y3 : Int32) (y4 : Int32) (RES : Int32) (h0 : Heap) (n0 : Nat) (v : Option Value) (h : Heap) (L : List Loc) : Prop := v = some (.int RES) ∧ Fr n0 L ∧ h = h0
set_option maxRecDepth 65536 in
set_option maxHeartbeats 40000000 in
theorem rm_lon5 (l : Launch) (Z : State) (a0 : Array Value) (hw : ∀ d ∈ tables_1, d.before a0 Z = true) (ws : List Jvm.Cond) (a : Addr) (y0 : Int32) (y1 : Int32) (y2 : Int32) (y3 : Int32) (y4 : Int32) (h0 : Heap) (n0 : Nat) (Z0 : n0 ≤ h0.size) (F0 : VA Z h0 a .int ([y0, y1, y2, y3, y4].map Value.int)) :
    MetFree l (⟨"com/example/laneweave/laneweave/Overlap", "longest", "([I)I"⟩ : MethodName) (head1 (Jvm.Cond.code (⟨"com/example/laneweave/laneweave/Overlap", "longest", "([I)I"⟩ : MethodName) prog_18_method_4_code 3 (some .int) :: ws) ({ frames := 1, cells := 0, slots := 0, locals := 13 } : Room)) (fun A_ U => A_ = #[(.ref a)] ∧ Z.Warmed39 U.vm ∧ U.heap = h0) (fun _ _ _ _ _ => True) (fun _ U o U' => ∃ v L, o = .returned v ∧ Qlon5 Z a y0 y1 y2 y3 y4 (lon5 y0 y1 y2 y3 y4) h0 n0 v U'.heap L ∧ FrameEnd U o U' L ({ frames := 1, cells := 0, slots := 0, locals := 13 } : Room).cells ({ frames := 1, cells := 0, slots := 0, locals := 13 } : Room).slots) := by
  refine MetFree.of_bodySF (plainFor_of_name pn_0) hisR ?_
  intro p e s m args below meth c s₁ Bd hml0 hP hK
  obtain ⟨rfl, hZ, hh⟩ := hP
  have hx := Bd.exec
  have hby := Bd.bytes
  have hml : c.maxLocals = 3 := hml0
  have hown : s.vm.findClass "com/example/laneweave/laneweave/Overlap" = some m.cls := findClass_of_methodNamed Bd.named
  have hnm := (name_of_methodNamed Bd.named Bd.method).1
  have X0 : Stand p l e ({ frames := 1, cells := 0, slots := 0, locals := 13 } : Room) s m #[(.ref a)] below meth c s₁ [] 0 0 := Stand.of_body Bd
  have e0 : s₁.heap = h0 := by rw [← hh, Bd.state]; rfl
  have N0 := Fr.nil n0
  obtain ⟨RES, hf⟩ : ∃ z, z = lon5 y0 y1 y2 y3 y4 := ⟨_, rfl⟩
  rw [← hf]
  rw [lon5] at hf
  suffices HGO : Go p e below s (Qlon5 Z a y0 y1 y2 y3 y4 RES h0 n0) ({ frames := 1, cells := 0, slots := 0, locals := 13 } : Room).cells ({ frames := 1, cells := 0, slots := 0, locals := 13 } : Room).slots s₁ (mkF m 0 #[.val (.ref a), .unset, .unset] []) from Go.cast (ef_lon5 m a) HGO
  have ln1 : (([y0, y1, y2, y3, y4].map Value.int).length : Int) = ((5 : Int32)).toInt := (by rfl)
  have ix2 : 0 ≤ ((1 : Int32)).toInt ∧ ((1 : Int32)).toInt < (([y0, y1, y2, y3, y4]).length : Int) := by constructor <;> first | decide | (simp; done)
  have ix3 : 0 ≤ ((0 : Int32)).toInt ∧ ((0 : Int32)).toInt < (([y0, y1, y2, y3, y4]).length : Int) := by constructor <;> first | decide | (simp; done)
  obtain ⟨_, _, ⟨T4, L4, k4, n4⟩, -, X4, ⟨Lc4, hQ4, l4, y4, z4⟩, st4⟩ := Jvm.LawKit.callS X0 hx (y := (⟨"java/lang/Math", "max", "(II)I"⟩ : MethodName)) hown (mvT hZ (hw _ (List.mem_of_getElem? (i := 11) rfl))) (mvT hZ (hw _ (List.mem_of_getElem? (i := 8) rfl))) (mvT hZ (hw _ (List.mem_of_getElem? (i := 9) rfl))) (mvT hZ (hw _ (List.mem_of_getElem? (i := 10) rfl))) (by decide) (backOf (W := 0) (rm_maxI l Z a0 hw [] (0 : Int32) (y1 - y0)  h0 n0 Z0 ) hZ (hw _ (List.mem_of_getElem? (i := 10) rfl)) (hw _ (List.mem_of_getElem? (i := 9) rfl)) (by decide) (by decide)) (g := (mkF m 20 #[.val (.ref a), .val (.int (0 : Int32)), .val (.int (1 : Int32))] [(.int (y1 - y0)), (.int (0 : Int32))])) rfl (by rw [hml]; rfl) (argsL := [(.int (0 : Int32)), (.int (y1 - y0))]) (rest := []) (lenOf pd_0 rfl) rfl (by show 2 * 0 + _ ≤ _; exact Nat.le_of_eq rfl) (hb hby d1_20) (fun _ _ => ⟨rfl, e0, (Nat.le_trans (Nat.add_le_add_right (Nat.le_refl 0) 0) (by decide)), (Nat.le_trans (Nat.add_le_add_right (Nat.le_refl 0) 0) (by decide))⟩)
  dsimp only [Pt.U, Pt.locs, Pt.cells, Pt.slots] at X4 l4 y4 z4 st4 hQ4
  subst l4 y4 z4
  obtain ⟨rfl, N4q, e4⟩ := hQ4
  have N4 := Fr.app N0 N4q
  have ln5 : (([y0, y1, y2, y3, y4].map Value.int).length : Int) = ((5 : Int32)).toInt := (by rfl)
  have ix6 : 0 ≤ ((2 : Int32)).toInt ∧ ((2 : Int32)).toInt < (([y0, y1, y2, y3, y4]).length : Int) := by constructor <;> first | decide | (simp; done)
  have ix7 : 0 ≤ ((1 : Int32)).toInt ∧ ((1 : Int32)).toInt < (([y0, y1, y2, y3, y4]).length : Int) := by constructor <;> first | decide | (simp; done)
  obtain ⟨_, _, ⟨T8, L8, k8, n8⟩, -, X8, ⟨Lc8, hQ8, l8, y8, z8⟩, st8⟩ := Jvm.LawKit.callS X4 hx (y := (⟨"java/lang/Math", "max", "(II)I"⟩ : MethodName)) hown (mvT hZ (hw _ (List.mem_of_getElem? (i := 11) rfl))) (mvT hZ (hw _ (List.mem_of_getElem? (i := 8) rfl))) (mvT hZ (hw _ (List.mem_of_getElem? (i := 9) rfl))) (mvT hZ (hw _ (List.mem_of_getElem? (i := 10) rfl))) (by decide) (backOf (W := 0) (rm_maxI l Z a0 hw [] (maxI (0 : Int32) (y1 - y0)) (y2 - y1)  h0 n0 Z0 ) hZ (hw _ (List.mem_of_getElem? (i := 10) rfl)) (hw _ (List.mem_of_getElem? (i := 9) rfl)) (by decide) (by decide)) (g := (mkF m 20 #[.val (.ref a), .val (.int (maxI (0 : Int32) (y1 - y0))), .val (.int (2 : Int32))] [(.int (y2 - y1)), (.int (maxI (0 : Int32) (y1 - y0)))])) rfl (by rw [hml]; rfl) (argsL := [(.int (maxI (0 : Int32) (y1 - y0))), (.int (y2 - y1))]) (rest := []) (lenOf pd_0 rfl) rfl (by show 2 * 0 + _ ≤ _; exact Nat.le_of_eq rfl) (hb hby d1_20) (fun _ _ => ⟨rfl, e4, (Nat.le_trans (Nat.add_le_add_right (Nat.add_le_add_right (Nat.le_refl 0) 0) 0) (by decide)), (Nat.le_trans (Nat.add_le_add_right (Nat.add_le_add_right (Nat.le_refl 0) 0) 0) (by decide))⟩)
  dsimp only [Pt.U, Pt.locs, Pt.cells, Pt.slots] at X8 l8 y8 z8 st8 hQ8
  subst l8 y8 z8
  obtain ⟨rfl, N8q, e8⟩ := hQ8
  have N8 := Fr.app N4 N8q
  have ln9 : (([y0, y1, y2, y3, y4].map Value.int).length : Int) = ((5 : Int32)).toInt := (by rfl)
  have ix10 : 0 ≤ ((3 : Int32)).toInt ∧ ((3 : Int32)).toInt < (([y0, y1, y2, y3, y4]).length : Int) := by constructor <;> first | decide | (simp; done)
  have ix11 : 0 ≤ ((2 : Int32)).toInt ∧ ((2 : Int32)).toInt < (([y0, y1, y2, y3, y4]).length : Int) := by constructor <;> first | decide | (simp; done)
  obtain ⟨_, _, ⟨T12, L12, k12, n12⟩, -, X12, ⟨Lc12, hQ12, l12, y12, z12⟩, st12⟩ := Jvm.LawKit.callS X8 hx (y := (⟨"java/lang/Math", "max", "(II)I"⟩ : MethodName)) hown (mvT hZ (hw _ (List.mem_of_getElem? (i := 11) rfl))) (mvT hZ (hw _ (List.mem_of_getElem? (i := 8) rfl))) (mvT hZ (hw _ (List.mem_of_getElem? (i := 9) rfl))) (mvT hZ (hw _ (List.mem_of_getElem? (i := 10) rfl))) (by decide) (backOf (W := 0) (rm_maxI l Z a0 hw [] (maxI (maxI (0 : Int32) (y1 - y0)) (y2 - y1)) (y3 - y2)  h0 n0 Z0 ) hZ (hw _ (List.mem_of_getElem? (i := 10) rfl)) (hw _ (List.mem_of_getElem? (i := 9) rfl)) (by decide) (by decide)) (g := (mkF m 20 #[.val (.ref a), .val (.int (maxI (maxI (0 : Int32) (y1 - y0)) (y2 - y1))), .val (.int (3 : Int32))] [(.int (y3 - y2)), (.int (maxI (maxI (0 : Int32) (y1 - y0)) (y2 - y1)))])) rfl (by rw [hml]; rfl) (argsL := [(.int (maxI (maxI (0 : Int32) (y1 - y0)) (y2 - y1))), (.int (y3 - y2))]) (rest := []) (lenOf pd_0 rfl) rfl (by show 2 * 0 + _ ≤ _; exact Nat.le_of_eq rfl) (hb hby d1_20) (fun _ _ => ⟨rfl, e8, (Nat.le_trans (Nat.add_le_add_right (Nat.add_le_add_right (Nat.add_le_add_right (Nat.le_refl 0) 0) 0) 0) (by decide)), (Nat.le_trans (Nat.add_le_add_right (Nat.add_le_add_right (Nat.add_le_add_right (Nat.le_refl 0) 0) 0) 0) (by decide))⟩)
  dsimp only [Pt.U, Pt.locs, Pt.cells, Pt.slots] at X12 l12 y12 z12 st12 hQ12
  subst l12 y12 z12
  obtain ⟨rfl, N12q, e12⟩ := hQ12
  have N12 := Fr.app N8 N12q
  have ln13 : (([y0, y1, y2, y3, y4].map Value.int).length : Int) = ((5 : Int32)).toInt := (by rfl)
  have ix14 : 0 ≤ ((4 : Int32)).toInt ∧ ((4 : Int32)).toInt < (([y0, y1, y2, y3, y4]).length : Int) := by constructor <;> first | decide | (simp; done)
  have ix15 : 0 ≤ ((3 : Int32)).toInt ∧ ((3 : Int32)).toInt < (([y0, y1, y2, y3, y4]).length : Int) := by constructor <;> first | decide | (simp; done)
  obtain ⟨_, _, ⟨T16, L16, k16, n16⟩, -, X16, ⟨Lc16, hQ16, l16, y16, z16⟩, st16⟩ := Jvm.LawKit.callS X12 hx (y := (⟨"java/lang/Math", "max", "(II)I"⟩ : MethodName)) hown (mvT hZ (hw _ (List.mem_of_getElem? (i := 11) rfl))) (mvT hZ (hw _ (List.mem_of_getElem? (i := 8) rfl))) (mvT hZ (hw _ (List.mem_of_getElem? (i := 9) rfl))) (mvT hZ (hw _ (List.mem_of_getElem? (i := 10) rfl))) (by decide) (backOf (W := 0) (rm_maxI l Z a0 hw [] (maxI (maxI (maxI (0 : Int32) (y1 - y0)) (y2 - y1)) (y3 - y2)) (y4 - y3)  h0 n0 Z0 ) hZ (hw _ (List.mem_of_getElem? (i := 10) rfl)) (hw _ (List.mem_of_getElem? (i := 9) rfl)) (by decide) (by decide)) (g := (mkF m 20 #[.val (.ref a), .val (.int (maxI (maxI (maxI (0 : Int32) (y1 - y0)) (y2 - y1)) (y3 - y2))), .val (.int (4 : Int32))] [(.int (y4 - y3)), (.int (maxI (maxI (maxI (0 : Int32) (y1 - y0)) (y2 - y1)) (y3 - y2)))])) rfl (by rw [hml]; rfl) (argsL := [(.int (maxI (maxI (maxI (0 : Int32) (y1 - y0)) (y2 - y1)) (y3 - y2))), (.int (y4 - y3))]) (rest := []) (lenOf pd_0 rfl) rfl (by show 2 * 0 + _ ≤ _; exact Nat.le_of_eq rfl) (hb hby d1_20) (fun _ _ => ⟨rfl, e12, (Nat.le_trans (Nat.add_le_add_right (Nat.add_le_add_right (Nat.add_le_add_right (Nat.add_le_add_right (Nat.le_refl 0) 0) 0) 0) 0) (by decide)), (Nat.le_trans (Nat.add_le_add_right (Nat.add_le_add_right (Nat.add_le_add_right (Nat.add_le_add_right (Nat.le_refl 0) 0) 0) 0) 0) (by decide))⟩)
  dsimp only [Pt.U, Pt.locs, Pt.cells, Pt.slots] at X16 l16 y16 z16 st16 hQ16
  subst l16 y16 z16
  obtain ⟨rfl, N16q, e16⟩ := hQ16
  have N16 := Fr.app N12 N16q
  have ln17 : (([y0, y1, y2, y3, y4].map Value.int).length : Int) = ((5 : Int32)).toInt := (by rfl)
  refine Go.step (T' := T16) (f' := (mkF m 31 #[.val (.ref a), .val (.int (maxI (maxI (maxI (maxI (0 : Int32) (y1 - y0)) (y2 - y1)) (y3 - y2)) (y4 - y3))), .val (.int (5 : Int32))] [(.int (maxI (maxI (maxI (maxI (0 : Int32) (y1 - y0)) (y2 - y1)) (y3 - y2)) (y4 - y3)))])) (fun t kt => ?_) ?_
  · show Steps p.tables e below (s₁.setTop (mkF m 0 #[.val (.ref a), .unset, .unset] [])) _
    refine XS.iconst X0.here hx rfl (hb hby d1_0) ?_
    show Steps p.tables e below (s₁.setTop (mkF m 1 #[.val (.ref a), .unset, .unset] [(.int (0 : Int32))])) _
    refine XS.istoreN X0.here hx rfl (hb hby d1_1) rfl (l' := #[.val (.ref a), .val (.int (0 : Int32)), .unset]) rfl ?_
    show Steps p.tables e below (s₁.setTop (mkF m 2 #[.val (.ref a), .val (.int (0 : Int32)), .unset] [])) _
    refine XS.iconst X0.here hx rfl (hb hby d1_2) ?_
    show Steps p.tables e below (s₁.setTop (mkF m 3 #[.val (.ref a), .val (.int (0 : Int32)), .unset] [(.int (1 : Int32))])) _
    refine XS.istoreN X0.here hx rfl (hb hby d1_3) rfl (l' := #[.val (.ref a), .val (.int (0 : Int32)), .val (.int (1 : Int32))]) rfl ?_
    show Steps p.tables e below (s₁.setTop (mkF m 4 #[.val (.ref a), .val (.int (0 : Int32)), .val (.int (1 : Int32))] [])) _
    refine XS.iloadN X0.here hx rfl (hb hby d1_4) rfl ?_
    show Steps p.tables e below (s₁.setTop (mkF m 5 #[.val (.ref a), .val (.int (0 : Int32)), .val (.int (1 : Int32))] [(.int (1 : Int32))])) _
    refine XS.aloadN X0.here hx rfl (hb hby d1_5) rfl rfl ?_
    show Steps p.tables e below (s₁.setTop (mkF m 6 #[.val (.ref a), .val (.int (0 : Int32)), .val (.int (1 : Int32))] [(.ref a), (.int (1 : Int32))])) _
    refine lenA X0 hx hZ e0 F0 (n := (5 : Int32)) ln1 (g := (mkF m 6 #[.val (.ref a), .val (.int (0 : Int32)), .val (.int (1 : Int32))] [(.ref a), (.int (1 : Int32))])) rfl rfl (hb hby d1_6) _ ?_
    show Steps p.tables e below (s₁.setTop (mkF m 7 #[.val (.ref a), .val (.int (0 : Int32)), .val (.int (1 : Int32))] [(.int (5 : Int32)), (.int (1 : Int32))])) _
    refine XS.icmpNo X0.here hx rfl (hb hby d1_7) rfl (tlt (by decide : ((1 : Int32) < (5 : Int32)))).2.1 ?_
    show Steps p.tables e below (s₁.setTop (mkF m 10 #[.val (.ref a), .val (.int (0 : Int32)), .val (.int (1 : Int32))] [])) _
    refine XS.iloadN X0.here hx rfl (hb hby d1_10) rfl ?_
    show Steps p.tables e below (s₁.setTop (mkF m 11 #[.val (.ref a), .val (.int (0 : Int32)), .val (.int (1 : Int32))] [(.int (0 : Int32))])) _
    refine XS.aloadN X0.here hx rfl (hb hby d1_11) rfl rfl ?_
    show Steps p.tables e below (s₁.setTop (mkF m 12 #[.val (.ref a), .val (.int (0 : Int32)), .val (.int (1 : Int32))] [(.ref a), (.int (0 : Int32))])) _
    refine XS.iloadN X0.here hx rfl (hb hby d1_12) rfl ?_
    show Steps p.tables e below (s₁.setTop (mkF m 13 #[.val (.ref a), .val (.int (0 : Int32)), .val (.int (1 : Int32))] [(.int (1 : Int32)), (.ref a), (.int (0 : Int32))])) _
    refine ldI X0 hx hZ e0 F0 ix2.1 ix2.2 (g := (mkF m 13 #[.val (.ref a), .val (.int (0 : Int32)), .val (.int (1 : Int32))] [(.int (1 : Int32)), (.ref a), (.int (0 : Int32))])) rfl rfl (hb hby d1_13) _ ?_
    show Steps p.tables e below (s₁.setTop (mkF m 14 #[.val (.ref a), .val (.int (0 : Int32)), .val (.int (1 : Int32))] [(.int y1), (.int (0 : Int32))])) _
    refine XS.aloadN X0.here hx rfl (hb hby d1_14) rfl rfl ?_
    show Steps p.tables e below (s₁.setTop (mkF m 15 #[.val (.ref a), .val (.int (0 : Int32)), .val (.int (1 : Int32))] [(.ref a), (.int y1), (.int (0 : Int32))])) _
    refine XS.iloadN X0.here hx rfl (hb hby d1_15) rfl ?_
    show Steps p.tables e below (s₁.setTop (mkF m 16 #[.val (.ref a), .val (.int (0 : Int32)), .val (.int (1 : Int32))] [(.int (1 : Int32)), (.ref a), (.int y1), (.int (0 : Int32))])) _
    refine XS.iconst X0.here hx rfl (hb hby d1_16) ?_
    show Steps p.tables e below (s₁.setTop (mkF m 17 #[.val (.ref a), .val (.int (0 : Int32)), .val (.int (1 : Int32))] [(.int (1 : Int32)), (.int (1 : Int32)), (.ref a), (.int y1), (.int (0 : Int32))])) _
    refine XS.isub X0.here hx rfl (hb hby d1_17) rfl ?_
    show Steps p.tables e below (s₁.setTop (mkF m 18 #[.val (.ref a), .val (.int (0 : Int32)), .val (.int (1 : Int32))] [(.int (0 : Int32)), (.ref a), (.int y1), (.int (0 : Int32))])) _
    refine ldI X0 hx hZ e0 F0 ix3.1 ix3.2 (g := (mkF m 18 #[.val (.ref a), .val (.int (0 : Int32)), .val (.int (1 : Int32))] [(.int (0 : Int32)), (.ref a), (.int y1), (.int (0 : Int32))])) rfl rfl (hb hby d1_18) _ ?_
    show Steps p.tables e below (s₁.setTop (mkF m 19 #[.val (.ref a), .val (.int (0 : Int32)), .val (.int (1 : Int32))] [(.int y0), (.int y1), (.int (0 : Int32))])) _
    refine XS.isub X0.here hx rfl (hb hby d1_19) rfl ?_
    show Steps p.tables e below (s₁.setTop (mkF m 20 #[.val (.ref a), .val (.int (0 : Int32)), .val (.int (1 : Int32))] [(.int (y1 - y0)), (.int (0 : Int32))])) _
    refine st4 _ ?_
    show Steps p.tables e below (T4.setTop (mkF m 23 #[.val (.ref a), .val (.int (0 : Int32)), .val (.int (1 : Int32))] [(.int (maxI (0 : Int32) (y1 - y0)))])) _
    refine XS.istoreN X4.here hx rfl (hb hby d1_23) rfl (l' := #[.val (.ref a), .val (.int (maxI (0 : Int32) (y1 - y0))), .val (.int (1 : Int32))]) rfl ?_
    show Steps p.tables e below (T4.setTop (mkF m 24 #[.val (.ref a), .val (.int (maxI (0 : Int32) (y1 - y0))), .val (.int (1 : Int32))] [])) _
    refine XS.iinc X4.here hx rfl (hb hby d1_24) rfl (l' := #[.val (.ref a), .val (.int (maxI (0 : Int32) (y1 - y0))), .val (.int (2 : Int32))]) rfl ?_
    show Steps p.tables e below (T4.setTop (mkF m 27 #[.val (.ref a), .val (.int (maxI (0 : Int32) (y1 - y0))), .val (.int (2 : Int32))] [])) _
    refine XS.goto X4.here hx rfl (pc0 := 27) (pc' := 4) rfl (hb hby d1_27) (by decide) (by decide) ?_
    show Steps p.tables e below (T4.setTop (mkF m 4 #[.val (.ref a), .val (.int (maxI (0 : Int32) (y1 - y0))), .val (.int (2 : Int32))] [])) _
    refine XS.iloadN X4.here hx rfl (hb hby d1_4) rfl ?_
    show Steps p.tables e below (T4.setTop (mkF m 5 #[.val (.ref a), .val (.int (maxI (0 : Int32) (y1 - y0))), .val (.int (2 : Int32))] [(.int (2 : Int32))])) _
    refine XS.aloadN X4.here hx rfl (hb hby d1_5) rfl rfl ?_
    show Steps p.tables e below (T4.setTop (mkF m 6 #[.val (.ref a), .val (.int (maxI (0 : Int32) (y1 - y0))), .val (.int (2 : Int32))] [(.ref a), (.int (2 : Int32))])) _
    refine lenA X4 hx hZ e4 F0 (n := (5 : Int32)) ln5 (g := (mkF m 6 #[.val (.ref a), .val (.int (maxI (0 : Int32) (y1 - y0))), .val (.int (2 : Int32))] [(.ref a), (.int (2 : Int32))])) rfl rfl (hb hby d1_6) _ ?_
    show Steps p.tables e below (T4.setTop (mkF m 7 #[.val (.ref a), .val (.int (maxI (0 : Int32) (y1 - y0))), .val (.int (2 : Int32))] [(.int (5 : Int32)), (.int (2 : Int32))])) _
    refine XS.icmpNo X4.here hx rfl (hb hby d1_7) rfl (tlt (by decide : ((2 : Int32) < (5 : Int32)))).2.1 ?_
    show Steps p.tables e below (T4.setTop (mkF m 10 #[.val (.ref a), .val (.int (maxI (0 : Int32) (y1 - y0))), .val (.int (2 : Int32))] [])) _
    refine XS.iloadN X4.here hx rfl (hb hby d1_10) rfl ?_
    show Steps p.tables e below (T4.setTop (mkF m 11 #[.val (.ref a), .val (.int (maxI (0 : Int32) (y1 - y0))), .val (.int (2 : Int32))] [(.int (maxI (0 : Int32) (y1 - y0)))])) _
    refine XS.aloadN X4.here hx rfl (hb hby d1_11) rfl rfl ?_
    show Steps p.tables e below (T4.setTop (mkF m 12 #[.val (.ref a), .val (.int (maxI (0 : Int32) (y1 - y0))), .val (.int (2 : Int32))] [(.ref a), (.int (maxI (0 : Int32) (y1 - y0)))])) _
    refine XS.iloadN X4.here hx rfl (hb hby d1_12) rfl ?_
    show Steps p.tables e below (T4.setTop (mkF m 13 #[.val (.ref a), .val (.int (maxI (0 : Int32) (y1 - y0))), .val (.int (2 : Int32))] [(.int (2 : Int32)), (.ref a), (.int (maxI (0 : Int32) (y1 - y0)))])) _
    refine ldI X4 hx hZ e4 F0 ix6.1 ix6.2 (g := (mkF m 13 #[.val (.ref a), .val (.int (maxI (0 : Int32) (y1 - y0))), .val (.int (2 : Int32))] [(.int (2 : Int32)), (.ref a), (.int (maxI (0 : Int32) (y1 - y0)))])) rfl rfl (hb hby d1_13) _ ?_
    show Steps p.tables e below (T4.setTop (mkF m 14 #[.val (.ref a), .val (.int (maxI (0 : Int32) (y1 - y0))), .val (.int (2 : Int32))] [(.int y2), (.int (maxI (0 : Int32) (y1 - y0)))])) _
    refine XS.aloadN X4.here hx rfl (hb hby d1_14) rfl rfl ?_
    show Steps p.tables e below (T4.setTop (mkF m 15 #[.val (.ref a), .val (.int (maxI (0 : Int32) (y1 - y0))), .val (.int (2 : Int32))] [(.ref a), (.int y2), (.int (maxI (0 : Int32) (y1 - y0)))])) _
    refine XS.iloadN X4.here hx rfl (hb hby d1_15) rfl ?_
    show Steps p.tables e below (T4.setTop (mkF m 16 #[.val (.ref a), .val (.int (maxI (0 : Int32) (y1 - y0))), .val (.int (2 : Int32))] [(.int (2 : Int32)), (.ref a), (.int y2), (.int (maxI (0 : Int32) (y1 - y0)))])) _
    refine XS.iconst X4.here hx rfl (hb hby d1_16) ?_
    show Steps p.tables e below (T4.setTop (mkF m 17 #[.val (.ref a), .val (.int (maxI (0 : Int32) (y1 - y0))), .val (.int (2 : Int32))] [(.int (1 : Int32)), (.int (2 : Int32)), (.ref a), (.int y2), (.int (maxI (0 : Int32) (y1 - y0)))])) _
    refine XS.isub X4.here hx rfl (hb hby d1_17) rfl ?_
    show Steps p.tables e below (T4.setTop (mkF m 18 #[.val (.ref a), .val (.int (maxI (0 : Int32) (y1 - y0))), .val (.int (2 : Int32))] [(.int (1 : Int32)), (.ref a), (.int y2), (.int (maxI (0 : Int32) (y1 - y0)))])) _
    refine ldI X4 hx hZ e4 F0 ix7.1 ix7.2 (g := (mkF m 18 #[.val (.ref a), .val (.int (maxI (0 : Int32) (y1 - y0))), .val (.int (2 : Int32))] [(.int (1 : Int32)), (.ref a), (.int y2), (.int (maxI (0 : Int32) (y1 - y0)))])) rfl rfl (hb hby d1_18) _ ?_
    show Steps p.tables e below (T4.setTop (mkF m 19 #[.val (.ref a), .val (.int (maxI (0 : Int32) (y1 - y0))), .val (.int (2 : Int32))] [(.int y1), (.int y2), (.int (maxI (0 : Int32) (y1 - y0)))])) _
    refine XS.isub X4.here hx rfl (hb hby d1_19) rfl ?_
    show Steps p.tables e below (T4.setTop (mkF m 20 #[.val (.ref a), .val (.int (maxI (0 : Int32) (y1 - y0))), .val (.int (2 : Int32))] [(.int (y2 - y1)), (.int (maxI (0 : Int32) (y1 - y0)))])) _
    refine st8 _ ?_
    show Steps p.tables e below (T8.setTop (mkF m 23 #[.val (.ref a), .val (.int (maxI (0 : Int32) (y1 - y0))), .val (.int (2 : Int32))] [(.int (maxI (maxI (0 : Int32) (y1 - y0)) (y2 - y1)))])) _
    refine XS.istoreN X8.here hx rfl (hb hby d1_23) rfl (l' := #[.val (.ref a), .val (.int (maxI (maxI (0 : Int32) (y1 - y0)) (y2 - y1))), .val (.int (2 : Int32))]) rfl ?_
    show Steps p.tables e below (T8.setTop (mkF m 24 #[.val (.ref a), .val (.int (maxI (maxI (0 : Int32) (y1 - y0)) (y2 - y1))), .val (.int (2 : Int32))] [])) _
    refine XS.iinc X8.here hx rfl (hb hby d1_24) rfl (l' := #[.val (.ref a), .val (.int (maxI (maxI (0 : Int32) (y1 - y0)) (y2 - y1))), .val (.int (3 : Int32))]) rfl ?_
    show Steps p.tables e below (T8.setTop (mkF m 27 #[.val (.ref a), .val (.int (maxI (maxI (0 : Int32) (y1 - y0)) (y2 - y1))), .val (.int (3 : Int32))] [])) _
    refine XS.goto X8.here hx rfl (pc0 := 27) (pc' := 4) rfl (hb hby d1_27) (by decide) (by decide) ?_
    show Steps p.tables e below (T8.setTop (mkF m 4 #[.val (.ref a), .val (.int (maxI (maxI (0 : Int32) (y1 - y0)) (y2 - y1))), .val (.int (3 : Int32))] [])) _
    refine XS.iloadN X8.here hx rfl (hb hby d1_4) rfl ?_
    show Steps p.tables e below (T8.setTop (mkF m 5 #[.val (.ref a), .val (.int (maxI (maxI (0 : Int32) (y1 - y0)) (y2 - y1))), .val (.int (3 : Int32))] [(.int (3 : Int32))])) _
    refine XS.aloadN X8.here hx rfl (hb hby d1_5) rfl rfl ?_
    show Steps p.tables e below (T8.setTop (mkF m 6 #[.val (.ref a), .val (.int (maxI (maxI (0 : Int32) (y1 - y0)) (y2 - y1))), .val (.int (3 : Int32))] [(.ref a), (.int (3 : Int32))])) _
    refine lenA X8 hx hZ e8 F0 (n := (5 : Int32)) ln9 (g := (mkF m 6 #[.val (.ref a), .val (.int (maxI (maxI (0 : Int32) (y1 - y0)) (y2 - y1))), .val (.int (3 : Int32))] [(.ref a), (.int (3 : Int32))])) rfl rfl (hb hby d1_6) _ ?_
    show Steps p.tables e below (T8.setTop (mkF m 7 #[.val (.ref a), .val (.int (maxI (maxI (0 : Int32) (y1 - y0)) (y2 - y1))), .val (.int (3 : Int32))] [(.int (5 : Int32)), (.int (3 : Int32))])) _
    refine XS.icmpNo X8.here hx rfl (hb hby d1_7) rfl (tlt (by decide : ((3 : Int32) < (5 : Int32)))).2.1 ?_
    show Steps p.tables e below (T8.setTop (mkF m 10 #[.val (.ref a), .val (.int (maxI (maxI (0 : Int32) (y1 - y0)) (y2 - y1))), .val (.int (3 : Int32))] [])) _
    refine XS.iloadN X8.here hx rfl (hb hby d1_10) rfl ?_
    show Steps p.tables e below (T8.setTop (mkF m 11 #[.val (.ref a), .val (.int (maxI (maxI (0 : Int32) (y1 - y0)) (y2 - y1))), .val (.int (3 : Int32))] [(.int (maxI (maxI (0 : Int32) (y1 - y0)) (y2 - y1)))])) _
    refine XS.aloadN X8.here hx rfl (hb hby d1_11) rfl rfl ?_
    show Steps p.tables e below (T8.setTop (mkF m 12 #[.val (.ref a), .val (.int (maxI (maxI (0 : Int32) (y1 - y0)) (y2 - y1))), .val (.int (3 : Int32))] [(.ref a), (.int (maxI (maxI (0 : Int32) (y1 - y0)) (y2 - y1)))])) _
    refine XS.iloadN X8.here hx rfl (hb hby d1_12) rfl ?_
    show Steps p.tables e below (T8.setTop (mkF m 13 #[.val (.ref a), .val (.int (maxI (maxI (0 : Int32) (y1 - y0)) (y2 - y1))), .val (.int (3 : Int32))] [(.int (3 : Int32)), (.ref a), (.int (maxI (maxI (0 : Int32) (y1 - y0)) (y2 - y1)))])) _
    refine ldI X8 hx hZ e8 F0 ix10.1 ix10.2 (g := (mkF m 13 #[.val (.ref a), .val (.int (maxI (maxI (0 : Int32) (y1 - y0)) (y2 - y1))), .val (.int (3 : Int32))] [(.int (3 : Int32)), (.ref a), (.int (maxI (maxI (0 : Int32) (y1 - y0)) (y2 - y1)))])) rfl rfl (hb hby d1_13) _ ?_
    show Steps p.tables e below (T8.setTop (mkF m 14 #[.val (.ref a), .val (.int (maxI (maxI (0 : Int32) (y1 - y0)) (y2 - y1))), .val (.int (3 : Int32))] [(.int y3), (.int (maxI (maxI (0 : Int32) (y1 - y0)) (y2 - y1)))])) _
    refine XS.aloadN X8.here hx rfl (hb hby d1_14) rfl rfl ?_
    show Steps p.tables e below (T8.setTop (mkF m 15 #[.val (.ref a), .val (.int (maxI (maxI (0 : Int32) (y1 - y0)) (y2 - y1))), .val (.int (3 : Int32))] [(.ref a), (.int y3), (.int (maxI (maxI (0 : Int32) (y1 - y0)) (y2 - y1)))])) _
    refine XS.iloadN X8.here hx rfl (hb hby d1_15) rfl ?_
    show Steps p.tables e below (T8.setTop (mkF m 16 #[.val (.ref a), .val (.int (maxI (maxI (0 : Int32) (y1 - y0)) (y2 - y1))), .val (.int (3 : Int32))] [(.int (3 : Int32)), (.ref a), (.int y3), (.int (maxI (maxI (0 : Int32) (y1 - y0)) (y2 - y1)))])) _
    refine XS.iconst X8.here hx rfl (hb hby d1_16) ?_
    show Steps p.tables e below (T8.setTop (mkF m 17 #[.val (.ref a), .val (.int (maxI (maxI (0 : Int32) (y1 - y0)) (y2 - y1))), .val (.int (3 : Int32))] [(.int (1 : Int32)), (.int (3 : Int32)), (.ref a), (.int y3), (.int (maxI (maxI (0 : Int32) (y1 - y0)) (y2 - y1)))])) _
    refine XS.isub X8.here hx rfl (hb hby d1_17) rfl ?_
    show Steps p.tables e below (T8.setTop (mkF m 18 #[.val (.ref a), .val (.int (maxI (maxI (0 : Int32) (y1 - y0)) (y2 - y1))), .val (.int (3 : Int32))] [(.int (2 : Int32)), (.ref a), (.int y3), (.int (maxI (maxI (0 : Int32) (y1 - y0)) (y2 - y1)))])) _
    refine ldI X8 hx hZ e8 F0 ix11.1 ix11.2 (g := (mkF m 18 #[.val (.ref a), .val (.int (maxI (maxI (0 : Int32) (y1 - y0)) (y2 - y1))), .val (.int (3 : Int32))] [(.int (2 : Int32)), (.ref a), (.int y3), (.int (maxI (maxI (0 : Int32) (y1 - y0)) (y2 - y1)))])) rfl rfl (hb hby d1_18) _ ?_
    show Steps p.tables e below (T8.setTop (mkF m 19 #[.val (.ref a), .val (.int (maxI (maxI (0 : Int32) (y1 - y0)) (y2 - y1))), .val (.int (3 : Int32))] [(.int y2), (.int y3), (.int (maxI (maxI (0 : Int32) (y1 - y0)) (y2 - y1)))])) _
    refine XS.isub X8.here hx rfl (hb hby d1_19) rfl ?_
    show Steps p.tables e below (T8.setTop (mkF m 20 #[.val (.ref a), .val (.int (maxI (maxI (0 : Int32) (y1 - y0)) (y2 - y1))), .val (.int (3 : Int32))] [(.int (y3 - y2)), (.int (maxI (maxI (0 : Int32) (y1 - y0)) (y2 - y1)))])) _
    refine st12 _ ?_
    show Steps p.tables e below (T12.setTop (mkF m 23 #[.val (.ref a), .val (.int (maxI (maxI (0 : Int32) (y1 - y0)) (y2 - y1))), .val (.int (3 : Int32))] [(.int (maxI (maxI (maxI (0 : Int32) (y1 - y0)) (y2 - y1)) (y3 - y2)))])) _
    refine XS.istoreN X12.here hx rfl (hb hby d1_23) rfl (l' := #[.val (.ref a), .val (.int (maxI (maxI (maxI (0 : Int32) (y1 - y0)) (y2 - y1)) (y3 - y2))), .val (.int (3 : Int32))]) rfl ?_
    show Steps p.tables e below (T12.setTop (mkF m 24 #[.val (.ref a), .val (.int (maxI (maxI (maxI (0 : Int32) (y1 - y0)) (y2 - y1)) (y3 - y2))), .val (.int (3 : Int32))] [])) _
    refine XS.iinc X12.here hx rfl (hb hby d1_24) rfl (l' := #[.val (.ref a), .val (.int (maxI (maxI (maxI (0 : Int32) (y1 - y0)) (y2 - y1)) (y3 - y2))), .val (.int (4 : Int32))]) rfl ?_
    show Steps p.tables e below (T12.setTop (mkF m 27 #[.val (.ref a), .val (.int (maxI (maxI (maxI (0 : Int32) (y1 - y0)) (y2 - y1)) (y3 - y2))), .val (.int (4 : Int32))] [])) _
    refine XS.goto X12.here hx rfl (pc0 := 27) (pc' := 4) rfl (hb hby d1_27) (by decide) (by decide) ?_
    show Steps p.tables e below (T12.setTop (mkF m 4 #[.val (.ref a), .val (.int (maxI (maxI (maxI (0 : Int32) (y1 - y0)) (y2 - y1)) (y3 - y2))), .val (.int (4 : Int32))] [])) _
    refine XS.iloadN X12.here hx rfl (hb hby d1_4) rfl ?_
    show Steps p.tables e below (T12.setTop (mkF m 5 #[.val (.ref a), .val (.int (maxI (maxI (maxI (0 : Int32) (y1 - y0)) (y2 - y1)) (y3 - y2))), .val (.int (4 : Int32))] [(.int (4 : Int32))])) _
    refine XS.aloadN X12.here hx rfl (hb hby d1_5) rfl rfl ?_
    show Steps p.tables e below (T12.setTop (mkF m 6 #[.val (.ref a), .val (.int (maxI (maxI (maxI (0 : Int32) (y1 - y0)) (y2 - y1)) (y3 - y2))), .val (.int (4 : Int32))] [(.ref a), (.int (4 : Int32))])) _
    refine lenA X12 hx hZ e12 F0 (n := (5 : Int32)) ln13 (g := (mkF m 6 #[.val (.ref a), .val (.int (maxI (maxI (maxI (0 : Int32) (y1 - y0)) (y2 - y1)) (y3 - y2))), .val (.int (4 : Int32))] [(.ref a), (.int (4 : Int32))])) rfl rfl (hb hby d1_6) _ ?_
    show Steps p.tables e below (T12.setTop (mkF m 7 #[.val (.ref a), .val (.int (maxI (maxI (maxI (0 : Int32) (y1 - y0)) (y2 - y1)) (y3 - y2))), .val (.int (4 : Int32))] [(.int (5 : Int32)), (.int (4 : Int32))])) _
    refine XS.icmpNo X12.here hx rfl (hb hby d1_7) rfl (tlt (by decide : ((4 : Int32) < (5 : Int32)))).2.1 ?_
    show Steps p.tables e below (T12.setTop (mkF m 10 #[.val (.ref a), .val (.int (maxI (maxI (maxI (0 : Int32) (y1 - y0)) (y2 - y1)) (y3 - y2))), .val (.int (4 : Int32))] [])) _
    refine XS.iloadN X12.here hx rfl (hb hby d1_10) rfl ?_
    show Steps p.tables e below (T12.setTop (mkF m 11 #[.val (.ref a), .val (.int (maxI (maxI (maxI (0 : Int32) (y1 - y0)) (y2 - y1)) (y3 - y2))), .val (.int (4 : Int32))] [(.int (maxI (maxI (maxI (0 : Int32) (y1 - y0)) (y2 - y1)) (y3 - y2)))])) _
    refine XS.aloadN X12.here hx rfl (hb hby d1_11) rfl rfl ?_
    show Steps p.tables e below (T12.setTop (mkF m 12 #[.val (.ref a), .val (.int (maxI (maxI (maxI (0 : Int32) (y1 - y0)) (y2 - y1)) (y3 - y2))), .val (.int (4 : Int32))] [(.ref a), (.int (maxI (maxI (maxI (0 : Int32) (y1 - y0)) (y2 - y1)) (y3 - y2)))])) _
    refine XS.iloadN X12.here hx rfl (hb hby d1_12) rfl ?_
    show Steps p.tables e below (T12.setTop (mkF m 13 #[.val (.ref a), .val (.int (maxI (maxI (maxI (0 : Int32) (y1 - y0)) (y2 - y1)) (y3 - y2))), .val (.int (4 : Int32))] [(.int (4 : Int32)), (.ref a), (.int (maxI (maxI (maxI (0 : Int32) (y1 - y0)) (y2 - y1)) (y3 - y2)))])) _
    refine ldI X12 hx hZ e12 F0 ix14.1 ix14.2 (g := (mkF m 13 #[.val (.ref a), .val (.int (maxI (maxI (maxI (0 : Int32) (y1 - y0)) (y2 - y1)) (y3 - y2))), .val (.int (4 : Int32))] [(.int (4 : Int32)), (.ref a), (.int (maxI (maxI (maxI (0 : Int32) (y1 - y0)) (y2 - y1)) (y3 - y2)))])) rfl rfl (hb hby d1_13) _ ?_
    show Steps p.tables e below (T12.setTop (mkF m 14 #[.val (.ref a), .val (.int (maxI (maxI (maxI (0 : Int32) (y1 - y0)) (y2 - y1)) (y3 - y2))), .val (.int (4 : Int32))] [(.int y4), (.int (maxI (maxI (maxI (0 : Int32) (y1 - y0)) (y2 - y1)) (y3 - y2)))])) _
    refine XS.aloadN X12.here hx rfl (hb hby d1_14) rfl rfl ?_
    show Steps p.tables e below (T12.setTop (mkF m 15 #[.val (.ref a), .val (.int (maxI (maxI (maxI (0 : Int32) (y1 - y0)) (y2 - y1)) (y3 - y2))), .val (.int (4 : Int32))] [(.ref a), (.int y4), (.int (maxI (maxI (maxI (0 : Int32) (y1 - y0)) (y2 - y1)) (y3 - y2)))])) _
    refine XS.iloadN X12.here hx rfl (hb hby d1_15) rfl ?_
    show Steps p.tables e below (T12.setTop (mkF m 16 #[.val (.ref a), .val (.int (maxI (maxI (maxI (0 : Int32) (y1 - y0)) (y2 - y1)) (y3 - y2))), .val (.int (4 : Int32))] [(.int (4 : Int32)), (.ref a), (.int y4), (.int (maxI (maxI (maxI (0 : Int32) (y1 - y0)) (y2 - y1)) (y3 - y2)))])) _
    refine XS.iconst X12.here hx rfl (hb hby d1_16) ?_
    show Steps p.tables e below (T12.setTop (mkF m 17 #[.val (.ref a), .val (.int (maxI (maxI (maxI (0 : Int32) (y1 - y0)) (y2 - y1)) (y3 - y2))), .val (.int (4 : Int32))] [(.int (1 : Int32)), (.int (4 : Int32)), (.ref a), (.int y4), (.int (maxI (maxI (maxI (0 : Int32) (y1 - y0)) (y2 - y1)) (y3 - y2)))])) _
    refine XS.isub X12.here hx rfl (hb hby d1_17) rfl ?_
    show Steps p.tables e below (T12.setTop (mkF m 18 #[.val (.ref a), .val (.int (maxI (maxI (maxI (0 : Int32) (y1 - y0)) (y2 - y1)) (y3 - y2))), .val (.int (4 : Int32))] [(.int (3 : Int32)), (.ref a), (.int y4), (.int (maxI (maxI (maxI (0 : Int32) (y1 - y0)) (y2 - y1)) (y3 - y2)))])) _
    refine ldI X12 hx hZ e12 F0 ix15.1 ix15.2 (g := (mkF m 18 #[.val (.ref a), .val (.int (maxI (maxI (maxI (0 : Int32) (y1 - y0)) (y2 - y1)) (y3 - y2))), .val (.int (4 : Int32))] [(.int (3 : Int32)), (.ref a), (.int y4), (.int (maxI (maxI (maxI (0 : Int32) (y1 - y0)) (y2 - y1)) (y3 - y2)))])) rfl rfl (hb hby d1_18) _ ?_
    show Steps p.tables e below (T12.setTop (mkF m 19 #[.val (.ref a), .val (.int (maxI (maxI (maxI (0 : Int32) (y1 - y0)) (y2 - y1)) (y3 - y2))), .val (.int (4 : Int32))] [(.int y3), (.int y4), (.int (maxI (maxI (maxI (0 : Int32) (y1 - y0)) (y2 - y1)) (y3 - y2)))])) _
    refine XS.isub X12.here hx rfl (hb hby d1_19) rfl ?_
    show Steps p.tables e below (T12.setTop (mkF m 20 #[.val (.ref a), .val (.int (maxI (maxI (maxI (0 : Int32) (y1 - y0)) (y2 - y1)) (y3 - y2))), .val (.int (4 : Int32))] [(.int (y4 - y3)), (.int (maxI (maxI (maxI (0 : Int32) (y1 - y0)) (y2 - y1)) (y3 - y2)))])) _
    refine st16 _ ?_
    show Steps p.tables e below (T16.setTop (mkF m 23 #[.val (.ref a), .val (.int (maxI (maxI (maxI (0 : Int32) (y1 - y0)) (y2 - y1)) (y3 - y2))), .val (.int (4 : Int32))] [(.int (maxI (maxI (maxI (maxI (0 : Int32) (y1 - y0)) (y2 - y1)) (y3 - y2)) (y4 - y3)))])) _
    refine XS.istoreN X16.here hx rfl (hb hby d1_23) rfl (l' := #[.val (.ref a), .val (.int (maxI (maxI (maxI (maxI (0 : Int32) (y1 - y0)) (y2 - y1)) (y3 - y2)) (y4 - y3))), .val (.int (4 : Int32))]) rfl ?_
    show Steps p.tables e below (T16.setTop (mkF m 24 #[.val (.ref a), .val (.int (maxI (maxI (maxI (maxI (0 : Int32) (y1 - y0)) (y2 - y1)) (y3 - y2)) (y4 - y3))), .val (.int (4 : Int32))] [])) _
    refine XS.iinc X16.here hx rfl (hb hby d1_24) rfl (l' := #[.val (.ref a), .val (.int (maxI (maxI (maxI (maxI (0 : Int32) (y1 - y0)) (y2 - y1)) (y3 - y2)) (y4 - y3))), .val (.int (5 : Int32))]) rfl ?_
    show Steps p.tables e below (T16.setTop (mkF m 27 #[.val (.ref a), .val (.int (maxI (maxI (maxI (maxI (0 : Int32) (y1 - y0)) (y2 - y1)) (y3 - y2)) (y4 - y3))), .val (.int (5 : Int32))] [])) _
    refine XS.goto X16.here hx rfl (pc0 := 27) (pc' := 4) rfl (hb hby d1_27) (by decide) (by decide) ?_
    show Steps p.tables e below (T16.setTop (mkF m 4 #[.val (.ref a), .val (.int (maxI (maxI (maxI (maxI (0 : Int32) (y1 - y0)) (y2 - y1)) (y3 - y2)) (y4 - y3))), .val (.int (5 : Int32))] [])) _
    refine XS.iloadN X16.here hx rfl (hb hby d1_4) rfl ?_
    show Steps p.tables e below (T16.setTop (mkF m 5 #[.val (.ref a), .val (.int (maxI (maxI (maxI (maxI (0 : Int32) (y1 - y0)) (y2 - y1)) (y3 - y2)) (y4 - y3))), .val (.int (5 : Int32))] [(.int (5 : Int32))])) _
    refine XS.aloadN X16.here hx rfl (hb hby d1_5) rfl rfl ?_
    show Steps p.tables e below (T16.setTop (mkF m 6 #[.val (.ref a), .val (.int (maxI (maxI (maxI (maxI (0 : Int32) (y1 - y0)) (y2 - y1)) (y3 - y2)) (y4 - y3))), .val (.int (5 : Int32))] [(.ref a), (.int (5 : Int32))])) _
    refine lenA X16 hx hZ e16 F0 (n := (5 : Int32)) ln17 (g := (mkF m 6 #[.val (.ref a), .val (.int (maxI (maxI (maxI (maxI (0 : Int32) (y1 - y0)) (y2 - y1)) (y3 - y2)) (y4 - y3))), .val (.int (5 : Int32))] [(.ref a), (.int (5 : Int32))])) rfl rfl (hb hby d1_6) _ ?_
    show Steps p.tables e below (T16.setTop (mkF m 7 #[.val (.ref a), .val (.int (maxI (maxI (maxI (maxI (0 : Int32) (y1 - y0)) (y2 - y1)) (y3 - y2)) (y4 - y3))), .val (.int (5 : Int32))] [(.int (5 : Int32)), (.int (5 : Int32))])) _
    refine XS.icmpYes X16.here hx rfl (pc0 := 7) (pc' := 30) rfl (hb hby d1_7) rfl (flt (by decide : ¬ ((5 : Int32) < (5 : Int32)))).2.1 (by decide) (by decide) ?_
    show Steps p.tables e below (T16.setTop (mkF m 30 #[.val (.ref a), .val (.int (maxI (maxI (maxI (maxI (0 : Int32) (y1 - y0)) (y2 - y1)) (y3 - y2)) (y4 - y3))), .val (.int (5 : Int32))] [])) _
    refine XS.iloadN X16.here hx rfl (hb hby d1_30) rfl ?_
    exact kt
  refine Go.fin X16 (v := some (.int (maxI (maxI (maxI (maxI (0 : Int32) (y1 - y0)) (y2 - y1)) (y3 - y2)) (y4 - y3)))) (fun h => by rw [Bd.returns] at h; cases h) Bd.notSynchronized ?_ (Nat.le_trans (Nat.add_le_add_right (Nat.add_le_add_right (Nat.add_le_add_right (Nat.add_le_add_right (Nat.le_refl 0) 0) 0) 0) 0) (by decide)) (Nat.le_trans (Nat.add_le_add_right (Nat.add_le_add_right (Nat.add_le_add_right (Nat.add_le_add_right (Nat.le_refl 0) 0) 0) 0) 0) (by decide)) (fun fs hr => retI X16 hx Bd.returns (hb hby d1_31) hr)
  · exact ⟨by rw [hf], N16, e16⟩
theorem own_m0 {x : Int32} (h : 0 ≤ x.toInt) : maxI 0 x = x := by
  unfold maxI
  have k0 : (0 : Int32).toInt = 0 := rfl
  by_cases g : (0 : Int32) < x
  · rw [if_pos g]
  · rw [if_neg g]
    rw [Int32.lt_iff_toInt_lt] at g
    exact Int32.toInt_inj.mp (by omega)
theorem own_s0 (x : Int32) : x - 0 = x := by
  apply Int32.toInt_inj.mp
  have := c_isub x 0; have := rng32 x; have := rng32 (x - 0); have k0 : (0 : Int32).toInt = 0 := rfl
  omega
theorem own_sc (x y : Int32) : (x + y) - x = y := by
  apply Int32.toInt_inj.mp
  have := c_isub (x + y) x; have := c_iadd x y; have := rng32 x; have := rng32 y; have := rng32 (x + y); have := rng32 ((x + y) - x)
  omega
theorem own_len (n : Int32) : (((n &&& (2147483647 : Int32)) % (6 : Int32)) = (0 : Int32) ∨ ((n &&& (2147483647 : Int32)) % (6 : Int32)) = (1 : Int32) ∨ ((n &&& (2147483647 : Int32)) % (6 : Int32)) = (2 : Int32) ∨ ((n &&& (2147483647 : Int32)) % (6 : Int32)) = (3 : Int32) ∨ ((n &&& (2147483647 : Int32)) % (6 : Int32)) = (4 : Int32) ∨ ((n &&& (2147483647 : Int32)) % (6 : Int32)) = (5 : Int32)) := by
  have h := c_and n 2147483647 (by decide)
  have h2 := own_rem (n &&& 2147483647) 6 h.1
  have k6 : (6 : Int32).toInt = 6 := rfl
  rw [k6] at h2
  obtain ⟨k, hk⟩ := own_fin (x := (n &&& 2147483647) % 6) (n := 6) (by omega) (by omega) (by decide)
  rw [hk]
  clear hk h h2
  revert k; decide
theorem own_e (d : Int32) : 0 ≤ (d &&& (536870911 : Int32)).toInt := (c_and d 536870911 (by decide)).1
theorem pd_1 : parseMethodDescriptor "([I)I" = some ⟨[(.array .int)], some .int⟩ := by decide +kernel
theorem pn_1 : plainName "com/example/laneweave/laneweave/OverlapLongestPinLaw" = true := by first | (simp [plainName, overriddenIn]; done) | decide +kernel
theorem ef_0 (m : MethodId) (x0 : Int32) (x1 : Int32) (x2 : Int32) (x3 : Int32) (x4 : Int32) : entryFrame m #[(.int x0), (.int x1), (.int x2), (.int x3), (.int x4)] maxLocals = mkF m 0 #[.val (.int x0), .val (.int x1), .val (.int x2), .val (.int x3), .val (.int x4), .unset, .unset, .unset, .unset, .unset, .unset, .unset] [] := by first | (simp [entryFrame, mkF, argsToLocals, Value.category, maxLocals]; done) | rfl
def Q0 (Z : State) (p1 : Int32) (p2 : Int32) (p3 : Int32) (p4 : Int32) (p5 : Int32)  (h0 : Heap) (n0 : Nat) (v : Option Value) (h : Heap) (L : List Loc) : Prop := v = some (.int (1 : Int32)) ∧ Fr n0 L
set_option maxRecDepth 65536 in
set_option maxHeartbeats 40000000 in
theorem rm_0 (l : Launch) (Z : State) (a0 : Array Value) (hw : ∀ d ∈ tables_1, d.before a0 Z = true) (ws : List Jvm.Cond) (p1 : Int32) (p2 : Int32) (p3 : Int32) (p4 : Int32) (p5 : Int32)  (h0 : Heap) (n0 : Nat) (Z0 : n0 ≤ h0.size) :
    MetFree l x (head1 (Jvm.Cond.code x code maxLocals ret :: ws) room_1) (fun A_ U => A_ = #[(.int p1), (.int p2), (.int p3), (.int p4), (.int p5)] ∧ Z.Warmed39 U.vm ∧ U.heap = h0) (fun _ _ _ _ _ => True) (fun _ U o U' => ∃ v L, o = .returned v ∧ Q0 Z p1 p2 p3 p4 p5 h0 n0 v U'.heap L ∧ FrameEnd U o U' L 16 128) := by
  refine MetFree.of_bodySF (plainFor_of_name pn_1) hisR ?_
  intro p e s m args below meth c s₁ Bd hml0 hP hK
  obtain ⟨rfl, hZ, hh⟩ := hP
  have hx := Bd.exec
  have hby := Bd.bytes
  have hml : c.maxLocals = 12 := hml0
  have hown : s.vm.findClass "com/example/laneweave/laneweave/OverlapLongestPinLaw" = some m.cls := findClass_of_methodNamed Bd.named
  have hnm := (name_of_methodNamed Bd.named Bd.method).1
  have X0 : Stand p l e room_1 s m #[(.int p1), (.int p2), (.int p3), (.int p4), (.int p5)] below meth c s₁ [] 0 0 := Stand.of_body Bd
  have e0 : s₁.heap = h0 := by rw [← hh, Bd.state]; rfl
  have N0 := Fr.nil n0
  suffices HGO : Go p e below s (Q0 Z p1 p2 p3 p4 p5 h0 n0) 16 128 s₁ (mkF m 0 #[.val (.int p1), .val (.int p2), .val (.int p3), .val (.int p4), .val (.int p5), .unset, .unset, .unset, .unset, .unset, .unset, .unset] []) from Go.cast (ef_0 m p1 p2 p3 p4 p5) HGO
  have S34 : ∀ (T : State) (locs : List Loc) (cells slots : Nat) (X : Stand p l e room_1 s m #[(.int p1), (.int p2), (.int p3), (.int p4), (.int p5)] below meth c T locs cells slots) (hcl : cells ≤ 0) (hsl : slots ≤ 0) (h : Heap) (eT : T.heap = h) (N : Fr n0 locs) (x5 : Int32) (x6 : Int32) (x7 : Int32) (x8 : Int32) (x9 : Int32)  (K : Keep h0 h []) (hs : x5 = (0 : Int32) ∨ x5 = (1 : Int32) ∨ x5 = (2 : Int32) ∨ x5 = (3 : Int32) ∨ x5 = (4 : Int32) ∨ x5 = (5 : Int32)) (h6 : 0 ≤ x6.toInt) (h7 : 0 ≤ x7.toInt) (h8 : 0 ≤ x8.toInt) (h9 : 0 ≤ x9.toInt), Go p e below s (Q0 Z p1 p2 p3 p4 p5 h0 n0) 16 128 T (mkF m 34 #[.val (.int p1), .val (.int p2), .val (.int p3), .val (.int p4), .val (.int p5), .val (.int x5), .val (.int x6), .val (.int x7), .val (.int x8), .val (.int x9), .unset, .unset] []) := by
    intro T locs cells slots X hcl hsl h eT N x5 x6 x7 x8 x9 K hs h6 h7 h8 h9
    have Zh : n0 ≤ h.size := Nat.le_trans Z0 K.1
    rcases hs with hs | hs | hs | hs | hs | hs
    · subst hs
      obtain ⟨T1, h1, X1, e1, E1, A1, st1⟩ := newI X hx hZ (hw _ (List.mem_of_getElem? (i := 2) rfl)) eT (g := (mkF m 36 #[.val (.int p1), .val (.int p2), .val (.int p3), .val (.int p4), .val (.int p5), .val (.int (0 : Int32)), .val (.int x6), .val (.int x7), .val (.int x8), .val (.int x9), .unset, .unset] [(.int (0 : Int32))])) rfl (hb hby at_36) rfl (by decide) (cap := 0) (by decide) (by decide) (Nat.le_trans (Nat.add_le_add_right hcl 1) (by decide)) (Nat.le_trans (Nat.add_le_add_right hsl 0) (by decide))
      obtain ⟨b1, g1⟩ : ∃ z, z = h.size := ⟨_, rfl⟩
      rw [← g1] at A1 st1
      have g_b1 : n0 ≤ b1 := Nat.le_trans Zh (Nat.le_of_eq g1.symm)
      have sz_b1 : h0.size ≤ b1 := Nat.le_trans K.1 (Nat.le_of_eq g1.symm)
      have K1 : Keep h0 h1 [] := Keep.ext K E1
      have Z1 : n0 ≤ h1.size := Nat.le_trans Z0 K1.1
      have G2 : VA Z h1 b1 .int ([].map Value.int) := A1
      obtain ⟨_, _, ⟨T3, L3, k3, n3⟩, -, X3, ⟨Lc3, hQ3, l3, y3, z3⟩, st3⟩ := Jvm.LawKit.callS X1 hx (y := (⟨"com/example/laneweave/laneweave/Overlap", "longest", "([I)I"⟩ : MethodName)) hown (mvT hZ (hw _ (List.mem_of_getElem? (i := 3) rfl))) (mvT hZ (hw _ (List.mem_of_getElem? (i := 4) rfl))) (mvT hZ (hw _ (List.mem_of_getElem? (i := 5) rfl))) (mvT hZ (hw _ (List.mem_of_getElem? (i := 6) rfl))) (by decide) (backOf (W := 0) (rm_lon0 l Z a0 hw [] b1  h1 n0 Z1 G2 ) hZ (hw _ (List.mem_of_getElem? (i := 6) rfl)) (hw _ (List.mem_of_getElem? (i := 5) rfl)) (by decide) (by decide)) (g := (mkF m 176 #[.val (.int p1), .val (.int p2), .val (.int p3), .val (.int p4), .val (.int p5), .val (.int (0 : Int32)), .val (.int x6), .val (.int x7), .val (.int x8), .val (.int x9), .val (.ref b1), .val (.int (0 : Int32))] [(.ref b1)])) rfl (by rw [hml]; rfl) (argsL := [(.ref b1)]) (rest := []) (lenOf pd_1 rfl) rfl (by show 2 * 0 + _ ≤ _; exact Nat.le_of_eq rfl) (hb hby at_176) (fun _ _ => ⟨rfl, e1, (Nat.le_trans (Nat.add_le_add_right (Nat.add_le_add_right hcl 1) 0) (by decide)), (Nat.le_trans (Nat.add_le_add_right hsl 0) (by decide))⟩)
      dsimp only [Pt.U, Pt.locs, Pt.cells, Pt.slots] at X3 l3 y3 z3 st3 hQ3
      subst l3 y3 z3
      obtain ⟨rfl, N3q, e3⟩ := hQ3
      have N3 := Fr.app N N3q
      refine Go.step (T' := T3) (f' := (mkF m 181 #[.val (.int p1), .val (.int p2), .val (.int p3), .val (.int p4), .val (.int p5), .val (.int (0 : Int32)), .val (.int x6), .val (.int x7), .val (.int x8), .val (.int x9), .val (.ref b1), .val (.int (0 : Int32))] [(.int (0 : Int32)), (.int (lon0 ))])) (fun t kt => ?_) ?_
      · show Steps p.tables e below (T.setTop (mkF m 34 #[.val (.int p1), .val (.int p2), .val (.int p3), .val (.int p4), .val (.int p5), .val (.int (0 : Int32)), .val (.int x6), .val (.int x7), .val (.int x8), .val (.int x9), .unset, .unset] [])) _
        refine XS.iload X.here hx rfl (hb hby at_34) rfl ?_
        show Steps p.tables e below (T.setTop (mkF m 36 #[.val (.int p1), .val (.int p2), .val (.int p3), .val (.int p4), .val (.int p5), .val (.int (0 : Int32)), .val (.int x6), .val (.int x7), .val (.int x8), .val (.int x9), .unset, .unset] [(.int (0 : Int32))])) _
        refine st1 _ ?_
        show Steps p.tables e below (T1.setTop (mkF m 38 #[.val (.int p1), .val (.int p2), .val (.int p3), .val (.int p4), .val (.int p5), .val (.int (0 : Int32)), .val (.int x6), .val (.int x7), .val (.int x8), .val (.int x9), .unset, .unset] [(.ref b1)])) _
        refine XS.astore X1.here hx rfl (hb hby at_38) rfl rfl (l' := #[.val (.int p1), .val (.int p2), .val (.int p3), .val (.int p4), .val (.int p5), .val (.int (0 : Int32)), .val (.int x6), .val (.int x7), .val (.int x8), .val (.int x9), .val (.ref b1), .unset]) rfl ?_
        show Steps p.tables e below (T1.setTop (mkF m 40 #[.val (.int p1), .val (.int p2), .val (.int p3), .val (.int p4), .val (.int p5), .val (.int (0 : Int32)), .val (.int x6), .val (.int x7), .val (.int x8), .val (.int x9), .val (.ref b1), .unset] [])) _
        refine XS.iload X1.here hx rfl (hb hby at_40) rfl ?_
        show Steps p.tables e below (T1.setTop (mkF m 42 #[.val (.int p1), .val (.int p2), .val (.int p3), .val (.int p4), .val (.int p5), .val (.int (0 : Int32)), .val (.int x6), .val (.int x7), .val (.int x8), .val (.int x9), .val (.ref b1), .unset] [(.int (0 : Int32))])) _
        refine XS.ifYes X1.here hx rfl (pc0 := 42) (pc' := 50) rfl (hb hby at_42) rfl ((if0 _ _).trans (flt (by decide : ¬ ((0 : Int32) < (0 : Int32)))).2.2.2) (by decide) (by decide) ?_
        show Steps p.tables e below (T1.setTop (mkF m 50 #[.val (.int p1), .val (.int p2), .val (.int p3), .val (.int p4), .val (.int p5), .val (.int (0 : Int32)), .val (.int x6), .val (.int x7), .val (.int x8), .val (.int x9), .val (.ref b1), .unset] [])) _
        refine XS.iload X1.here hx rfl (hb hby at_50) rfl ?_
        show Steps p.tables e below (T1.setTop (mkF m 52 #[.val (.int p1), .val (.int p2), .val (.int p3), .val (.int p4), .val (.int p5), .val (.int (0 : Int32)), .val (.int x6), .val (.int x7), .val (.int x8), .val (.int x9), .val (.ref b1), .unset] [(.int (0 : Int32))])) _
        refine XS.iconst X1.here hx rfl (hb hby at_52) ?_
        show Steps p.tables e below (T1.setTop (mkF m 53 #[.val (.int p1), .val (.int p2), .val (.int p3), .val (.int p4), .val (.int p5), .val (.int (0 : Int32)), .val (.int x6), .val (.int x7), .val (.int x8), .val (.int x9), .val (.ref b1), .unset] [(.int (1 : Int32)), (.int (0 : Int32))])) _
        refine XS.icmpYes X1.here hx rfl (pc0 := 53) (pc' := 62) rfl (hb hby at_53) rfl (flt (by decide : ¬ ((1 : Int32) < (0 : Int32)))).2.2.2 (by decide) (by decide) ?_
        show Steps p.tables e below (T1.setTop (mkF m 62 #[.val (.int p1), .val (.int p2), .val (.int p3), .val (.int p4), .val (.int p5), .val (.int (0 : Int32)), .val (.int x6), .val (.int x7), .val (.int x8), .val (.int x9), .val (.ref b1), .unset] [])) _
        refine XS.iload X1.here hx rfl (hb hby at_62) rfl ?_
        show Steps p.tables e below (T1.setTop (mkF m 64 #[.val (.int p1), .val (.int p2), .val (.int p3), .val (.int p4), .val (.int p5), .val (.int (0 : Int32)), .val (.int x6), .val (.int x7), .val (.int x8), .val (.int x9), .val (.ref b1), .unset] [(.int (0 : Int32))])) _
        refine XS.iconst X1.here hx rfl (hb hby at_64) ?_
        show Steps p.tables e below (T1.setTop (mkF m 65 #[.val (.int p1), .val (.int p2), .val (.int p3), .val (.int p4), .val (.int p5), .val (.int (0 : Int32)), .val (.int x6), .val (.int x7), .val (.int x8), .val (.int x9), .val (.ref b1), .unset] [(.int (2 : Int32)), (.int (0 : Int32))])) _
        refine XS.icmpYes X1.here hx rfl (pc0 := 65) (pc' := 77) rfl (hb hby at_65) rfl (flt (by decide : ¬ ((2 : Int32) < (0 : Int32)))).2.2.2 (by decide) (by decide) ?_
        show Steps p.tables e below (T1.setTop (mkF m 77 #[.val (.int p1), .val (.int p2), .val (.int p3), .val (.int p4), .val (.int p5), .val (.int (0 : Int32)), .val (.int x6), .val (.int x7), .val (.int x8), .val (.int x9), .val (.ref b1), .unset] [])) _
        refine XS.iload X1.here hx rfl (hb hby at_77) rfl ?_
        show Steps p.tables e below (T1.setTop (mkF m 79 #[.val (.int p1), .val (.int p2), .val (.int p3), .val (.int p4), .val (.int p5), .val (.int (0 : Int32)), .val (.int x6), .val (.int x7), .val (.int x8), .val (.int x9), .val (.ref b1), .unset] [(.int (0 : Int32))])) _
        refine XS.iconst X1.here hx rfl (hb hby at_79) ?_
        show Steps p.tables e below (T1.setTop (mkF m 80 #[.val (.int p1), .val (.int p2), .val (.int p3), .val (.int p4), .val (.int p5), .val (.int (0 : Int32)), .val (.int x6), .val (.int x7), .val (.int x8), .val (.int x9), .val (.ref b1), .unset] [(.int (3 : Int32)), (.int (0 : Int32))])) _
        refine XS.icmpYes X1.here hx rfl (pc0 := 80) (pc' := 95) rfl (hb hby at_80) rfl (flt (by decide : ¬ ((3 : Int32) < (0 : Int32)))).2.2.2 (by decide) (by decide) ?_
        show Steps p.tables e below (T1.setTop (mkF m 95 #[.val (.int p1), .val (.int p2), .val (.int p3), .val (.int p4), .val (.int p5), .val (.int (0 : Int32)), .val (.int x6), .val (.int x7), .val (.int x8), .val (.int x9), .val (.ref b1), .unset] [])) _
        refine XS.iload X1.here hx rfl (hb hby at_95) rfl ?_
        show Steps p.tables e below (T1.setTop (mkF m 97 #[.val (.int p1), .val (.int p2), .val (.int p3), .val (.int p4), .val (.int p5), .val (.int (0 : Int32)), .val (.int x6), .val (.int x7), .val (.int x8), .val (.int x9), .val (.ref b1), .unset] [(.int (0 : Int32))])) _
        refine XS.iconst X1.here hx rfl (hb hby at_97) ?_
        show Steps p.tables e below (T1.setTop (mkF m 98 #[.val (.int p1), .val (.int p2), .val (.int p3), .val (.int p4), .val (.int p5), .val (.int (0 : Int32)), .val (.int x6), .val (.int x7), .val (.int x8), .val (.int x9), .val (.ref b1), .unset] [(.int (4 : Int32)), (.int (0 : Int32))])) _
        refine XS.icmpYes X1.here hx rfl (pc0 := 98) (pc' := 116) rfl (hb hby at_98) rfl (flt (by decide : ¬ ((4 : Int32) < (0 : Int32)))).2.2.2 (by decide) (by decide) ?_
        show Steps p.tables e below (T1.setTop (mkF m 116 #[.val (.int p1), .val (.int p2), .val (.int p3), .val (.int p4), .val (.int p5), .val (.int (0 : Int32)), .val (.int x6), .val (.int x7), .val (.int x8), .val (.int x9), .val (.ref b1), .unset] [])) _
        refine XS.iconst X1.here hx rfl (hb hby at_116) ?_
        show Steps p.tables e below (T1.setTop (mkF m 117 #[.val (.int p1), .val (.int p2), .val (.int p3), .val (.int p4), .val (.int p5), .val (.int (0 : Int32)), .val (.int x6), .val (.int x7), .val (.int x8), .val (.int x9), .val (.ref b1), .unset] [(.int (0 : Int32))])) _
        refine XS.istore X1.here hx rfl (hb hby at_117) rfl (l' := #[.val (.int p1), .val (.int p2), .val (.int p3), .val (.int p4), .val (.int p5), .val (.int (0 : Int32)), .val (.int x6), .val (.int x7), .val (.int x8), .val (.int x9), .val (.ref b1), .val (.int (0 : Int32))]) rfl ?_
        show Steps p.tables e below (T1.setTop (mkF m 119 #[.val (.int p1), .val (.int p2), .val (.int p3), .val (.int p4), .val (.int p5), .val (.int (0 : Int32)), .val (.int x6), .val (.int x7), .val (.int x8), .val (.int x9), .val (.ref b1), .val (.int (0 : Int32))] [])) _
        refine XS.iload X1.here hx rfl (hb hby at_119) rfl ?_
        show Steps p.tables e below (T1.setTop (mkF m 121 #[.val (.int p1), .val (.int p2), .val (.int p3), .val (.int p4), .val (.int p5), .val (.int (0 : Int32)), .val (.int x6), .val (.int x7), .val (.int x8), .val (.int x9), .val (.ref b1), .val (.int (0 : Int32))] [(.int (0 : Int32))])) _
        refine XS.iconst X1.here hx rfl (hb hby at_121) ?_
        show Steps p.tables e below (T1.setTop (mkF m 122 #[.val (.int p1), .val (.int p2), .val (.int p3), .val (.int p4), .val (.int p5), .val (.int (0 : Int32)), .val (.int x6), .val (.int x7), .val (.int x8), .val (.int x9), .val (.ref b1), .val (.int (0 : Int32))] [(.int (1 : Int32)), (.int (0 : Int32))])) _
        refine XS.icmpYes X1.here hx rfl (pc0 := 122) (pc' := 129) rfl (hb hby at_122) rfl (flt (by decide : ¬ ((1 : Int32) < (0 : Int32)))).2.2.2 (by decide) (by decide) ?_
        show Steps p.tables e below (T1.setTop (mkF m 129 #[.val (.int p1), .val (.int p2), .val (.int p3), .val (.int p4), .val (.int p5), .val (.int (0 : Int32)), .val (.int x6), .val (.int x7), .val (.int x8), .val (.int x9), .val (.ref b1), .val (.int (0 : Int32))] [])) _
        refine XS.iload X1.here hx rfl (hb hby at_129) rfl ?_
        show Steps p.tables e below (T1.setTop (mkF m 131 #[.val (.int p1), .val (.int p2), .val (.int p3), .val (.int p4), .val (.int p5), .val (.int (0 : Int32)), .val (.int x6), .val (.int x7), .val (.int x8), .val (.int x9), .val (.ref b1), .val (.int (0 : Int32))] [(.int (0 : Int32))])) _
        refine XS.iconst X1.here hx rfl (hb hby at_131) ?_
        show Steps p.tables e below (T1.setTop (mkF m 132 #[.val (.int p1), .val (.int p2), .val (.int p3), .val (.int p4), .val (.int p5), .val (.int (0 : Int32)), .val (.int x6), .val (.int x7), .val (.int x8), .val (.int x9), .val (.ref b1), .val (.int (0 : Int32))] [(.int (2 : Int32)), (.int (0 : Int32))])) _
        refine XS.icmpYes X1.here hx rfl (pc0 := 132) (pc' := 144) rfl (hb hby at_132) rfl (flt (by decide : ¬ ((2 : Int32) < (0 : Int32)))).2.2.2 (by decide) (by decide) ?_
        show Steps p.tables e below (T1.setTop (mkF m 144 #[.val (.int p1), .val (.int p2), .val (.int p3), .val (.int p4), .val (.int p5), .val (.int (0 : Int32)), .val (.int x6), .val (.int x7), .val (.int x8), .val (.int x9), .val (.ref b1), .val (.int (0 : Int32))] [])) _
        refine XS.iload X1.here hx rfl (hb hby at_144) rfl ?_
        show Steps p.tables e below (T1.setTop (mkF m 146 #[.val (.int p1), .val (.int p2), .val (.int p3), .val (.int p4), .val (.int p5), .val (.int (0 : Int32)), .val (.int x6), .val (.int x7), .val (.int x8), .val (.int x9), .val (.ref b1), .val (.int (0 : Int32))] [(.int (0 : Int32))])) _
        refine XS.iconst X1.here hx rfl (hb hby at_146) ?_
        show Steps p.tables e below (T1.setTop (mkF m 147 #[.val (.int p1), .val (.int p2), .val (.int p3), .val (.int p4), .val (.int p5), .val (.int (0 : Int32)), .val (.int x6), .val (.int x7), .val (.int x8), .val (.int x9), .val (.ref b1), .val (.int (0 : Int32))] [(.int (3 : Int32)), (.int (0 : Int32))])) _
        refine XS.icmpYes X1.here hx rfl (pc0 := 147) (pc' := 159) rfl (hb hby at_147) rfl (flt (by decide : ¬ ((3 : Int32) < (0 : Int32)))).2.2.2 (by decide) (by decide) ?_
        show Steps p.tables e below (T1.setTop (mkF m 159 #[.val (.int p1), .val (.int p2), .val (.int p3), .val (.int p4), .val (.int p5), .val (.int (0 : Int32)), .val (.int x6), .val (.int x7), .val (.int x8), .val (.int x9), .val (.ref b1), .val (.int (0 : Int32))] [])) _
        refine XS.iload X1.here hx rfl (hb hby at_159) rfl ?_
        show Steps p.tables e below (T1.setTop (mkF m 161 #[.val (.int p1), .val (.int p2), .val (.int p3), .val (.int p4), .val (.int p5), .val (.int (0 : Int32)), .val (.int x6), .val (.int x7), .val (.int x8), .val (.int x9), .val (.ref b1), .val (.int (0 : Int32))] [(.int (0 : Int32))])) _
        refine XS.iconst X1.here hx rfl (hb hby at_161) ?_
        show Steps p.tables e below (T1.setTop (mkF m 162 #[.val (.int p1), .val (.int p2), .val (.int p3), .val (.int p4), .val (.int p5), .val (.int (0 : Int32)), .val (.int x6), .val (.int x7), .val (.int x8), .val (.int x9), .val (.ref b1), .val (.int (0 : Int32))] [(.int (4 : Int32)), (.int (0 : Int32))])) _
        refine XS.icmpYes X1.here hx rfl (pc0 := 162) (pc' := 174) rfl (hb hby at_162) rfl (flt (by decide : ¬ ((4 : Int32) < (0 : Int32)))).2.2.2 (by decide) (by decide) ?_
        show Steps p.tables e below (T1.setTop (mkF m 174 #[.val (.int p1), .val (.int p2), .val (.int p3), .val (.int p4), .val (.int p5), .val (.int (0 : Int32)), .val (.int x6), .val (.int x7), .val (.int x8), .val (.int x9), .val (.ref b1), .val (.int (0 : Int32))] [])) _
        refine XS.aload X1.here hx rfl (hb hby at_174) rfl rfl ?_
        show Steps p.tables e below (T1.setTop (mkF m 176 #[.val (.int p1), .val (.int p2), .val (.int p3), .val (.int p4), .val (.int p5), .val (.int (0 : Int32)), .val (.int x6), .val (.int x7), .val (.int x8), .val (.int x9), .val (.ref b1), .val (.int (0 : Int32))] [(.ref b1)])) _
        refine st3 _ ?_
        show Steps p.tables e below (T3.setTop (mkF m 179 #[.val (.int p1), .val (.int p2), .val (.int p3), .val (.int p4), .val (.int p5), .val (.int (0 : Int32)), .val (.int x6), .val (.int x7), .val (.int x8), .val (.int x9), .val (.ref b1), .val (.int (0 : Int32))] [(.int (lon0 ))])) _
        refine XS.iload X3.here hx rfl (hb hby at_179) rfl ?_
        exact kt
      have hd4 : (lon0 ) = (0 : Int32) := rfl
      refine Go.step (T' := T3) (f' := (mkF m 189 #[.val (.int p1), .val (.int p2), .val (.int p3), .val (.int p4), .val (.int p5), .val (.int (0 : Int32)), .val (.int x6), .val (.int x7), .val (.int x8), .val (.int x9), .val (.ref b1), .val (.int (0 : Int32))] [(.int (1 : Int32))])) (fun t kt => ?_) ?_
      · show Steps p.tables e below (T3.setTop (mkF m 181 #[.val (.int p1), .val (.int p2), .val (.int p3), .val (.int p4), .val (.int p5), .val (.int (0 : Int32)), .val (.int x6), .val (.int x7), .val (.int x8), .val (.int x9), .val (.ref b1), .val (.int (0 : Int32))] [(.int (0 : Int32)), (.int (lon0 ))])) _
        refine XS.icmpNo X3.here hx rfl (hb hby at_181) rfl (teq hd4).2 ?_
        show Steps p.tables e below (T3.setTop (mkF m 184 #[.val (.int p1), .val (.int p2), .val (.int p3), .val (.int p4), .val (.int p5), .val (.int (0 : Int32)), .val (.int x6), .val (.int x7), .val (.int x8), .val (.int x9), .val (.ref b1), .val (.int (0 : Int32))] [])) _
        refine XS.iconst X3.here hx rfl (hb hby at_184) ?_
        show Steps p.tables e below (T3.setTop (mkF m 185 #[.val (.int p1), .val (.int p2), .val (.int p3), .val (.int p4), .val (.int p5), .val (.int (0 : Int32)), .val (.int x6), .val (.int x7), .val (.int x8), .val (.int x9), .val (.ref b1), .val (.int (0 : Int32))] [(.int (1 : Int32))])) _
        refine XS.goto X3.here hx rfl (pc0 := 185) (pc' := 189) rfl (hb hby at_185) (by decide) (by decide) ?_
        exact kt
      refine Go.fin X3 (v := some (.int (1 : Int32))) (fun h => by rw [Bd.returns] at h; cases h) Bd.notSynchronized ?_ (Nat.le_trans (Nat.add_le_add_right (Nat.add_le_add_right hcl 1) 0) (by decide)) (Nat.le_trans (Nat.add_le_add_right hsl 0) (by decide)) (fun fs hr => retN X3 hx (t := .boolean) Bd.returns (by simp) (hb hby at_189) hr)
      · show Q0 Z p1 p2 p3 p4 p5 h0 n0 _ T3.heap _
        exact ⟨rfl, N3⟩
    · subst hs
      obtain ⟨T5, h5, X5, e5, E5, A5, st5⟩ := newI X hx hZ (hw _ (List.mem_of_getElem? (i := 2) rfl)) eT (g := (mkF m 36 #[.val (.int p1), .val (.int p2), .val (.int p3), .val (.int p4), .val (.int p5), .val (.int (1 : Int32)), .val (.int x6), .val (.int x7), .val (.int x8), .val (.int x9), .unset, .unset] [(.int (1 : Int32))])) rfl (hb hby at_36) rfl (by decide) (cap := 1) (by decide) (by decide) (Nat.le_trans (Nat.add_le_add_right hcl 1) (by decide)) (Nat.le_trans (Nat.add_le_add_right hsl 1) (by decide))
      obtain ⟨b5, g5⟩ : ∃ z, z = h.size := ⟨_, rfl⟩
      rw [← g5] at A5 st5
      have g_b5 : n0 ≤ b5 := Nat.le_trans Zh (Nat.le_of_eq g5.symm)
      have sz_b5 : h0.size ≤ b5 := Nat.le_trans K.1 (Nat.le_of_eq g5.symm)
      have K5 : Keep h0 h5 [] := Keep.ext K E5
      have Z5 : n0 ≤ h5.size := Nat.le_trans Z0 K5.1
      have G6 : VA Z h5 b5 .int ([(0 : Int32)].map Value.int) := A5
      have ix7 : 0 ≤ ((0 : Int32)).toInt ∧ ((0 : Int32)).toInt < (([(0 : Int32)]).length : Int) := by constructor <;> first | decide | (simp; done)
      obtain ⟨T8, h8, X8, e8, W8, V8, st8⟩ := putI X5 hx hZ e5 G6 ix7.1 ix7.2 (g := (mkF m 49 #[.val (.int p1), .val (.int p2), .val (.int p3), .val (.int p4), .val (.int p5), .val (.int (1 : Int32)), .val (.int x6), .val (.int x7), .val (.int x8), .val (.int x9), .val (.ref b5), .unset] [(.int (0 : Int32)), (.int (0 : Int32)), (.ref b5)])) rfl rfl (hb hby at_49)
      have G9 : VA Z h8 b5 .int ([(0 : Int32)].map Value.int) := V8
      have N8 := Fr.snoc X8 N g_b5
      have K8 : Keep h0 h8 [] := Keep.wr K5 W8 (Or.inr sz_b5)
      have Z8 : n0 ≤ h8.size := Nat.le_trans Z0 K8.1
      obtain ⟨_, _, ⟨T10, L10, k10, n10⟩, -, X10, ⟨Lc10, hQ10, l10, y10, z10⟩, st10⟩ := Jvm.LawKit.callS X8 hx (y := (⟨"com/example/laneweave/laneweave/Overlap", "longest", "([I)I"⟩ : MethodName)) hown (mvT hZ (hw _ (List.mem_of_getElem? (i := 3) rfl))) (mvT hZ (hw _ (List.mem_of_getElem? (i := 4) rfl))) (mvT hZ (hw _ (List.mem_of_getElem? (i := 5) rfl))) (mvT hZ (hw _ (List.mem_of_getElem? (i := 6) rfl))) (by decide) (backOf (W := 0) (rm_lon1 l Z a0 hw [] b5 (0 : Int32) h8 n0 Z8 G9 ) hZ (hw _ (List.mem_of_getElem? (i := 6) rfl)) (hw _ (List.mem_of_getElem? (i := 5) rfl)) (by decide) (by decide)) (g := (mkF m 176 #[.val (.int p1), .val (.int p2), .val (.int p3), .val (.int p4), .val (.int p5), .val (.int (1 : Int32)), .val (.int x6), .val (.int x7), .val (.int x8), .val (.int x9), .val (.ref b5), .val (.int (0 : Int32))] [(.ref b5)])) rfl (by rw [hml]; rfl) (argsL := [(.ref b5)]) (rest := []) (lenOf pd_1 rfl) rfl (by show 2 * 0 + _ ≤ _; exact Nat.le_of_eq rfl) (hb hby at_176) (fun _ _ => ⟨rfl, e8, (Nat.le_trans (Nat.add_le_add_right (Nat.add_le_add_right hcl 1) 0) (by decide)), (Nat.le_trans (Nat.add_le_add_right (Nat.add_le_add_right hsl 1) 0) (by decide))⟩)
      dsimp only [Pt.U, Pt.locs, Pt.cells, Pt.slots] at X10 l10 y10 z10 st10 hQ10
      subst l10 y10 z10
      obtain ⟨rfl, N10q, e10⟩ := hQ10
      have N10 := Fr.app N8 N10q
      refine Go.step (T' := T10) (f' := (mkF m 181 #[.val (.int p1), .val (.int p2), .val (.int p3), .val (.int p4), .val (.int p5), .val (.int (1 : Int32)), .val (.int x6), .val (.int x7), .val (.int x8), .val (.int x9), .val (.ref b5), .val (.int (0 : Int32))] [(.int (0 : Int32)), (.int (lon1 (0 : Int32)))])) (fun t kt => ?_) ?_
      · show Steps p.tables e below (T.setTop (mkF m 34 #[.val (.int p1), .val (.int p2), .val (.int p3), .val (.int p4), .val (.int p5), .val (.int (1 : Int32)), .val (.int x6), .val (.int x7), .val (.int x8), .val (.int x9), .unset, .unset] [])) _
        refine XS.iload X.here hx rfl (hb hby at_34) rfl ?_
        show Steps p.tables e below (T.setTop (mkF m 36 #[.val (.int p1), .val (.int p2), .val (.int p3), .val (.int p4), .val (.int p5), .val (.int (1 : Int32)), .val (.int x6), .val (.int x7), .val (.int x8), .val (.int x9), .unset, .unset] [(.int (1 : Int32))])) _
        refine st5 _ ?_
        show Steps p.tables e below (T5.setTop (mkF m 38 #[.val (.int p1), .val (.int p2), .val (.int p3), .val (.int p4), .val (.int p5), .val (.int (1 : Int32)), .val (.int x6), .val (.int x7), .val (.int x8), .val (.int x9), .unset, .unset] [(.ref b5)])) _
        refine XS.astore X5.here hx rfl (hb hby at_38) rfl rfl (l' := #[.val (.int p1), .val (.int p2), .val (.int p3), .val (.int p4), .val (.int p5), .val (.int (1 : Int32)), .val (.int x6), .val (.int x7), .val (.int x8), .val (.int x9), .val (.ref b5), .unset]) rfl ?_
        show Steps p.tables e below (T5.setTop (mkF m 40 #[.val (.int p1), .val (.int p2), .val (.int p3), .val (.int p4), .val (.int p5), .val (.int (1 : Int32)), .val (.int x6), .val (.int x7), .val (.int x8), .val (.int x9), .val (.ref b5), .unset] [])) _
        refine XS.iload X5.here hx rfl (hb hby at_40) rfl ?_
        show Steps p.tables e below (T5.setTop (mkF m 42 #[.val (.int p1), .val (.int p2), .val (.int p3), .val (.int p4), .val (.int p5), .val (.int (1 : Int32)), .val (.int x6), .val (.int x7), .val (.int x8), .val (.int x9), .val (.ref b5), .unset] [(.int (1 : Int32))])) _
        refine XS.ifNo X5.here hx rfl (hb hby at_42) rfl ((if0 _ _).trans (tlt (by decide : ((0 : Int32) < (1 : Int32)))).2.2.2) ?_
        show Steps p.tables e below (T5.setTop (mkF m 45 #[.val (.int p1), .val (.int p2), .val (.int p3), .val (.int p4), .val (.int p5), .val (.int (1 : Int32)), .val (.int x6), .val (.int x7), .val (.int x8), .val (.int x9), .val (.ref b5), .unset] [])) _
        refine XS.aload X5.here hx rfl (hb hby at_45) rfl rfl ?_
        show Steps p.tables e below (T5.setTop (mkF m 47 #[.val (.int p1), .val (.int p2), .val (.int p3), .val (.int p4), .val (.int p5), .val (.int (1 : Int32)), .val (.int x6), .val (.int x7), .val (.int x8), .val (.int x9), .val (.ref b5), .unset] [(.ref b5)])) _
        refine XS.iconst X5.here hx rfl (hb hby at_47) ?_
        show Steps p.tables e below (T5.setTop (mkF m 48 #[.val (.int p1), .val (.int p2), .val (.int p3), .val (.int p4), .val (.int p5), .val (.int (1 : Int32)), .val (.int x6), .val (.int x7), .val (.int x8), .val (.int x9), .val (.ref b5), .unset] [(.int (0 : Int32)), (.ref b5)])) _
        refine XS.iconst X5.here hx rfl (hb hby at_48) ?_
        show Steps p.tables e below (T5.setTop (mkF m 49 #[.val (.int p1), .val (.int p2), .val (.int p3), .val (.int p4), .val (.int p5), .val (.int (1 : Int32)), .val (.int x6), .val (.int x7), .val (.int x8), .val (.int x9), .val (.ref b5), .unset] [(.int (0 : Int32)), (.int (0 : Int32)), (.ref b5)])) _
        refine st8 _ ?_
        show Steps p.tables e below (T8.setTop (mkF m 50 #[.val (.int p1), .val (.int p2), .val (.int p3), .val (.int p4), .val (.int p5), .val (.int (1 : Int32)), .val (.int x6), .val (.int x7), .val (.int x8), .val (.int x9), .val (.ref b5), .unset] [])) _
        refine XS.iload X8.here hx rfl (hb hby at_50) rfl ?_
        show Steps p.tables e below (T8.setTop (mkF m 52 #[.val (.int p1), .val (.int p2), .val (.int p3), .val (.int p4), .val (.int p5), .val (.int (1 : Int32)), .val (.int x6), .val (.int x7), .val (.int x8), .val (.int x9), .val (.ref b5), .unset] [(.int (1 : Int32))])) _
        refine XS.iconst X8.here hx rfl (hb hby at_52) ?_
        show Steps p.tables e below (T8.setTop (mkF m 53 #[.val (.int p1), .val (.int p2), .val (.int p3), .val (.int p4), .val (.int p5), .val (.int (1 : Int32)), .val (.int x6), .val (.int x7), .val (.int x8), .val (.int x9), .val (.ref b5), .unset] [(.int (1 : Int32)), (.int (1 : Int32))])) _
        refine XS.icmpYes X8.here hx rfl (pc0 := 53) (pc' := 62) rfl (hb hby at_53) rfl (flt (by decide : ¬ ((1 : Int32) < (1 : Int32)))).2.2.2 (by decide) (by decide) ?_
        show Steps p.tables e below (T8.setTop (mkF m 62 #[.val (.int p1), .val (.int p2), .val (.int p3), .val (.int p4), .val (.int p5), .val (.int (1 : Int32)), .val (.int x6), .val (.int x7), .val (.int x8), .val (.int x9), .val (.ref b5), .unset] [])) _
        refine XS.iload X8.here hx rfl (hb hby at_62) rfl ?_
        show Steps p.tables e below (T8.setTop (mkF m 64 #[.val (.int p1), .val (.int p2), .val (.int p3), .val (.int p4), .val (.int p5), .val (.int (1 : Int32)), .val (.int x6), .val (.int x7), .val (.int x8), .val (.int x9), .val (.ref b5), .unset] [(.int (1 : Int32))])) _
        refine XS.iconst X8.here hx rfl (hb hby at_64) ?_
        show Steps p.tables e below (T8.setTop (mkF m 65 #[.val (.int p1), .val (.int p2), .val (.int p3), .val (.int p4), .val (.int p5), .val (.int (1 : Int32)), .val (.int x6), .val (.int x7), .val (.int x8), .val (.int x9), .val (.ref b5), .unset] [(.int (2 : Int32)), (.int (1 : Int32))])) _
        refine XS.icmpYes X8.here hx rfl (pc0 := 65) (pc' := 77) rfl (hb hby at_65) rfl (flt (by decide : ¬ ((2 : Int32) < (1 : Int32)))).2.2.2 (by decide) (by decide) ?_
        show Steps p.tables e below (T8.setTop (mkF m 77 #[.val (.int p1), .val (.int p2), .val (.int p3), .val (.int p4), .val (.int p5), .val (.int (1 : Int32)), .val (.int x6), .val (.int x7), .val (.int x8), .val (.int x9), .val (.ref b5), .unset] [])) _
        refine XS.iload X8.here hx rfl (hb hby at_77) rfl ?_
        show Steps p.tables e below (T8.setTop (mkF m 79 #[.val (.int p1), .val (.int p2), .val (.int p3), .val (.int p4), .val (.int p5), .val (.int (1 : Int32)), .val (.int x6), .val (.int x7), .val (.int x8), .val (.int x9), .val (.ref b5), .unset] [(.int (1 : Int32))])) _
        refine XS.iconst X8.here hx rfl (hb hby at_79) ?_
        show Steps p.tables e below (T8.setTop (mkF m 80 #[.val (.int p1), .val (.int p2), .val (.int p3), .val (.int p4), .val (.int p5), .val (.int (1 : Int32)), .val (.int x6), .val (.int x7), .val (.int x8), .val (.int x9), .val (.ref b5), .unset] [(.int (3 : Int32)), (.int (1 : Int32))])) _
        refine XS.icmpYes X8.here hx rfl (pc0 := 80) (pc' := 95) rfl (hb hby at_80) rfl (flt (by decide : ¬ ((3 : Int32) < (1 : Int32)))).2.2.2 (by decide) (by decide) ?_
        show Steps p.tables e below (T8.setTop (mkF m 95 #[.val (.int p1), .val (.int p2), .val (.int p3), .val (.int p4), .val (.int p5), .val (.int (1 : Int32)), .val (.int x6), .val (.int x7), .val (.int x8), .val (.int x9), .val (.ref b5), .unset] [])) _
        refine XS.iload X8.here hx rfl (hb hby at_95) rfl ?_
        show Steps p.tables e below (T8.setTop (mkF m 97 #[.val (.int p1), .val (.int p2), .val (.int p3), .val (.int p4), .val (.int p5), .val (.int (1 : Int32)), .val (.int x6), .val (.int x7), .val (.int x8), .val (.int x9), .val (.ref b5), .unset] [(.int (1 : Int32))])) _
        refine XS.iconst X8.here hx rfl (hb hby at_97) ?_
        show Steps p.tables e below (T8.setTop (mkF m 98 #[.val (.int p1), .val (.int p2), .val (.int p3), .val (.int p4), .val (.int p5), .val (.int (1 : Int32)), .val (.int x6), .val (.int x7), .val (.int x8), .val (.int x9), .val (.ref b5), .unset] [(.int (4 : Int32)), (.int (1 : Int32))])) _
        refine XS.icmpYes X8.here hx rfl (pc0 := 98) (pc' := 116) rfl (hb hby at_98) rfl (flt (by decide : ¬ ((4 : Int32) < (1 : Int32)))).2.2.2 (by decide) (by decide) ?_
        show Steps p.tables e below (T8.setTop (mkF m 116 #[.val (.int p1), .val (.int p2), .val (.int p3), .val (.int p4), .val (.int p5), .val (.int (1 : Int32)), .val (.int x6), .val (.int x7), .val (.int x8), .val (.int x9), .val (.ref b5), .unset] [])) _
        refine XS.iconst X8.here hx rfl (hb hby at_116) ?_
        show Steps p.tables e below (T8.setTop (mkF m 117 #[.val (.int p1), .val (.int p2), .val (.int p3), .val (.int p4), .val (.int p5), .val (.int (1 : Int32)), .val (.int x6), .val (.int x7), .val (.int x8), .val (.int x9), .val (.ref b5), .unset] [(.int (0 : Int32))])) _
        refine XS.istore X8.here hx rfl (hb hby at_117) rfl (l' := #[.val (.int p1), .val (.int p2), .val (.int p3), .val (.int p4), .val (.int p5), .val (.int (1 : Int32)), .val (.int x6), .val (.int x7), .val (.int x8), .val (.int x9), .val (.ref b5), .val (.int (0 : Int32))]) rfl ?_
        show Steps p.tables e below (T8.setTop (mkF m 119 #[.val (.int p1), .val (.int p2), .val (.int p3), .val (.int p4), .val (.int p5), .val (.int (1 : Int32)), .val (.int x6), .val (.int x7), .val (.int x8), .val (.int x9), .val (.ref b5), .val (.int (0 : Int32))] [])) _
        refine XS.iload X8.here hx rfl (hb hby at_119) rfl ?_
        show Steps p.tables e below (T8.setTop (mkF m 121 #[.val (.int p1), .val (.int p2), .val (.int p3), .val (.int p4), .val (.int p5), .val (.int (1 : Int32)), .val (.int x6), .val (.int x7), .val (.int x8), .val (.int x9), .val (.ref b5), .val (.int (0 : Int32))] [(.int (1 : Int32))])) _
        refine XS.iconst X8.here hx rfl (hb hby at_121) ?_
        show Steps p.tables e below (T8.setTop (mkF m 122 #[.val (.int p1), .val (.int p2), .val (.int p3), .val (.int p4), .val (.int p5), .val (.int (1 : Int32)), .val (.int x6), .val (.int x7), .val (.int x8), .val (.int x9), .val (.ref b5), .val (.int (0 : Int32))] [(.int (1 : Int32)), (.int (1 : Int32))])) _
        refine XS.icmpYes X8.here hx rfl (pc0 := 122) (pc' := 129) rfl (hb hby at_122) rfl (flt (by decide : ¬ ((1 : Int32) < (1 : Int32)))).2.2.2 (by decide) (by decide) ?_
        show Steps p.tables e below (T8.setTop (mkF m 129 #[.val (.int p1), .val (.int p2), .val (.int p3), .val (.int p4), .val (.int p5), .val (.int (1 : Int32)), .val (.int x6), .val (.int x7), .val (.int x8), .val (.int x9), .val (.ref b5), .val (.int (0 : Int32))] [])) _
        refine XS.iload X8.here hx rfl (hb hby at_129) rfl ?_
        show Steps p.tables e below (T8.setTop (mkF m 131 #[.val (.int p1), .val (.int p2), .val (.int p3), .val (.int p4), .val (.int p5), .val (.int (1 : Int32)), .val (.int x6), .val (.int x7), .val (.int x8), .val (.int x9), .val (.ref b5), .val (.int (0 : Int32))] [(.int (1 : Int32))])) _
        refine XS.iconst X8.here hx rfl (hb hby at_131) ?_
        show Steps p.tables e below (T8.setTop (mkF m 132 #[.val (.int p1), .val (.int p2), .val (.int p3), .val (.int p4), .val (.int p5), .val (.int (1 : Int32)), .val (.int x6), .val (.int x7), .val (.int x8), .val (.int x9), .val (.ref b5), .val (.int (0 : Int32))] [(.int (2 : Int32)), (.int (1 : Int32))])) _
        refine XS.icmpYes X8.here hx rfl (pc0 := 132) (pc' := 144) rfl (hb hby at_132) rfl (flt (by decide : ¬ ((2 : Int32) < (1 : Int32)))).2.2.2 (by decide) (by decide) ?_
        show Steps p.tables e below (T8.setTop (mkF m 144 #[.val (.int p1), .val (.int p2), .val (.int p3), .val (.int p4), .val (.int p5), .val (.int (1 : Int32)), .val (.int x6), .val (.int x7), .val (.int x8), .val (.int x9), .val (.ref b5), .val (.int (0 : Int32))] [])) _
        refine XS.iload X8.here hx rfl (hb hby at_144) rfl ?_
        show Steps p.tables e below (T8.setTop (mkF m 146 #[.val (.int p1), .val (.int p2), .val (.int p3), .val (.int p4), .val (.int p5), .val (.int (1 : Int32)), .val (.int x6), .val (.int x7), .val (.int x8), .val (.int x9), .val (.ref b5), .val (.int (0 : Int32))] [(.int (1 : Int32))])) _
        refine XS.iconst X8.here hx rfl (hb hby at_146) ?_
        show Steps p.tables e below (T8.setTop (mkF m 147 #[.val (.int p1), .val (.int p2), .val (.int p3), .val (.int p4), .val (.int p5), .val (.int (1 : Int32)), .val (.int x6), .val (.int x7), .val (.int x8), .val (.int x9), .val (.ref b5), .val (.int (0 : Int32))] [(.int (3 : Int32)), (.int (1 : Int32))])) _
        refine XS.icmpYes X8.here hx rfl (pc0 := 147) (pc' := 159) rfl (hb hby at_147) rfl (flt (by decide : ¬ ((3 : Int32) < (1 : Int32)))).2.2.2 (by decide) (by decide) ?_
        show Steps p.tables e below (T8.setTop (mkF m 159 #[.val (.int p1), .val (.int p2), .val (.int p3), .val (.int p4), .val (.int p5), .val (.int (1 : Int32)), .val (.int x6), .val (.int x7), .val (.int x8), .val (.int x9), .val (.ref b5), .val (.int (0 : Int32))] [])) _
        refine XS.iload X8.here hx rfl (hb hby at_159) rfl ?_
        show Steps p.tables e below (T8.setTop (mkF m 161 #[.val (.int p1), .val (.int p2), .val (.int p3), .val (.int p4), .val (.int p5), .val (.int (1 : Int32)), .val (.int x6), .val (.int x7), .val (.int x8), .val (.int x9), .val (.ref b5), .val (.int (0 : Int32))] [(.int (1 : Int32))])) _
        refine XS.iconst X8.here hx rfl (hb hby at_161) ?_
        show Steps p.tables e below (T8.setTop (mkF m 162 #[.val (.int p1), .val (.int p2), .val (.int p3), .val (.int p4), .val (.int p5), .val (.int (1 : Int32)), .val (.int x6), .val (.int x7), .val (.int x8), .val (.int x9), .val (.ref b5), .val (.int (0 : Int32))] [(.int (4 : Int32)), (.int (1 : Int32))])) _
        refine XS.icmpYes X8.here hx rfl (pc0 := 162) (pc' := 174) rfl (hb hby at_162) rfl (flt (by decide : ¬ ((4 : Int32) < (1 : Int32)))).2.2.2 (by decide) (by decide) ?_
        show Steps p.tables e below (T8.setTop (mkF m 174 #[.val (.int p1), .val (.int p2), .val (.int p3), .val (.int p4), .val (.int p5), .val (.int (1 : Int32)), .val (.int x6), .val (.int x7), .val (.int x8), .val (.int x9), .val (.ref b5), .val (.int (0 : Int32))] [])) _
        refine XS.aload X8.here hx rfl (hb hby at_174) rfl rfl ?_
        show Steps p.tables e below (T8.setTop (mkF m 176 #[.val (.int p1), .val (.int p2), .val (.int p3), .val (.int p4), .val (.int p5), .val (.int (1 : Int32)), .val (.int x6), .val (.int x7), .val (.int x8), .val (.int x9), .val (.ref b5), .val (.int (0 : Int32))] [(.ref b5)])) _
        refine st10 _ ?_
        show Steps p.tables e below (T10.setTop (mkF m 179 #[.val (.int p1), .val (.int p2), .val (.int p3), .val (.int p4), .val (.int p5), .val (.int (1 : Int32)), .val (.int x6), .val (.int x7), .val (.int x8), .val (.int x9), .val (.ref b5), .val (.int (0 : Int32))] [(.int (lon1 (0 : Int32)))])) _
        refine XS.iload X10.here hx rfl (hb hby at_179) rfl ?_
        exact kt
      have hd11 : (lon1 (0 : Int32)) = (0 : Int32) := rfl
      refine Go.step (T' := T10) (f' := (mkF m 189 #[.val (.int p1), .val (.int p2), .val (.int p3), .val (.int p4), .val (.int p5), .val (.int (1 : Int32)), .val (.int x6), .val (.int x7), .val (.int x8), .val (.int x9), .val (.ref b5), .val (.int (0 : Int32))] [(.int (1 : Int32))])) (fun t kt => ?_) ?_
      · show Steps p.tables e below (T10.setTop (mkF m 181 #[.val (.int p1), .val (.int p2), .val (.int p3), .val (.int p4), .val (.int p5), .val (.int (1 : Int32)), .val (.int x6), .val (.int x7), .val (.int x8), .val (.int x9), .val (.ref b5), .val (.int (0 : Int32))] [(.int (0 : Int32)), (.int (lon1 (0 : Int32)))])) _
        refine XS.icmpNo X10.here hx rfl (hb hby at_181) rfl (teq hd11).2 ?_
        show Steps p.tables e below (T10.setTop (mkF m 184 #[.val (.int p1), .val (.int p2), .val (.int p3), .val (.int p4), .val (.int p5), .val (.int (1 : Int32)), .val (.int x6), .val (.int x7), .val (.int x8), .val (.int x9), .val (.ref b5), .val (.int (0 : Int32))] [])) _
        refine XS.iconst X10.here hx rfl (hb hby at_184) ?_
        show Steps p.tables e below (T10.setTop (mkF m 185 #[.val (.int p1), .val (.int p2), .val (.int p3), .val (.int p4), .val (.int p5), .val (.int (1 : Int32)), .val (.int x6), .val (.int x7), .val (.int x8), .val (.int x9), .val (.ref b5), .val (.int (0 : Int32))] [(.int (1 : Int32))])) _
        refine XS.goto X10.here hx rfl (pc0 := 185) (pc' := 189) rfl (hb hby at_185) (by decide) (by decide) ?_
        exact kt
      refine Go.fin X10 (v := some (.int (1 : Int32))) (fun h => by rw [Bd.returns] at h; cases h) Bd.notSynchronized ?_ (Nat.le_trans (Nat.add_le_add_right (Nat.add_le_add_right hcl 1) 0) (by decide)) (Nat.le_trans (Nat.add_le_add_right (Nat.add_le_add_right hsl 1) 0) (by decide)) (fun fs hr => retN X10 hx (t := .boolean) Bd.returns (by simp) (hb hby at_189) hr)
      · show Q0 Z p1 p2 p3 p4 p5 h0 n0 _ T10.heap _
        exact ⟨rfl, N10⟩
    · subst hs
      obtain ⟨T12, h12, X12, e12, E12, A12, st12⟩ := newI X hx hZ (hw _ (List.mem_of_getElem? (i := 2) rfl)) eT (g := (mkF m 36 #[.val (.int p1), .val (.int p2), .val (.int p3), .val (.int p4), .val (.int p5), .val (.int (2 : Int32)), .val (.int x6), .val (.int x7), .val (.int x8), .val (.int x9), .unset, .unset] [(.int (2 : Int32))])) rfl (hb hby at_36) rfl (by decide) (cap := 2) (by decide) (by decide) (Nat.le_trans (Nat.add_le_add_right hcl 1) (by decide)) (Nat.le_trans (Nat.add_le_add_right hsl 2) (by decide))
      obtain ⟨b12, g12⟩ : ∃ z, z = h.size := ⟨_, rfl⟩
      rw [← g12] at A12 st12
      have g_b12 : n0 ≤ b12 := Nat.le_trans Zh (Nat.le_of_eq g12.symm)
      have sz_b12 : h0.size ≤ b12 := Nat.le_trans K.1 (Nat.le_of_eq g12.symm)
      have K12 : Keep h0 h12 [] := Keep.ext K E12
      have Z12 : n0 ≤ h12.size := Nat.le_trans Z0 K12.1
      have G13 : VA Z h12 b12 .int ([(0 : Int32), (0 : Int32)].map Value.int) := A12
      have ix14 : 0 ≤ ((0 : Int32)).toInt ∧ ((0 : Int32)).toInt < (([(0 : Int32), (0 : Int32)]).length : Int) := by constructor <;> first | decide | (simp; done)
      obtain ⟨T15, h15, X15, e15, W15, V15, st15⟩ := putI X12 hx hZ e12 G13 ix14.1 ix14.2 (g := (mkF m 49 #[.val (.int p1), .val (.int p2), .val (.int p3), .val (.int p4), .val (.int p5), .val (.int (2 : Int32)), .val (.int x6), .val (.int x7), .val (.int x8), .val (.int x9), .val (.ref b12), .unset] [(.int (0 : Int32)), (.int (0 : Int32)), (.ref b12)])) rfl rfl (hb hby at_49)
      have G16 : VA Z h15 b12 .int ([(0 : Int32), (0 : Int32)].map Value.int) := V15
      have N15 := Fr.snoc X15 N g_b12
      have K15 : Keep h0 h15 [] := Keep.wr K12 W15 (Or.inr sz_b12)
      have Z15 : n0 ≤ h15.size := Nat.le_trans Z0 K15.1
      have ix17 : 0 ≤ ((1 : Int32)).toInt ∧ ((1 : Int32)).toInt < (([(0 : Int32), (0 : Int32)]).length : Int) := by constructor <;> first | decide | (simp; done)
      obtain ⟨T18, h18, X18, e18, W18, V18, st18⟩ := putI X15 hx hZ e15 G16 ix17.1 ix17.2 (g := (mkF m 61 #[.val (.int p1), .val (.int p2), .val (.int p3), .val (.int p4), .val (.int p5), .val (.int (2 : Int32)), .val (.int x6), .val (.int x7), .val (.int x8), .val (.int x9), .val (.ref b12), .unset] [(.int x6), (.int (1 : Int32)), (.ref b12)])) rfl rfl (hb hby at_61)
      have G19 : VA Z h18 b12 .int ([(0 : Int32), x6].map Value.int) := V18
      have N18 := Fr.snoc X18 N15 g_b12
      have K18 : Keep h0 h18 [] := Keep.wr K15 W18 (Or.inr sz_b12)
      have Z18 : n0 ≤ h18.size := Nat.le_trans Z0 K18.1
      obtain ⟨_, _, ⟨T20, L20, k20, n20⟩, -, X20, ⟨Lc20, hQ20, l20, y20, z20⟩, st20⟩ := Jvm.LawKit.callS X18 hx (y := (⟨"com/example/laneweave/laneweave/Overlap", "longest", "([I)I"⟩ : MethodName)) hown (mvT hZ (hw _ (List.mem_of_getElem? (i := 3) rfl))) (mvT hZ (hw _ (List.mem_of_getElem? (i := 4) rfl))) (mvT hZ (hw _ (List.mem_of_getElem? (i := 5) rfl))) (mvT hZ (hw _ (List.mem_of_getElem? (i := 6) rfl))) (by decide) (backOf (W := 0) (rm_lon2 l Z a0 hw [] b12 (0 : Int32) x6 h18 n0 Z18 G19 ) hZ (hw _ (List.mem_of_getElem? (i := 6) rfl)) (hw _ (List.mem_of_getElem? (i := 5) rfl)) (by decide) (by decide)) (g := (mkF m 176 #[.val (.int p1), .val (.int p2), .val (.int p3), .val (.int p4), .val (.int p5), .val (.int (2 : Int32)), .val (.int x6), .val (.int x7), .val (.int x8), .val (.int x9), .val (.ref b12), .val (.int x6)] [(.ref b12)])) rfl (by rw [hml]; rfl) (argsL := [(.ref b12)]) (rest := []) (lenOf pd_1 rfl) rfl (by show 2 * 0 + _ ≤ _; exact Nat.le_of_eq rfl) (hb hby at_176) (fun _ _ => ⟨rfl, e18, (Nat.le_trans (Nat.add_le_add_right (Nat.add_le_add_right hcl 1) 0) (by decide)), (Nat.le_trans (Nat.add_le_add_right (Nat.add_le_add_right hsl 2) 0) (by decide))⟩)
      dsimp only [Pt.U, Pt.locs, Pt.cells, Pt.slots] at X20 l20 y20 z20 st20 hQ20
      subst l20 y20 z20
      obtain ⟨rfl, N20q, e20⟩ := hQ20
      have N20 := Fr.app N18 N20q
      refine Go.step (T' := T20) (f' := (mkF m 181 #[.val (.int p1), .val (.int p2), .val (.int p3), .val (.int p4), .val (.int p5), .val (.int (2 : Int32)), .val (.int x6), .val (.int x7), .val (.int x8), .val (.int x9), .val (.ref b12), .val (.int x6)] [(.int x6), (.int (lon2 (0 : Int32) x6))])) (fun t kt => ?_) ?_
      · show Steps p.tables e below (T.setTop (mkF m 34 #[.val (.int p1), .val (.int p2), .val (.int p3), .val (.int p4), .val (.int p5), .val (.int (2 : Int32)), .val (.int x6), .val (.int x7), .val (.int x8), .val (.int x9), .unset, .unset] [])) _
        refine XS.iload X.here hx rfl (hb hby at_34) rfl ?_
        show Steps p.tables e below (T.setTop (mkF m 36 #[.val (.int p1), .val (.int p2), .val (.int p3), .val (.int p4), .val (.int p5), .val (.int (2 : Int32)), .val (.int x6), .val (.int x7), .val (.int x8), .val (.int x9), .unset, .unset] [(.int (2 : Int32))])) _
        refine st12 _ ?_
        show Steps p.tables e below (T12.setTop (mkF m 38 #[.val (.int p1), .val (.int p2), .val (.int p3), .val (.int p4), .val (.int p5), .val (.int (2 : Int32)), .val (.int x6), .val (.int x7), .val (.int x8), .val (.int x9), .unset, .unset] [(.ref b12)])) _
        refine XS.astore X12.here hx rfl (hb hby at_38) rfl rfl (l' := #[.val (.int p1), .val (.int p2), .val (.int p3), .val (.int p4), .val (.int p5), .val (.int (2 : Int32)), .val (.int x6), .val (.int x7), .val (.int x8), .val (.int x9), .val (.ref b12), .unset]) rfl ?_
        show Steps p.tables e below (T12.setTop (mkF m 40 #[.val (.int p1), .val (.int p2), .val (.int p3), .val (.int p4), .val (.int p5), .val (.int (2 : Int32)), .val (.int x6), .val (.int x7), .val (.int x8), .val (.int x9), .val (.ref b12), .unset] [])) _
        refine XS.iload X12.here hx rfl (hb hby at_40) rfl ?_
        show Steps p.tables e below (T12.setTop (mkF m 42 #[.val (.int p1), .val (.int p2), .val (.int p3), .val (.int p4), .val (.int p5), .val (.int (2 : Int32)), .val (.int x6), .val (.int x7), .val (.int x8), .val (.int x9), .val (.ref b12), .unset] [(.int (2 : Int32))])) _
        refine XS.ifNo X12.here hx rfl (hb hby at_42) rfl ((if0 _ _).trans (tlt (by decide : ((0 : Int32) < (2 : Int32)))).2.2.2) ?_
        show Steps p.tables e below (T12.setTop (mkF m 45 #[.val (.int p1), .val (.int p2), .val (.int p3), .val (.int p4), .val (.int p5), .val (.int (2 : Int32)), .val (.int x6), .val (.int x7), .val (.int x8), .val (.int x9), .val (.ref b12), .unset] [])) _
        refine XS.aload X12.here hx rfl (hb hby at_45) rfl rfl ?_
        show Steps p.tables e below (T12.setTop (mkF m 47 #[.val (.int p1), .val (.int p2), .val (.int p3), .val (.int p4), .val (.int p5), .val (.int (2 : Int32)), .val (.int x6), .val (.int x7), .val (.int x8), .val (.int x9), .val (.ref b12), .unset] [(.ref b12)])) _
        refine XS.iconst X12.here hx rfl (hb hby at_47) ?_
        show Steps p.tables e below (T12.setTop (mkF m 48 #[.val (.int p1), .val (.int p2), .val (.int p3), .val (.int p4), .val (.int p5), .val (.int (2 : Int32)), .val (.int x6), .val (.int x7), .val (.int x8), .val (.int x9), .val (.ref b12), .unset] [(.int (0 : Int32)), (.ref b12)])) _
        refine XS.iconst X12.here hx rfl (hb hby at_48) ?_
        show Steps p.tables e below (T12.setTop (mkF m 49 #[.val (.int p1), .val (.int p2), .val (.int p3), .val (.int p4), .val (.int p5), .val (.int (2 : Int32)), .val (.int x6), .val (.int x7), .val (.int x8), .val (.int x9), .val (.ref b12), .unset] [(.int (0 : Int32)), (.int (0 : Int32)), (.ref b12)])) _
        refine st15 _ ?_
        show Steps p.tables e below (T15.setTop (mkF m 50 #[.val (.int p1), .val (.int p2), .val (.int p3), .val (.int p4), .val (.int p5), .val (.int (2 : Int32)), .val (.int x6), .val (.int x7), .val (.int x8), .val (.int x9), .val (.ref b12), .unset] [])) _
        refine XS.iload X15.here hx rfl (hb hby at_50) rfl ?_
        show Steps p.tables e below (T15.setTop (mkF m 52 #[.val (.int p1), .val (.int p2), .val (.int p3), .val (.int p4), .val (.int p5), .val (.int (2 : Int32)), .val (.int x6), .val (.int x7), .val (.int x8), .val (.int x9), .val (.ref b12), .unset] [(.int (2 : Int32))])) _
        refine XS.iconst X15.here hx rfl (hb hby at_52) ?_
        show Steps p.tables e below (T15.setTop (mkF m 53 #[.val (.int p1), .val (.int p2), .val (.int p3), .val (.int p4), .val (.int p5), .val (.int (2 : Int32)), .val (.int x6), .val (.int x7), .val (.int x8), .val (.int x9), .val (.ref b12), .unset] [(.int (1 : Int32)), (.int (2 : Int32))])) _
        refine XS.icmpNo X15.here hx rfl (hb hby at_53) rfl (tlt (by decide : ((1 : Int32) < (2 : Int32)))).2.2.2 ?_
        show Steps p.tables e below (T15.setTop (mkF m 56 #[.val (.int p1), .val (.int p2), .val (.int p3), .val (.int p4), .val (.int p5), .val (.int (2 : Int32)), .val (.int x6), .val (.int x7), .val (.int x8), .val (.int x9), .val (.ref b12), .unset] [])) _
        refine XS.aload X15.here hx rfl (hb hby at_56) rfl rfl ?_
        show Steps p.tables e below (T15.setTop (mkF m 58 #[.val (.int p1), .val (.int p2), .val (.int p3), .val (.int p4), .val (.int p5), .val (.int (2 : Int32)), .val (.int x6), .val (.int x7), .val (.int x8), .val (.int x9), .val (.ref b12), .unset] [(.ref b12)])) _
        refine XS.iconst X15.here hx rfl (hb hby at_58) ?_
        show Steps p.tables e below (T15.setTop (mkF m 59 #[.val (.int p1), .val (.int p2), .val (.int p3), .val (.int p4), .val (.int p5), .val (.int (2 : Int32)), .val (.int x6), .val (.int x7), .val (.int x8), .val (.int x9), .val (.ref b12), .unset] [(.int (1 : Int32)), (.ref b12)])) _
        refine XS.iload X15.here hx rfl (hb hby at_59) rfl ?_
        show Steps p.tables e below (T15.setTop (mkF m 61 #[.val (.int p1), .val (.int p2), .val (.int p3), .val (.int p4), .val (.int p5), .val (.int (2 : Int32)), .val (.int x6), .val (.int x7), .val (.int x8), .val (.int x9), .val (.ref b12), .unset] [(.int x6), (.int (1 : Int32)), (.ref b12)])) _
        refine st18 _ ?_
        show Steps p.tables e below (T18.setTop (mkF m 62 #[.val (.int p1), .val (.int p2), .val (.int p3), .val (.int p4), .val (.int p5), .val (.int (2 : Int32)), .val (.int x6), .val (.int x7), .val (.int x8), .val (.int x9), .val (.ref b12), .unset] [])) _
        refine XS.iload X18.here hx rfl (hb hby at_62) rfl ?_
        show Steps p.tables e below (T18.setTop (mkF m 64 #[.val (.int p1), .val (.int p2), .val (.int p3), .val (.int p4), .val (.int p5), .val (.int (2 : Int32)), .val (.int x6), .val (.int x7), .val (.int x8), .val (.int x9), .val (.ref b12), .unset] [(.int (2 : Int32))])) _
        refine XS.iconst X18.here hx rfl (hb hby at_64) ?_
        show Steps p.tables e below (T18.setTop (mkF m 65 #[.val (.int p1), .val (.int p2), .val (.int p3), .val (.int p4), .val (.int p5), .val (.int (2 : Int32)), .val (.int x6), .val (.int x7), .val (.int x8), .val (.int x9), .val (.ref b12), .unset] [(.int (2 : Int32)), (.int (2 : Int32))])) _
        refine XS.icmpYes X18.here hx rfl (pc0 := 65) (pc' := 77) rfl (hb hby at_65) rfl (flt (by decide : ¬ ((2 : Int32) < (2 : Int32)))).2.2.2 (by decide) (by decide) ?_
        show Steps p.tables e below (T18.setTop (mkF m 77 #[.val (.int p1), .val (.int p2), .val (.int p3), .val (.int p4), .val (.int p5), .val (.int (2 : Int32)), .val (.int x6), .val (.int x7), .val (.int x8), .val (.int x9), .val (.ref b12), .unset] [])) _
        refine XS.iload X18.here hx rfl (hb hby at_77) rfl ?_
        show Steps p.tables e below (T18.setTop (mkF m 79 #[.val (.int p1), .val (.int p2), .val (.int p3), .val (.int p4), .val (.int p5), .val (.int (2 : Int32)), .val (.int x6), .val (.int x7), .val (.int x8), .val (.int x9), .val (.ref b12), .unset] [(.int (2 : Int32))])) _
        refine XS.iconst X18.here hx rfl (hb hby at_79) ?_
        show Steps p.tables e below (T18.setTop (mkF m 80 #[.val (.int p1), .val (.int p2), .val (.int p3), .val (.int p4), .val (.int p5), .val (.int (2 : Int32)), .val (.int x6), .val (.int x7), .val (.int x8), .val (.int x9), .val (.ref b12), .unset] [(.int (3 : Int32)), (.int (2 : Int32))])) _
        refine XS.icmpYes X18.here hx rfl (pc0 := 80) (pc' := 95) rfl (hb hby at_80) rfl (flt (by decide : ¬ ((3 : Int32) < (2 : Int32)))).2.2.2 (by decide) (by decide) ?_
        show Steps p.tables e below (T18.setTop (mkF m 95 #[.val (.int p1), .val (.int p2), .val (.int p3), .val (.int p4), .val (.int p5), .val (.int (2 : Int32)), .val (.int x6), .val (.int x7), .val (.int x8), .val (.int x9), .val (.ref b12), .unset] [])) _
        refine XS.iload X18.here hx rfl (hb hby at_95) rfl ?_
        show Steps p.tables e below (T18.setTop (mkF m 97 #[.val (.int p1), .val (.int p2), .val (.int p3), .val (.int p4), .val (.int p5), .val (.int (2 : Int32)), .val (.int x6), .val (.int x7), .val (.int x8), .val (.int x9), .val (.ref b12), .unset] [(.int (2 : Int32))])) _
        refine XS.iconst X18.here hx rfl (hb hby at_97) ?_
        show Steps p.tables e below (T18.setTop (mkF m 98 #[.val (.int p1), .val (.int p2), .val (.int p3), .val (.int p4), .val (.int p5), .val (.int (2 : Int32)), .val (.int x6), .val (.int x7), .val (.int x8), .val (.int x9), .val (.ref b12), .unset] [(.int (4 : Int32)), (.int (2 : Int32))])) _
        refine XS.icmpYes X18.here hx rfl (pc0 := 98) (pc' := 116) rfl (hb hby at_98) rfl (flt (by decide : ¬ ((4 : Int32) < (2 : Int32)))).2.2.2 (by decide) (by decide) ?_
        show Steps p.tables e below (T18.setTop (mkF m 116 #[.val (.int p1), .val (.int p2), .val (.int p3), .val (.int p4), .val (.int p5), .val (.int (2 : Int32)), .val (.int x6), .val (.int x7), .val (.int x8), .val (.int x9), .val (.ref b12), .unset] [])) _
        refine XS.iconst X18.here hx rfl (hb hby at_116) ?_
        show Steps p.tables e below (T18.setTop (mkF m 117 #[.val (.int p1), .val (.int p2), .val (.int p3), .val (.int p4), .val (.int p5), .val (.int (2 : Int32)), .val (.int x6), .val (.int x7), .val (.int x8), .val (.int x9), .val (.ref b12), .unset] [(.int (0 : Int32))])) _
        refine XS.istore X18.here hx rfl (hb hby at_117) rfl (l' := #[.val (.int p1), .val (.int p2), .val (.int p3), .val (.int p4), .val (.int p5), .val (.int (2 : Int32)), .val (.int x6), .val (.int x7), .val (.int x8), .val (.int x9), .val (.ref b12), .val (.int (0 : Int32))]) rfl ?_
        show Steps p.tables e below (T18.setTop (mkF m 119 #[.val (.int p1), .val (.int p2), .val (.int p3), .val (.int p4), .val (.int p5), .val (.int (2 : Int32)), .val (.int x6), .val (.int x7), .val (.int x8), .val (.int x9), .val (.ref b12), .val (.int (0 : Int32))] [])) _
        refine XS.iload X18.here hx rfl (hb hby at_119) rfl ?_
        show Steps p.tables e below (T18.setTop (mkF m 121 #[.val (.int p1), .val (.int p2), .val (.int p3), .val (.int p4), .val (.int p5), .val (.int (2 : Int32)), .val (.int x6), .val (.int x7), .val (.int x8), .val (.int x9), .val (.ref b12), .val (.int (0 : Int32))] [(.int (2 : Int32))])) _
        refine XS.iconst X18.here hx rfl (hb hby at_121) ?_
        show Steps p.tables e below (T18.setTop (mkF m 122 #[.val (.int p1), .val (.int p2), .val (.int p3), .val (.int p4), .val (.int p5), .val (.int (2 : Int32)), .val (.int x6), .val (.int x7), .val (.int x8), .val (.int x9), .val (.ref b12), .val (.int (0 : Int32))] [(.int (1 : Int32)), (.int (2 : Int32))])) _
        refine XS.icmpNo X18.here hx rfl (hb hby at_122) rfl (tlt (by decide : ((1 : Int32) < (2 : Int32)))).2.2.2 ?_
        show Steps p.tables e below (T18.setTop (mkF m 125 #[.val (.int p1), .val (.int p2), .val (.int p3), .val (.int p4), .val (.int p5), .val (.int (2 : Int32)), .val (.int x6), .val (.int x7), .val (.int x8), .val (.int x9), .val (.ref b12), .val (.int (0 : Int32))] [])) _
        refine XS.iload X18.here hx rfl (hb hby at_125) rfl ?_
        show Steps p.tables e below (T18.setTop (mkF m 127 #[.val (.int p1), .val (.int p2), .val (.int p3), .val (.int p4), .val (.int p5), .val (.int (2 : Int32)), .val (.int x6), .val (.int x7), .val (.int x8), .val (.int x9), .val (.ref b12), .val (.int (0 : Int32))] [(.int x6)])) _
        refine XS.istore X18.here hx rfl (hb hby at_127) rfl (l' := #[.val (.int p1), .val (.int p2), .val (.int p3), .val (.int p4), .val (.int p5), .val (.int (2 : Int32)), .val (.int x6), .val (.int x7), .val (.int x8), .val (.int x9), .val (.ref b12), .val (.int x6)]) rfl ?_
        show Steps p.tables e below (T18.setTop (mkF m 129 #[.val (.int p1), .val (.int p2), .val (.int p3), .val (.int p4), .val (.int p5), .val (.int (2 : Int32)), .val (.int x6), .val (.int x7), .val (.int x8), .val (.int x9), .val (.ref b12), .val (.int x6)] [])) _
        refine XS.iload X18.here hx rfl (hb hby at_129) rfl ?_
        show Steps p.tables e below (T18.setTop (mkF m 131 #[.val (.int p1), .val (.int p2), .val (.int p3), .val (.int p4), .val (.int p5), .val (.int (2 : Int32)), .val (.int x6), .val (.int x7), .val (.int x8), .val (.int x9), .val (.ref b12), .val (.int x6)] [(.int (2 : Int32))])) _
        refine XS.iconst X18.here hx rfl (hb hby at_131) ?_
        show Steps p.tables e below (T18.setTop (mkF m 132 #[.val (.int p1), .val (.int p2), .val (.int p3), .val (.int p4), .val (.int p5), .val (.int (2 : Int32)), .val (.int x6), .val (.int x7), .val (.int x8), .val (.int x9), .val (.ref b12), .val (.int x6)] [(.int (2 : Int32)), (.int (2 : Int32))])) _
        refine XS.icmpYes X18.here hx rfl (pc0 := 132) (pc' := 144) rfl (hb hby at_132) rfl (flt (by decide : ¬ ((2 : Int32) < (2 : Int32)))).2.2.2 (by decide) (by decide) ?_
        show Steps p.tables e below (T18.setTop (mkF m 144 #[.val (.int p1), .val (.int p2), .val (.int p3), .val (.int p4), .val (.int p5), .val (.int (2 : Int32)), .val (.int x6), .val (.int x7), .val (.int x8), .val (.int x9), .val (.ref b12), .val (.int x6)] [])) _
        refine XS.iload X18.here hx rfl (hb hby at_144) rfl ?_
        show Steps p.tables e below (T18.setTop (mkF m 146 #[.val (.int p1), .val (.int p2), .val (.int p3), .val (.int p4), .val (.int p5), .val (.int (2 : Int32)), .val (.int x6), .val (.int x7), .val (.int x8), .val (.int x9), .val (.ref b12), .val (.int x6)] [(.int (2 : Int32))])) _
        refine XS.iconst X18.here hx rfl (hb hby at_146) ?_
        show Steps p.tables e below (T18.setTop (mkF m 147 #[.val (.int p1), .val (.int p2), .val (.int p3), .val (.int p4), .val (.int p5), .val (.int (2 : Int32)), .val (.int x6), .val (.int x7), .val (.int x8), .val (.int x9), .val (.ref b12), .val (.int x6)] [(.int (3 : Int32)), (.int (2 : Int32))])) _
        refine XS.icmpYes X18.here hx rfl (pc0 := 147) (pc' := 159) rfl (hb hby at_147) rfl (flt (by decide : ¬ ((3 : Int32) < (2 : Int32)))).2.2.2 (by decide) (by decide) ?_
        show Steps p.tables e below (T18.setTop (mkF m 159 #[.val (.int p1), .val (.int p2), .val (.int p3), .val (.int p4), .val (.int p5), .val (.int (2 : Int32)), .val (.int x6), .val (.int x7), .val (.int x8), .val (.int x9), .val (.ref b12), .val (.int x6)] [])) _
        refine XS.iload X18.here hx rfl (hb hby at_159) rfl ?_
        show Steps p.tables e below (T18.setTop (mkF m 161 #[.val (.int p1), .val (.int p2), .val (.int p3), .val (.int p4), .val (.int p5), .val (.int (2 : Int32)), .val (.int x6), .val (.int x7), .val (.int x8), .val (.int x9), .val (.ref b12), .val (.int x6)] [(.int (2 : Int32))])) _
        refine XS.iconst X18.here hx rfl (hb hby at_161) ?_
        show Steps p.tables e below (T18.setTop (mkF m 162 #[.val (.int p1), .val (.int p2), .val (.int p3), .val (.int p4), .val (.int p5), .val (.int (2 : Int32)), .val (.int x6), .val (.int x7), .val (.int x8), .val (.int x9), .val (.ref b12), .val (.int x6)] [(.int (4 : Int32)), (.int (2 : Int32))])) _
        refine XS.icmpYes X18.here hx rfl (pc0 := 162) (pc' := 174) rfl (hb hby at_162) rfl (flt (by decide : ¬ ((4 : Int32) < (2 : Int32)))).2.2.2 (by decide) (by decide) ?_
        show Steps p.tables e below (T18.setTop (mkF m 174 #[.val (.int p1), .val (.int p2), .val (.int p3), .val (.int p4), .val (.int p5), .val (.int (2 : Int32)), .val (.int x6), .val (.int x7), .val (.int x8), .val (.int x9), .val (.ref b12), .val (.int x6)] [])) _
        refine XS.aload X18.here hx rfl (hb hby at_174) rfl rfl ?_
        show Steps p.tables e below (T18.setTop (mkF m 176 #[.val (.int p1), .val (.int p2), .val (.int p3), .val (.int p4), .val (.int p5), .val (.int (2 : Int32)), .val (.int x6), .val (.int x7), .val (.int x8), .val (.int x9), .val (.ref b12), .val (.int x6)] [(.ref b12)])) _
        refine st20 _ ?_
        show Steps p.tables e below (T20.setTop (mkF m 179 #[.val (.int p1), .val (.int p2), .val (.int p3), .val (.int p4), .val (.int p5), .val (.int (2 : Int32)), .val (.int x6), .val (.int x7), .val (.int x8), .val (.int x9), .val (.ref b12), .val (.int x6)] [(.int (lon2 (0 : Int32) x6))])) _
        refine XS.iload X20.here hx rfl (hb hby at_179) rfl ?_
        exact kt
      have hd21 : (lon2 (0 : Int32) x6) = x6 := by unfold lon2; rw [own_s0, own_m0 h6]
      refine Go.step (T' := T20) (f' := (mkF m 189 #[.val (.int p1), .val (.int p2), .val (.int p3), .val (.int p4), .val (.int p5), .val (.int (2 : Int32)), .val (.int x6), .val (.int x7), .val (.int x8), .val (.int x9), .val (.ref b12), .val (.int x6)] [(.int (1 : Int32))])) (fun t kt => ?_) ?_
      · show Steps p.tables e below (T20.setTop (mkF m 181 #[.val (.int p1), .val (.int p2), .val (.int p3), .val (.int p4), .val (.int p5), .val (.int (2 : Int32)), .val (.int x6), .val (.int x7), .val (.int x8), .val (.int x9), .val (.ref b12), .val (.int x6)] [(.int x6), (.int (lon2 (0 : Int32) x6))])) _
        refine XS.icmpNo X20.here hx rfl (hb hby at_181) rfl (teq hd21).2 ?_
        show Steps p.tables e below (T20.setTop (mkF m 184 #[.val (.int p1), .val (.int p2), .val (.int p3), .val (.int p4), .val (.int p5), .val (.int (2 : Int32)), .val (.int x6), .val (.int x7), .val (.int x8), .val (.int x9), .val (.ref b12), .val (.int x6)] [])) _
        refine XS.iconst X20.here hx rfl (hb hby at_184) ?_
        show Steps p.tables e below (T20.setTop (mkF m 185 #[.val (.int p1), .val (.int p2), .val (.int p3), .val (.int p4), .val (.int p5), .val (.int (2 : Int32)), .val (.int x6), .val (.int x7), .val (.int x8), .val (.int x9), .val (.ref b12), .val (.int x6)] [(.int (1 : Int32))])) _
        refine XS.goto X20.here hx rfl (pc0 := 185) (pc' := 189) rfl (hb hby at_185) (by decide) (by decide) ?_
        exact kt
      refine Go.fin X20 (v := some (.int (1 : Int32))) (fun h => by rw [Bd.returns] at h; cases h) Bd.notSynchronized ?_ (Nat.le_trans (Nat.add_le_add_right (Nat.add_le_add_right hcl 1) 0) (by decide)) (Nat.le_trans (Nat.add_le_add_right (Nat.add_le_add_right hsl 2) 0) (by decide)) (fun fs hr => retN X20 hx (t := .boolean) Bd.returns (by simp) (hb hby at_189) hr)
      · show Q0 Z p1 p2 p3 p4 p5 h0 n0 _ T20.heap _
        exact ⟨rfl, N20⟩
    · subst hs
      obtain ⟨T22, h22, X22, e22, E22, A22, st22⟩ := newI X hx hZ (hw _ (List.mem_of_getElem? (i := 2) rfl)) eT (g := (mkF m 36 #[.val (.int p1), .val (.int p2), .val (.int p3), .val (.int p4), .val (.int p5), .val (.int (3 : Int32)), .val (.int x6), .val (.int x7), .val (.int x8), .val (.int x9), .unset, .unset] [(.int (3 : Int32))])) rfl (hb hby at_36) rfl (by decide) (cap := 3) (by decide) (by decide) (Nat.le_trans (Nat.add_le_add_right hcl 1) (by decide)) (Nat.le_trans (Nat.add_le_add_right hsl 3) (by decide))
      obtain ⟨b22, g22⟩ : ∃ z, z = h.size := ⟨_, rfl⟩
      rw [← g22] at A22 st22
      have g_b22 : n0 ≤ b22 := Nat.le_trans Zh (Nat.le_of_eq g22.symm)
      have sz_b22 : h0.size ≤ b22 := Nat.le_trans K.1 (Nat.le_of_eq g22.symm)
      have K22 : Keep h0 h22 [] := Keep.ext K E22
      have Z22 : n0 ≤ h22.size := Nat.le_trans Z0 K22.1
      have G23 : VA Z h22 b22 .int ([(0 : Int32), (0 : Int32), (0 : Int32)].map Value.int) := A22
      have ix24 : 0 ≤ ((0 : Int32)).toInt ∧ ((0 : Int32)).toInt < (([(0 : Int32), (0 : Int32), (0 : Int32)]).length : Int) := by constructor <;> first | decide | (simp; done)
      obtain ⟨T25, h25, X25, e25, W25, V25, st25⟩ := putI X22 hx hZ e22 G23 ix24.1 ix24.2 (g := (mkF m 49 #[.val (.int p1), .val (.int p2), .val (.int p3), .val (.int p4), .val (.int p5), .val (.int (3 : Int32)), .val (.int x6), .val (.int x7), .val (.int x8), .val (.int x9), .val (.ref b22), .unset] [(.int (0 : Int32)), (.int (0 : Int32)), (.ref b22)])) rfl rfl (hb hby at_49)
      have G26 : VA Z h25 b22 .int ([(0 : Int32), (0 : Int32), (0 : Int32)].map Value.int) := V25
      have N25 := Fr.snoc X25 N g_b22
      have K25 : Keep h0 h25 [] := Keep.wr K22 W25 (Or.inr sz_b22)
      have Z25 : n0 ≤ h25.size := Nat.le_trans Z0 K25.1
      have ix27 : 0 ≤ ((1 : Int32)).toInt ∧ ((1 : Int32)).toInt < (([(0 : Int32), (0 : Int32), (0 : Int32)]).length : Int) := by constructor <;> first | decide | (simp; done)
      obtain ⟨T28, h28, X28, e28, W28, V28, st28⟩ := putI X25 hx hZ e25 G26 ix27.1 ix27.2 (g := (mkF m 61 #[.val (.int p1), .val (.int p2), .val (.int p3), .val (.int p4), .val (.int p5), .val (.int (3 : Int32)), .val (.int x6), .val (.int x7), .val (.int x8), .val (.int x9), .val (.ref b22), .unset] [(.int x6), (.int (1 : Int32)), (.ref b22)])) rfl rfl (hb hby at_61)
      have G29 : VA Z h28 b22 .int ([(0 : Int32), x6, (0 : Int32)].map Value.int) := V28
      have N28 := Fr.snoc X28 N25 g_b22
      have K28 : Keep h0 h28 [] := Keep.wr K25 W28 (Or.inr sz_b22)
      have Z28 : n0 ≤ h28.size := Nat.le_trans Z0 K28.1
      have ix30 : 0 ≤ ((2 : Int32)).toInt ∧ ((2 : Int32)).toInt < (([(0 : Int32), x6, (0 : Int32)]).length : Int) := by constructor <;> first | decide | (simp; done)
      obtain ⟨T31, h31, X31, e31, W31, V31, st31⟩ := putI X28 hx hZ e28 G29 ix30.1 ix30.2 (g := (mkF m 76 #[.val (.int p1), .val (.int p2), .val (.int p3), .val (.int p4), .val (.int p5), .val (.int (3 : Int32)), .val (.int x6), .val (.int x7), .val (.int x8), .val (.int x9), .val (.ref b22), .unset] [(.int (x6 + x7)), (.int (2 : Int32)), (.ref b22)])) rfl rfl (hb hby at_76)
      have G32 : VA Z h31 b22 .int ([(0 : Int32), x6, (x6 + x7)].map Value.int) := V31
      have N31 := Fr.snoc X31 N28 g_b22
      have K31 : Keep h0 h31 [] := Keep.wr K28 W31 (Or.inr sz_b22)
      have Z31 : n0 ≤ h31.size := Nat.le_trans Z0 K31.1
      obtain ⟨_, _, ⟨T33, L33, k33, n33⟩, -, X33, ⟨Lc33, hQ33, l33, y33, z33⟩, st33⟩ := Jvm.LawKit.callS X31 hx (y := (⟨"java/lang/Math", "max", "(II)I"⟩ : MethodName)) hown (mvT hZ (hw _ (List.mem_of_getElem? (i := 7) rfl))) (mvT hZ (hw _ (List.mem_of_getElem? (i := 8) rfl))) (mvT hZ (hw _ (List.mem_of_getElem? (i := 9) rfl))) (mvT hZ (hw _ (List.mem_of_getElem? (i := 10) rfl))) (by decide) (backOf (W := 0) (rm_maxI l Z a0 hw [] x6 x7  h31 n0 Z31 ) hZ (hw _ (List.mem_of_getElem? (i := 10) rfl)) (hw _ (List.mem_of_getElem? (i := 9) rfl)) (by decide) (by decide)) (g := (mkF m 139 #[.val (.int p1), .val (.int p2), .val (.int p3), .val (.int p4), .val (.int p5), .val (.int (3 : Int32)), .val (.int x6), .val (.int x7), .val (.int x8), .val (.int x9), .val (.ref b22), .val (.int x6)] [(.int x7), (.int x6)])) rfl (by rw [hml]; rfl) (argsL := [(.int x6), (.int x7)]) (rest := []) (lenOf pd_0 rfl) rfl (by show 2 * 0 + _ ≤ _; exact Nat.le_of_eq rfl) (hb hby at_139) (fun _ _ => ⟨rfl, e31, (Nat.le_trans (Nat.add_le_add_right (Nat.add_le_add_right hcl 1) 0) (by decide)), (Nat.le_trans (Nat.add_le_add_right (Nat.add_le_add_right hsl 3) 0) (by decide))⟩)
      dsimp only [Pt.U, Pt.locs, Pt.cells, Pt.slots] at X33 l33 y33 z33 st33 hQ33
      subst l33 y33 z33
      obtain ⟨rfl, N33q, e33⟩ := hQ33
      have N33 := Fr.app N31 N33q
      obtain ⟨_, _, ⟨T34, L34, k34, n34⟩, -, X34, ⟨Lc34, hQ34, l34, y34, z34⟩, st34⟩ := Jvm.LawKit.callS X33 hx (y := (⟨"com/example/laneweave/laneweave/Overlap", "longest", "([I)I"⟩ : MethodName)) hown (mvT hZ (hw _ (List.mem_of_getElem? (i := 3) rfl))) (mvT hZ (hw _ (List.mem_of_getElem? (i := 4) rfl))) (mvT hZ (hw _ (List.mem_of_getElem? (i := 5) rfl))) (mvT hZ (hw _ (List.mem_of_getElem? (i := 6) rfl))) (by decide) (backOf (W := 0) (rm_lon3 l Z a0 hw [] b22 (0 : Int32) x6 (x6 + x7) h31 n0 Z31 G32 ) hZ (hw _ (List.mem_of_getElem? (i := 6) rfl)) (hw _ (List.mem_of_getElem? (i := 5) rfl)) (by decide) (by decide)) (g := (mkF m 176 #[.val (.int p1), .val (.int p2), .val (.int p3), .val (.int p4), .val (.int p5), .val (.int (3 : Int32)), .val (.int x6), .val (.int x7), .val (.int x8), .val (.int x9), .val (.ref b22), .val (.int (maxI x6 x7))] [(.ref b22)])) rfl (by rw [hml]; rfl) (argsL := [(.ref b22)]) (rest := []) (lenOf pd_1 rfl) rfl (by show 2 * 0 + _ ≤ _; exact Nat.le_of_eq rfl) (hb hby at_176) (fun _ _ => ⟨rfl, e33, (Nat.le_trans (Nat.add_le_add_right (Nat.add_le_add_right (Nat.add_le_add_right hcl 1) 0) 0) (by decide)), (Nat.le_trans (Nat.add_le_add_right (Nat.add_le_add_right (Nat.add_le_add_right hsl 3) 0) 0) (by decide))⟩)
      dsimp only [Pt.U, Pt.locs, Pt.cells, Pt.slots] at X34 l34 y34 z34 st34 hQ34
      subst l34 y34 z34
      obtain ⟨rfl, N34q, e34⟩ := hQ34
      have N34 := Fr.app N33 N34q
      refine Go.step (T' := T34) (f' := (mkF m 181 #[.val (.int p1), .val (.int p2), .val (.int p3), .val (.int p4), .val (.int p5), .val (.int (3 : Int32)), .val (.int x6), .val (.int x7), .val (.int x8), .val (.int x9), .val (.ref b22), .val (.int (maxI x6 x7))] [(.int (maxI x6 x7)), (.int (lon3 (0 : Int32) x6 (x6 + x7)))])) (fun t kt => ?_) ?_
      · show Steps p.tables e below (T.setTop (mkF m 34 #[.val (.int p1), .val (.int p2), .val (.int p3), .val (.int p4), .val (.int p5), .val (.int (3 : Int32)), .val (.int x6), .val (.int x7), .val (.int x8), .val (.int x9), .unset, .unset] [])) _
        refine XS.iload X.here hx rfl (hb hby at_34) rfl ?_
        show Steps p.tables e below (T.setTop (mkF m 36 #[.val (.int p1), .val (.int p2), .val (.int p3), .val (.int p4), .val (.int p5), .val (.int (3 : Int32)), .val (.int x6), .val (.int x7), .val (.int x8), .val (.int x9), .unset, .unset] [(.int (3 : Int32))])) _
        refine st22 _ ?_
        show Steps p.tables e below (T22.setTop (mkF m 38 #[.val (.int p1), .val (.int p2), .val (.int p3), .val (.int p4), .val (.int p5), .val (.int (3 : Int32)), .val (.int x6), .val (.int x7), .val (.int x8), .val (.int x9), .unset, .unset] [(.ref b22)])) _
        refine XS.astore X22.here hx rfl (hb hby at_38) rfl rfl (l' := #[.val (.int p1), .val (.int p2), .val (.int p3), .val (.int p4), .val (.int p5), .val (.int (3 : Int32)), .val (.int x6), .val (.int x7), .val (.int x8), .val (.int x9), .val (.ref b22), .unset]) rfl ?_
        show Steps p.tables e below (T22.setTop (mkF m 40 #[.val (.int p1), .val (.int p2), .val (.int p3), .val (.int p4), .val (.int p5), .val (.int (3 : Int32)), .val (.int x6), .val (.int x7), .val (.int x8), .val (.int x9), .val (.ref b22), .unset] [])) _
        refine XS.iload X22.here hx rfl (hb hby at_40) rfl ?_
        show Steps p.tables e below (T22.setTop (mkF m 42 #[.val (.int p1), .val (.int p2), .val (.int p3), .val (.int p4), .val (.int p5), .val (.int (3 : Int32)), .val (.int x6), .val (.int x7), .val (.int x8), .val (.int x9), .val (.ref b22), .unset] [(.int (3 : Int32))])) _
        refine XS.ifNo X22.here hx rfl (hb hby at_42) rfl ((if0 _ _).trans (tlt (by decide : ((0 : Int32) < (3 : Int32)))).2.2.2) ?_
        show Steps p.tables e below (T22.setTop (mkF m 45 #[.val (.int p1), .val (.int p2), .val (.int p3), .val (.int p4), .val (.int p5), .val (.int (3 : Int32)), .val (.int x6), .val (.int x7), .val (.int x8), .val (.int x9), .val (.ref b22), .unset] [])) _
        refine XS.aload X22.here hx rfl (hb hby at_45) rfl rfl ?_
        show Steps p.tables e below (T22.setTop (mkF m 47 #[.val (.int p1), .val (.int p2), .val (.int p3), .val (.int p4), .val (.int p5), .val (.int (3 : Int32)), .val (.int x6), .val (.int x7), .val (.int x8), .val (.int x9), .val (.ref b22), .unset] [(.ref b22)])) _
        refine XS.iconst X22.here hx rfl (hb hby at_47) ?_
        show Steps p.tables e below (T22.setTop (mkF m 48 #[.val (.int p1), .val (.int p2), .val (.int p3), .val (.int p4), .val (.int p5), .val (.int (3 : Int32)), .val (.int x6), .val (.int x7), .val (.int x8), .val (.int x9), .val (.ref b22), .unset] [(.int (0 : Int32)), (.ref b22)])) _
        refine XS.iconst X22.here hx rfl (hb hby at_48) ?_
        show Steps p.tables e below (T22.setTop (mkF m 49 #[.val (.int p1), .val (.int p2), .val (.int p3), .val (.int p4), .val (.int p5), .val (.int (3 : Int32)), .val (.int x6), .val (.int x7), .val (.int x8), .val (.int x9), .val (.ref b22), .unset] [(.int (0 : Int32)), (.int (0 : Int32)), (.ref b22)])) _
        refine st25 _ ?_
        show Steps p.tables e below (T25.setTop (mkF m 50 #[.val (.int p1), .val (.int p2), .val (.int p3), .val (.int p4), .val (.int p5), .val (.int (3 : Int32)), .val (.int x6), .val (.int x7), .val (.int x8), .val (.int x9), .val (.ref b22), .unset] [])) _
        refine XS.iload X25.here hx rfl (hb hby at_50) rfl ?_
        show Steps p.tables e below (T25.setTop (mkF m 52 #[.val (.int p1), .val (.int p2), .val (.int p3), .val (.int p4), .val (.int p5), .val (.int (3 : Int32)), .val (.int x6), .val (.int x7), .val (.int x8), .val (.int x9), .val (.ref b22), .unset] [(.int (3 : Int32))])) _
        refine XS.iconst X25.here hx rfl (hb hby at_52) ?_
        show Steps p.tables e below (T25.setTop (mkF m 53 #[.val (.int p1), .val (.int p2), .val (.int p3), .val (.int p4), .val (.int p5), .val (.int (3 : Int32)), .val (.int x6), .val (.int x7), .val (.int x8), .val (.int x9), .val (.ref b22), .unset] [(.int (1 : Int32)), (.int (3 : Int32))])) _
        refine XS.icmpNo X25.here hx rfl (hb hby at_53) rfl (tlt (by decide : ((1 : Int32) < (3 : Int32)))).2.2.2 ?_
        show Steps p.tables e below (T25.setTop (mkF m 56 #[.val (.int p1), .val (.int p2), .val (.int p3), .val (.int p4), .val (.int p5), .val (.int (3 : Int32)), .val (.int x6), .val (.int x7), .val (.int x8), .val (.int x9), .val (.ref b22), .unset] [])) _
        refine XS.aload X25.here hx rfl (hb hby at_56) rfl rfl ?_
        show Steps p.tables e below (T25.setTop (mkF m 58 #[.val (.int p1), .val (.int p2), .val (.int p3), .val (.int p4), .val (.int p5), .val (.int (3 : Int32)), .val (.int x6), .val (.int x7), .val (.int x8), .val (.int x9), .val (.ref b22), .unset] [(.ref b22)])) _
        refine XS.iconst X25.here hx rfl (hb hby at_58) ?_
        show Steps p.tables e below (T25.setTop (mkF m 59 #[.val (.int p1), .val (.int p2), .val (.int p3), .val (.int p4), .val (.int p5), .val (.int (3 : Int32)), .val (.int x6), .val (.int x7), .val (.int x8), .val (.int x9), .val (.ref b22), .unset] [(.int (1 : Int32)), (.ref b22)])) _
        refine XS.iload X25.here hx rfl (hb hby at_59) rfl ?_
        show Steps p.tables e below (T25.setTop (mkF m 61 #[.val (.int p1), .val (.int p2), .val (.int p3), .val (.int p4), .val (.int p5), .val (.int (3 : Int32)), .val (.int x6), .val (.int x7), .val (.int x8), .val (.int x9), .val (.ref b22), .unset] [(.int x6), (.int (1 : Int32)), (.ref b22)])) _
        refine st28 _ ?_
        show Steps p.tables e below (T28.setTop (mkF m 62 #[.val (.int p1), .val (.int p2), .val (.int p3), .val (.int p4), .val (.int p5), .val (.int (3 : Int32)), .val (.int x6), .val (.int x7), .val (.int x8), .val (.int x9), .val (.ref b22), .unset] [])) _
        refine XS.iload X28.here hx rfl (hb hby at_62) rfl ?_
        show Steps p.tables e below (T28.setTop (mkF m 64 #[.val (.int p1), .val (.int p2), .val (.int p3), .val (.int p4), .val (.int p5), .val (.int (3 : Int32)), .val (.int x6), .val (.int x7), .val (.int x8), .val (.int x9), .val (.ref b22), .unset] [(.int (3 : Int32))])) _
        refine XS.iconst X28.here hx rfl (hb hby at_64) ?_
        show Steps p.tables e below (T28.setTop (mkF m 65 #[.val (.int p1), .val (.int p2), .val (.int p3), .val (.int p4), .val (.int p5), .val (.int (3 : Int32)), .val (.int x6), .val (.int x7), .val (.int x8), .val (.int x9), .val (.ref b22), .unset] [(.int (2 : Int32)), (.int (3 : Int32))])) _
        refine XS.icmpNo X28.here hx rfl (hb hby at_65) rfl (tlt (by decide : ((2 : Int32) < (3 : Int32)))).2.2.2 ?_
        show Steps p.tables e below (T28.setTop (mkF m 68 #[.val (.int p1), .val (.int p2), .val (.int p3), .val (.int p4), .val (.int p5), .val (.int (3 : Int32)), .val (.int x6), .val (.int x7), .val (.int x8), .val (.int x9), .val (.ref b22), .unset] [])) _
        refine XS.aload X28.here hx rfl (hb hby at_68) rfl rfl ?_
        show Steps p.tables e below (T28.setTop (mkF m 70 #[.val (.int p1), .val (.int p2), .val (.int p3), .val (.int p4), .val (.int p5), .val (.int (3 : Int32)), .val (.int x6), .val (.int x7), .val (.int x8), .val (.int x9), .val (.ref b22), .unset] [(.ref b22)])) _
        refine XS.iconst X28.here hx rfl (hb hby at_70) ?_
        show Steps p.tables e below (T28.setTop (mkF m 71 #[.val (.int p1), .val (.int p2), .val (.int p3), .val (.int p4), .val (.int p5), .val (.int (3 : Int32)), .val (.int x6), .val (.int x7), .val (.int x8), .val (.int x9), .val (.ref b22), .unset] [(.int (2 : Int32)), (.ref b22)])) _
        refine XS.iload X28.here hx rfl (hb hby at_71) rfl ?_
        show Steps p.tables e below (T28.setTop (mkF m 73 #[.val (.int p1), .val (.int p2), .val (.int p3), .val (.int p4), .val (.int p5), .val (.int (3 : Int32)), .val (.int x6), .val (.int x7), .val (.int x8), .val (.int x9), .val (.ref b22), .unset] [(.int x6), (.int (2 : Int32)), (.ref b22)])) _
        refine XS.iload X28.here hx rfl (hb hby at_73) rfl ?_
        show Steps p.tables e below (T28.setTop (mkF m 75 #[.val (.int p1), .val (.int p2), .val (.int p3), .val (.int p4), .val (.int p5), .val (.int (3 : Int32)), .val (.int x6), .val (.int x7), .val (.int x8), .val (.int x9), .val (.ref b22), .unset] [(.int x7), (.int x6), (.int (2 : Int32)), (.ref b22)])) _
        refine XS.iadd X28.here hx rfl (hb hby at_75) rfl ?_
        show Steps p.tables e below (T28.setTop (mkF m 76 #[.val (.int p1), .val (.int p2), .val (.int p3), .val (.int p4), .val (.int p5), .val (.int (3 : Int32)), .val (.int x6), .val (.int x7), .val (.int x8), .val (.int x9), .val (.ref b22), .unset] [(.int (x6 + x7)), (.int (2 : Int32)), (.ref b22)])) _
        refine st31 _ ?_
        show Steps p.tables e below (T31.setTop (mkF m 77 #[.val (.int p1), .val (.int p2), .val (.int p3), .val (.int p4), .val (.int p5), .val (.int (3 : Int32)), .val (.int x6), .val (.int x7), .val (.int x8), .val (.int x9), .val (.ref b22), .unset] [])) _
        refine XS.iload X31.here hx rfl (hb hby at_77) rfl ?_
        show Steps p.tables e below (T31.setTop (mkF m 79 #[.val (.int p1), .val (.int p2), .val (.int p3), .val (.int p4), .val (.int p5), .val (.int (3 : Int32)), .val (.int x6), .val (.int x7), .val (.int x8), .val (.int x9), .val (.ref b22), .unset] [(.int (3 : Int32))])) _
        refine XS.iconst X31.here hx rfl (hb hby at_79) ?_
        show Steps p.tables e below (T31.setTop (mkF m 80 #[.val (.int p1), .val (.int p2), .val (.int p3), .val (.int p4), .val (.int p5), .val (.int (3 : Int32)), .val (.int x6), .val (.int x7), .val (.int x8), .val (.int x9), .val (.ref b22), .unset] [(.int (3 : Int32)), (.int (3 : Int32))])) _
        refine XS.icmpYes X31.here hx rfl (pc0 := 80) (pc' := 95) rfl (hb hby at_80) rfl (flt (by decide : ¬ ((3 : Int32) < (3 : Int32)))).2.2.2 (by decide) (by decide) ?_
        show Steps p.tables e below (T31.setTop (mkF m 95 #[.val (.int p1), .val (.int p2), .val (.int p3), .val (.int p4), .val (.int p5), .val (.int (3 : Int32)), .val (.int x6), .val (.int x7), .val (.int x8), .val (.int x9), .val (.ref b22), .unset] [])) _
        refine XS.iload X31.here hx rfl (hb hby at_95) rfl ?_
        show Steps p.tables e below (T31.setTop (mkF m 97 #[.val (.int p1), .val (.int p2), .val (.int p3), .val (.int p4), .val (.int p5), .val (.int (3 : Int32)), .val (.int x6), .val (.int x7), .val (.int x8), .val (.int x9), .val (.ref b22), .unset] [(.int (3 : Int32))])) _
        refine XS.iconst X31.here hx rfl (hb hby at_97) ?_
        show Steps p.tables e below (T31.setTop (mkF m 98 #[.val (.int p1), .val (.int p2), .val (.int p3), .val (.int p4), .val (.int p5), .val (.int (3 : Int32)), .val (.int x6), .val (.int x7), .val (.int x8), .val (.int x9), .val (.ref b22), .unset] [(.int (4 : Int32)), (.int (3 : Int32))])) _
        refine XS.icmpYes X31.here hx rfl (pc0 := 98) (pc' := 116) rfl (hb hby at_98) rfl (flt (by decide : ¬ ((4 : Int32) < (3 : Int32)))).2.2.2 (by decide) (by decide) ?_
        show Steps p.tables e below (T31.setTop (mkF m 116 #[.val (.int p1), .val (.int p2), .val (.int p3), .val (.int p4), .val (.int p5), .val (.int (3 : Int32)), .val (.int x6), .val (.int x7), .val (.int x8), .val (.int x9), .val (.ref b22), .unset] [])) _
        refine XS.iconst X31.here hx rfl (hb hby at_116) ?_
        show Steps p.tables e below (T31.setTop (mkF m 117 #[.val (.int p1), .val (.int p2), .val (.int p3), .val (.int p4), .val (.int p5), .val (.int (3 : Int32)), .val (.int x6), .val (.int x7), .val (.int x8), .val (.int x9), .val (.ref b22), .unset] [(.int (0 : Int32))])) _
        refine XS.istore X31.here hx rfl (hb hby at_117) rfl (l' := #[.val (.int p1), .val (.int p2), .val (.int p3), .val (.int p4), .val (.int p5), .val (.int (3 : Int32)), .val (.int x6), .val (.int x7), .val (.int x8), .val (.int x9), .val (.ref b22), .val (.int (0 : Int32))]) rfl ?_
        show Steps p.tables e below (T31.setTop (mkF m 119 #[.val (.int p1), .val (.int p2), .val (.int p3), .val (.int p4), .val (.int p5), .val (.int (3 : Int32)), .val (.int x6), .val (.int x7), .val (.int x8), .val (.int x9), .val (.ref b22), .val (.int (0 : Int32))] [])) _
        refine XS.iload X31.here hx rfl (hb hby at_119) rfl ?_
        show Steps p.tables e below (T31.setTop (mkF m 121 #[.val (.int p1), .val (.int p2), .val (.int p3), .val (.int p4), .val (.int p5), .val (.int (3 : Int32)), .val (.int x6), .val (.int x7), .val (.int x8), .val (.int x9), .val (.ref b22), .val (.int (0 : Int32))] [(.int (3 : Int32))])) _
        refine XS.iconst X31.here hx rfl (hb hby at_121) ?_
        show Steps p.tables e below (T31.setTop (mkF m 122 #[.val (.int p1), .val (.int p2), .val (.int p3), .val (.int p4), .val (.int p5), .val (.int (3 : Int32)), .val (.int x6), .val (.int x7), .val (.int x8), .val (.int x9), .val (.ref b22), .val (.int (0 : Int32))] [(.int (1 : Int32)), (.int (3 : Int32))])) _
        refine XS.icmpNo X31.here hx rfl (hb hby at_122) rfl (tlt (by decide : ((1 : Int32) < (3 : Int32)))).2.2.2 ?_
        show Steps p.tables e below (T31.setTop (mkF m 125 #[.val (.int p1), .val (.int p2), .val (.int p3), .val (.int p4), .val (.int p5), .val (.int (3 : Int32)), .val (.int x6), .val (.int x7), .val (.int x8), .val (.int x9), .val (.ref b22), .val (.int (0 : Int32))] [])) _
        refine XS.iload X31.here hx rfl (hb hby at_125) rfl ?_
        show Steps p.tables e below (T31.setTop (mkF m 127 #[.val (.int p1), .val (.int p2), .val (.int p3), .val (.int p4), .val (.int p5), .val (.int (3 : Int32)), .val (.int x6), .val (.int x7), .val (.int x8), .val (.int x9), .val (.ref b22), .val (.int (0 : Int32))] [(.int x6)])) _
        refine XS.istore X31.here hx rfl (hb hby at_127) rfl (l' := #[.val (.int p1), .val (.int p2), .val (.int p3), .val (.int p4), .val (.int p5), .val (.int (3 : Int32)), .val (.int x6), .val (.int x7), .val (.int x8), .val (.int x9), .val (.ref b22), .val (.int x6)]) rfl ?_
        show Steps p.tables e below (T31.setTop (mkF m 129 #[.val (.int p1), .val (.int p2), .val (.int p3), .val (.int p4), .val (.int p5), .val (.int (3 : Int32)), .val (.int x6), .val (.int x7), .val (.int x8), .val (.int x9), .val (.ref b22), .val (.int x6)] [])) _
        refine XS.iload X31.here hx rfl (hb hby at_129) rfl ?_
        show Steps p.tables e below (T31.setTop (mkF m 131 #[.val (.int p1), .val (.int p2), .val (.int p3), .val (.int p4), .val (.int p5), .val (.int (3 : Int32)), .val (.int x6), .val (.int x7), .val (.int x8), .val (.int x9), .val (.ref b22), .val (.int x6)] [(.int (3 : Int32))])) _
        refine XS.iconst X31.here hx rfl (hb hby at_131) ?_
        show Steps p.tables e below (T31.setTop (mkF m 132 #[.val (.int p1), .val (.int p2), .val (.int p3), .val (.int p4), .val (.int p5), .val (.int (3 : Int32)), .val (.int x6), .val (.int x7), .val (.int x8), .val (.int x9), .val (.ref b22), .val (.int x6)] [(.int (2 : Int32)), (.int (3 : Int32))])) _
        refine XS.icmpNo X31.here hx rfl (hb hby at_132) rfl (tlt (by decide : ((2 : Int32) < (3 : Int32)))).2.2.2 ?_
        show Steps p.tables e below (T31.setTop (mkF m 135 #[.val (.int p1), .val (.int p2), .val (.int p3), .val (.int p4), .val (.int p5), .val (.int (3 : Int32)), .val (.int x6), .val (.int x7), .val (.int x8), .val (.int x9), .val (.ref b22), .val (.int x6)] [])) _
        refine XS.iload X31.here hx rfl (hb hby at_135) rfl ?_
        show Steps p.tables e below (T31.setTop (mkF m 137 #[.val (.int p1), .val (.int p2), .val (.int p3), .val (.int p4), .val (.int p5), .val (.int (3 : Int32)), .val (.int x6), .val (.int x7), .val (.int x8), .val (.int x9), .val (.ref b22), .val (.int x6)] [(.int x6)])) _
        refine XS.iload X31.here hx rfl (hb hby at_137) rfl ?_
        show Steps p.tables e below (T31.setTop (mkF m 139 #[.val (.int p1), .val (.int p2), .val (.int p3), .val (.int p4), .val (.int p5), .val (.int (3 : Int32)), .val (.int x6), .val (.int x7), .val (.int x8), .val (.int x9), .val (.ref b22), .val (.int x6)] [(.int x7), (.int x6)])) _
        refine st33 _ ?_
        show Steps p.tables e below (T33.setTop (mkF m 142 #[.val (.int p1), .val (.int p2), .val (.int p3), .val (.int p4), .val (.int p5), .val (.int (3 : Int32)), .val (.int x6), .val (.int x7), .val (.int x8), .val (.int x9), .val (.ref b22), .val (.int x6)] [(.int (maxI x6 x7))])) _
        refine XS.istore X33.here hx rfl (hb hby at_142) rfl (l' := #[.val (.int p1), .val (.int p2), .val (.int p3), .val (.int p4), .val (.int p5), .val (.int (3 : Int32)), .val (.int x6), .val (.int x7), .val (.int x8), .val (.int x9), .val (.ref b22), .val (.int (maxI x6 x7))]) rfl ?_
        show Steps p.tables e below (T33.setTop (mkF m 144 #[.val (.int p1), .val (.int p2), .val (.int p3), .val (.int p4), .val (.int p5), .val (.int (3 : Int32)), .val (.int x6), .val (.int x7), .val (.int x8), .val (.int x9), .val (.ref b22), .val (.int (maxI x6 x7))] [])) _
        refine XS.iload X33.here hx rfl (hb hby at_144) rfl ?_
        show Steps p.tables e below (T33.setTop (mkF m 146 #[.val (.int p1), .val (.int p2), .val (.int p3), .val (.int p4), .val (.int p5), .val (.int (3 : Int32)), .val (.int x6), .val (.int x7), .val (.int x8), .val (.int x9), .val (.ref b22), .val (.int (maxI x6 x7))] [(.int (3 : Int32))])) _
        refine XS.iconst X33.here hx rfl (hb hby at_146) ?_
        show Steps p.tables e below (T33.setTop (mkF m 147 #[.val (.int p1), .val (.int p2), .val (.int p3), .val (.int p4), .val (.int p5), .val (.int (3 : Int32)), .val (.int x6), .val (.int x7), .val (.int x8), .val (.int x9), .val (.ref b22), .val (.int (maxI x6 x7))] [(.int (3 : Int32)), (.int (3 : Int32))])) _
        refine XS.icmpYes X33.here hx rfl (pc0 := 147) (pc' := 159) rfl (hb hby at_147) rfl (flt (by decide : ¬ ((3 : Int32) < (3 : Int32)))).2.2.2 (by decide) (by decide) ?_
        show Steps p.tables e below (T33.setTop (mkF m 159 #[.val (.int p1), .val (.int p2), .val (.int p3), .val (.int p4), .val (.int p5), .val (.int (3 : Int32)), .val (.int x6), .val (.int x7), .val (.int x8), .val (.int x9), .val (.ref b22), .val (.int (maxI x6 x7))] [])) _
        refine XS.iload X33.here hx rfl (hb hby at_159) rfl ?_
        show Steps p.tables e below (T33.setTop (mkF m 161 #[.val (.int p1), .val (.int p2), .val (.int p3), .val (.int p4), .val (.int p5), .val (.int (3 : Int32)), .val (.int x6), .val (.int x7), .val (.int x8), .val (.int x9), .val (.ref b22), .val (.int (maxI x6 x7))] [(.int (3 : Int32))])) _
        refine XS.iconst X33.here hx rfl (hb hby at_161) ?_
        show Steps p.tables e below (T33.setTop (mkF m 162 #[.val (.int p1), .val (.int p2), .val (.int p3), .val (.int p4), .val (.int p5), .val (.int (3 : Int32)), .val (.int x6), .val (.int x7), .val (.int x8), .val (.int x9), .val (.ref b22), .val (.int (maxI x6 x7))] [(.int (4 : Int32)), (.int (3 : Int32))])) _
        refine XS.icmpYes X33.here hx rfl (pc0 := 162) (pc' := 174) rfl (hb hby at_162) rfl (flt (by decide : ¬ ((4 : Int32) < (3 : Int32)))).2.2.2 (by decide) (by decide) ?_
        show Steps p.tables e below (T33.setTop (mkF m 174 #[.val (.int p1), .val (.int p2), .val (.int p3), .val (.int p4), .val (.int p5), .val (.int (3 : Int32)), .val (.int x6), .val (.int x7), .val (.int x8), .val (.int x9), .val (.ref b22), .val (.int (maxI x6 x7))] [])) _
        refine XS.aload X33.here hx rfl (hb hby at_174) rfl rfl ?_
        show Steps p.tables e below (T33.setTop (mkF m 176 #[.val (.int p1), .val (.int p2), .val (.int p3), .val (.int p4), .val (.int p5), .val (.int (3 : Int32)), .val (.int x6), .val (.int x7), .val (.int x8), .val (.int x9), .val (.ref b22), .val (.int (maxI x6 x7))] [(.ref b22)])) _
        refine st34 _ ?_
        show Steps p.tables e below (T34.setTop (mkF m 179 #[.val (.int p1), .val (.int p2), .val (.int p3), .val (.int p4), .val (.int p5), .val (.int (3 : Int32)), .val (.int x6), .val (.int x7), .val (.int x8), .val (.int x9), .val (.ref b22), .val (.int (maxI x6 x7))] [(.int (lon3 (0 : Int32) x6 (x6 + x7)))])) _
        refine XS.iload X34.here hx rfl (hb hby at_179) rfl ?_
        exact kt
      have hd35 : (lon3 (0 : Int32) x6 (x6 + x7)) = (maxI x6 x7) := by unfold lon3; rw [own_s0, own_m0 h6, own_sc]
      refine Go.step (T' := T34) (f' := (mkF m 189 #[.val (.int p1), .val (.int p2), .val (.int p3), .val (.int p4), .val (.int p5), .val (.int (3 : Int32)), .val (.int x6), .val (.int x7), .val (.int x8), .val (.int x9), .val (.ref b22), .val (.int (maxI x6 x7))] [(.int (1 : Int32))])) (fun t kt => ?_) ?_
      · show Steps p.tables e below (T34.setTop (mkF m 181 #[.val (.int p1), .val (.int p2), .val (.int p3), .val (.int p4), .val (.int p5), .val (.int (3 : Int32)), .val (.int x6), .val (.int x7), .val (.int x8), .val (.int x9), .val (.ref b22), .val (.int (maxI x6 x7))] [(.int (maxI x6 x7)), (.int (lon3 (0 : Int32) x6 (x6 + x7)))])) _
        refine XS.icmpNo X34.here hx rfl (hb hby at_181) rfl (teq hd35).2 ?_
        show Steps p.tables e below (T34.setTop (mkF m 184 #[.val (.int p1), .val (.int p2), .val (.int p3), .val (.int p4), .val (.int p5), .val (.int (3 : Int32)), .val (.int x6), .val (.int x7), .val (.int x8), .val (.int x9), .val (.ref b22), .val (.int (maxI x6 x7))] [])) _
        refine XS.iconst X34.here hx rfl (hb hby at_184) ?_
        show Steps p.tables e below (T34.setTop (mkF m 185 #[.val (.int p1), .val (.int p2), .val (.int p3), .val (.int p4), .val (.int p5), .val (.int (3 : Int32)), .val (.int x6), .val (.int x7), .val (.int x8), .val (.int x9), .val (.ref b22), .val (.int (maxI x6 x7))] [(.int (1 : Int32))])) _
        refine XS.goto X34.here hx rfl (pc0 := 185) (pc' := 189) rfl (hb hby at_185) (by decide) (by decide) ?_
        exact kt
      refine Go.fin X34 (v := some (.int (1 : Int32))) (fun h => by rw [Bd.returns] at h; cases h) Bd.notSynchronized ?_ (Nat.le_trans (Nat.add_le_add_right (Nat.add_le_add_right (Nat.add_le_add_right hcl 1) 0) 0) (by decide)) (Nat.le_trans (Nat.add_le_add_right (Nat.add_le_add_right (Nat.add_le_add_right hsl 3) 0) 0) (by decide)) (fun fs hr => retN X34 hx (t := .boolean) Bd.returns (by simp) (hb hby at_189) hr)
      · show Q0 Z p1 p2 p3 p4 p5 h0 n0 _ T34.heap _
        exact ⟨rfl, N34⟩
    · subst hs
      obtain ⟨T36, h36, X36, e36, E36, A36, st36⟩ := newI X hx hZ (hw _ (List.mem_of_getElem? (i := 2) rfl)) eT (g := (mkF m 36 #[.val (.int p1), .val (.int p2), .val (.int p3), .val (.int p4), .val (.int p5), .val (.int (4 : Int32)), .val (.int x6), .val (.int x7), .val (.int x8), .val (.int x9), .unset, .unset] [(.int (4 : Int32))])) rfl (hb hby at_36) rfl (by decide) (cap := 4) (by decide) (by decide) (Nat.le_trans (Nat.add_le_add_right hcl 1) (by decide)) (Nat.le_trans (Nat.add_le_add_right hsl 4) (by decide))
      obtain ⟨b36, g36⟩ : ∃ z, z = h.size := ⟨_, rfl⟩
      rw [← g36] at A36 st36
      have g_b36 : n0 ≤ b36 := Nat.le_trans Zh (Nat.le_of_eq g36.symm)
      have sz_b36 : h0.size ≤ b36 := Nat.le_trans K.1 (Nat.le_of_eq g36.symm)
      have K36 : Keep h0 h36 [] := Keep.ext K E36
      have Z36 : n0 ≤ h36.size := Nat.le_trans Z0 K36.1
      have G37 : VA Z h36 b36 .int ([(0 : Int32), (0 : Int32), (0 : Int32), (0 : Int32)].map Value.int) := A36
      have ix38 : 0 ≤ ((0 : Int32)).toInt ∧ ((0 : Int32)).toInt < (([(0 : Int32), (0 : Int32), (0 : Int32), (0 : Int32)]).length : Int) := by constructor <;> first | decide | (simp; done)
      obtain ⟨T39, h39, X39, e39, W39, V39, st39⟩ := putI X36 hx hZ e36 G37 ix38.1 ix38.2 (g := (mkF m 49 #[.val (.int p1), .val (.int p2), .val (.int p3), .val (.int p4), .val (.int p5), .val (.int (4 : Int32)), .val (.int x6), .val (.int x7), .val (.int x8), .val (.int x9), .val (.ref b36), .unset] [(.int (0 : Int32)), (.int (0 : Int32)), (.ref b36)])) rfl rfl (hb hby at_49)
      have G40 : VA Z h39 b36 .int ([(0 : Int32), (0 : Int32), (0 : Int32), (0 : Int32)].map Value.int) := V39
      have N39 := Fr.snoc X39 N g_b36
      have K39 : Keep h0 h39 [] := Keep.wr K36 W39 (Or.inr sz_b36)
      have Z39 : n0 ≤ h39.size := Nat.le_trans Z0 K39.1
      have ix41 : 0 ≤ ((1 : Int32)).toInt ∧ ((1 : Int32)).toInt < (([(0 : Int32), (0 : Int32), (0 : Int32), (0 : Int32)]).length : Int) := by constructor <;> first | decide | (simp; done)
      obtain ⟨T42, h42, X42, e42, W42, V42, st42⟩ := putI X39 hx hZ e39 G40 ix41.1 ix41.2 (g := (mkF m 61 #[.val (.int p1), .val (.int p2), .val (.int p3), .val (.int p4), .val (.int p5), .val (.int (4 : Int32)), .val (.int x6), .val (.int x7), .val (.int x8), .val (.int x9), .val (.ref b36), .unset] [(.int x6), (.int (1 : Int32)), (.ref b36)])) rfl rfl (hb hby at_61)
      have G43 : VA Z h42 b36 .int ([(0 : Int32), x6, (0 : Int32), (0 : Int32)].map Value.int) := V42
      have N42 := Fr.snoc X42 N39 g_b36
      have K42 : Keep h0 h42 [] := Keep.wr K39 W42 (Or.inr sz_b36)
      have Z42 : n0 ≤ h42.size := Nat.le_trans Z0 K42.1
      have ix44 : 0 ≤ ((2 : Int32)).toInt ∧ ((2 : Int32)).toInt < (([(0 : Int32), x6, (0 : Int32), (0 : Int32)]).length : Int) := by constructor <;> first | decide | (simp; done)
      obtain ⟨T45, h45, X45, e45, W45, V45, st45⟩ := putI X42 hx hZ e42 G43 ix44.1 ix44.2 (g := (mkF m 76 #[.val (.int p1), .val (.int p2), .val (.int p3), .val (.int p4), .val (.int p5), .val (.int (4 : Int32)), .val (.int x6), .val (.int x7), .val (.int x8), .val (.int x9), .val (.ref b36), .unset] [(.int (x6 + x7)), (.int (2 : Int32)), (.ref b36)])) rfl rfl (hb hby at_76)
      have G46 : VA Z h45 b36 .int ([(0 : Int32), x6, (x6 + x7), (0 : Int32)].map Value.int) := V45
      have N45 := Fr.snoc X45 N42 g_b36
      have K45 : Keep h0 h45 [] := Keep.wr K42 W45 (Or.inr sz_b36)
      have Z45 : n0 ≤ h45.size := Nat.le_trans Z0 K45.1
      have ix47 : 0 ≤ ((3 : Int32)).toInt ∧ ((3 : Int32)).toInt < (([(0 : Int32), x6, (x6 + x7), (0 : Int32)]).length : Int) := by constructor <;> first | decide | (simp; done)
      obtain ⟨T48, h48, X48, e48, W48, V48, st48⟩ := putI X45 hx hZ e45 G46 ix47.1 ix47.2 (g := (mkF m 94 #[.val (.int p1), .val (.int p2), .val (.int p3), .val (.int p4), .val (.int p5), .val (.int (4 : Int32)), .val (.int x6), .val (.int x7), .val (.int x8), .val (.int x9), .val (.ref b36), .unset] [(.int ((x6 + x7) + x8)), (.int (3 : Int32)), (.ref b36)])) rfl rfl (hb hby at_94)
      have G49 : VA Z h48 b36 .int ([(0 : Int32), x6, (x6 + x7), ((x6 + x7) + x8)].map Value.int) := V48
      have N48 := Fr.snoc X48 N45 g_b36
      have K48 : Keep h0 h48 [] := Keep.wr K45 W48 (Or.inr sz_b36)
      have Z48 : n0 ≤ h48.size := Nat.le_trans Z0 K48.1
      obtain ⟨_, _, ⟨T50, L50, k50, n50⟩, -, X50, ⟨Lc50, hQ50, l50, y50, z50⟩, st50⟩ := Jvm.LawKit.callS X48 hx (y := (⟨"java/lang/Math", "max", "(II)I"⟩ : MethodName)) hown (mvT hZ (hw _ (List.mem_of_getElem? (i := 7) rfl))) (mvT hZ (hw _ (List.mem_of_getElem? (i := 8) rfl))) (mvT hZ (hw _ (List.mem_of_getElem? (i := 9) rfl))) (mvT hZ (hw _ (List.mem_of_getElem? (i := 10) rfl))) (by decide) (backOf (W := 0) (rm_maxI l Z a0 hw [] x6 x7  h48 n0 Z48 ) hZ (hw _ (List.mem_of_getElem? (i := 10) rfl)) (hw _ (List.mem_of_getElem? (i := 9) rfl)) (by decide) (by decide)) (g := (mkF m 139 #[.val (.int p1), .val (.int p2), .val (.int p3), .val (.int p4), .val (.int p5), .val (.int (4 : Int32)), .val (.int x6), .val (.int x7), .val (.int x8), .val (.int x9), .val (.ref b36), .val (.int x6)] [(.int x7), (.int x6)])) rfl (by rw [hml]; rfl) (argsL := [(.int x6), (.int x7)]) (rest := []) (lenOf pd_0 rfl) rfl (by show 2 * 0 + _ ≤ _; exact Nat.le_of_eq rfl) (hb hby at_139) (fun _ _ => ⟨rfl, e48, (Nat.le_trans (Nat.add_le_add_right (Nat.add_le_add_right hcl 1) 0) (by decide)), (Nat.le_trans (Nat.add_le_add_right (Nat.add_le_add_right hsl 4) 0) (by decide))⟩)
      dsimp only [Pt.U, Pt.locs, Pt.cells, Pt.slots] at X50 l50 y50 z50 st50 hQ50
      subst l50 y50 z50
      obtain ⟨rfl, N50q, e50⟩ := hQ50
      have N50 := Fr.app N48 N50q
      obtain ⟨_, _, ⟨T51, L51, k51, n51⟩, -, X51, ⟨Lc51, hQ51, l51, y51, z51⟩, st51⟩ := Jvm.LawKit.callS X50 hx (y := (⟨"java/lang/Math", "max", "(II)I"⟩ : MethodName)) hown (mvT hZ (hw _ (List.mem_of_getElem? (i := 7) rfl))) (mvT hZ (hw _ (List.mem_of_getElem? (i := 8) rfl))) (mvT hZ (hw _ (List.mem_of_getElem? (i := 9) rfl))) (mvT hZ (hw _ (List.mem_of_getElem? (i := 10) rfl))) (by decide) (backOf (W := 0) (rm_maxI l Z a0 hw [] (maxI x6 x7) x8  h48 n0 Z48 ) hZ (hw _ (List.mem_of_getElem? (i := 10) rfl)) (hw _ (List.mem_of_getElem? (i := 9) rfl)) (by decide) (by decide)) (g := (mkF m 154 #[.val (.int p1), .val (.int p2), .val (.int p3), .val (.int p4), .val (.int p5), .val (.int (4 : Int32)), .val (.int x6), .val (.int x7), .val (.int x8), .val (.int x9), .val (.ref b36), .val (.int (maxI x6 x7))] [(.int x8), (.int (maxI x6 x7))])) rfl (by rw [hml]; rfl) (argsL := [(.int (maxI x6 x7)), (.int x8)]) (rest := []) (lenOf pd_0 rfl) rfl (by show 2 * 0 + _ ≤ _; exact Nat.le_of_eq rfl) (hb hby at_154) (fun _ _ => ⟨rfl, e50, (Nat.le_trans (Nat.add_le_add_right (Nat.add_le_add_right (Nat.add_le_add_right hcl 1) 0) 0) (by decide)), (Nat.le_trans (Nat.add_le_add_right (Nat.add_le_add_right (Nat.add_le_add_right hsl 4) 0) 0) (by decide))⟩)
      dsimp only [Pt.U, Pt.locs, Pt.cells, Pt.slots] at X51 l51 y51 z51 st51 hQ51
      subst l51 y51 z51
      obtain ⟨rfl, N51q, e51⟩ := hQ51
      have N51 := Fr.app N50 N51q
      obtain ⟨_, _, ⟨T52, L52, k52, n52⟩, -, X52, ⟨Lc52, hQ52, l52, y52, z52⟩, st52⟩ := Jvm.LawKit.callS X51 hx (y := (⟨"com/example/laneweave/laneweave/Overlap", "longest", "([I)I"⟩ : MethodName)) hown (mvT hZ (hw _ (List.mem_of_getElem? (i := 3) rfl))) (mvT hZ (hw _ (List.mem_of_getElem? (i := 4) rfl))) (mvT hZ (hw _ (List.mem_of_getElem? (i := 5) rfl))) (mvT hZ (hw _ (List.mem_of_getElem? (i := 6) rfl))) (by decide) (backOf (W := 0) (rm_lon4 l Z a0 hw [] b36 (0 : Int32) x6 (x6 + x7) ((x6 + x7) + x8) h48 n0 Z48 G49 ) hZ (hw _ (List.mem_of_getElem? (i := 6) rfl)) (hw _ (List.mem_of_getElem? (i := 5) rfl)) (by decide) (by decide)) (g := (mkF m 176 #[.val (.int p1), .val (.int p2), .val (.int p3), .val (.int p4), .val (.int p5), .val (.int (4 : Int32)), .val (.int x6), .val (.int x7), .val (.int x8), .val (.int x9), .val (.ref b36), .val (.int (maxI (maxI x6 x7) x8))] [(.ref b36)])) rfl (by rw [hml]; rfl) (argsL := [(.ref b36)]) (rest := []) (lenOf pd_1 rfl) rfl (by show 2 * 0 + _ ≤ _; exact Nat.le_of_eq rfl) (hb hby at_176) (fun _ _ => ⟨rfl, e51, (Nat.le_trans (Nat.add_le_add_right (Nat.add_le_add_right (Nat.add_le_add_right (Nat.add_le_add_right hcl 1) 0) 0) 0) (by decide)), (Nat.le_trans (Nat.add_le_add_right (Nat.add_le_add_right (Nat.add_le_add_right (Nat.add_le_add_right hsl 4) 0) 0) 0) (by decide))⟩)
      dsimp only [Pt.U, Pt.locs, Pt.cells, Pt.slots] at X52 l52 y52 z52 st52 hQ52
      subst l52 y52 z52
      obtain ⟨rfl, N52q, e52⟩ := hQ52
      have N52 := Fr.app N51 N52q
      refine Go.step (T' := T52) (f' := (mkF m 181 #[.val (.int p1), .val (.int p2), .val (.int p3), .val (.int p4), .val (.int p5), .val (.int (4 : Int32)), .val (.int x6), .val (.int x7), .val (.int x8), .val (.int x9), .val (.ref b36), .val (.int (maxI (maxI x6 x7) x8))] [(.int (maxI (maxI x6 x7) x8)), (.int (lon4 (0 : Int32) x6 (x6 + x7) ((x6 + x7) + x8)))])) (fun t kt => ?_) ?_
      · show Steps p.tables e below (T.setTop (mkF m 34 #[.val (.int p1), .val (.int p2), .val (.int p3), .val (.int p4), .val (.int p5), .val (.int (4 : Int32)), .val (.int x6), .val (.int x7), .val (.int x8), .val (.int x9), .unset, .unset] [])) _
        refine XS.iload X.here hx rfl (hb hby at_34) rfl ?_
        show Steps p.tables e below (T.setTop (mkF m 36 #[.val (.int p1), .val (.int p2), .val (.int p3), .val (.int p4), .val (.int p5), .val (.int (4 : Int32)), .val (.int x6), .val (.int x7), .val (.int x8), .val (.int x9), .unset, .unset] [(.int (4 : Int32))])) _
        refine st36 _ ?_
        show Steps p.tables e below (T36.setTop (mkF m 38 #[.val (.int p1), .val (.int p2), .val (.int p3), .val (.int p4), .val (.int p5), .val (.int (4 : Int32)), .val (.int x6), .val (.int x7), .val (.int x8), .val (.int x9), .unset, .unset] [(.ref b36)])) _
        refine XS.astore X36.here hx rfl (hb hby at_38) rfl rfl (l' := #[.val (.int p1), .val (.int p2), .val (.int p3), .val (.int p4), .val (.int p5), .val (.int (4 : Int32)), .val (.int x6), .val (.int x7), .val (.int x8), .val (.int x9), .val (.ref b36), .unset]) rfl ?_
        show Steps p.tables e below (T36.setTop (mkF m 40 #[.val (.int p1), .val (.int p2), .val (.int p3), .val (.int p4), .val (.int p5), .val (.int (4 : Int32)), .val (.int x6), .val (.int x7), .val (.int x8), .val (.int x9), .val (.ref b36), .unset] [])) _
        refine XS.iload X36.here hx rfl (hb hby at_40) rfl ?_
        show Steps p.tables e below (T36.setTop (mkF m 42 #[.val (.int p1), .val (.int p2), .val (.int p3), .val (.int p4), .val (.int p5), .val (.int (4 : Int32)), .val (.int x6), .val (.int x7), .val (.int x8), .val (.int x9), .val (.ref b36), .unset] [(.int (4 : Int32))])) _
        refine XS.ifNo X36.here hx rfl (hb hby at_42) rfl ((if0 _ _).trans (tlt (by decide : ((0 : Int32) < (4 : Int32)))).2.2.2) ?_
        show Steps p.tables e below (T36.setTop (mkF m 45 #[.val (.int p1), .val (.int p2), .val (.int p3), .val (.int p4), .val (.int p5), .val (.int (4 : Int32)), .val (.int x6), .val (.int x7), .val (.int x8), .val (.int x9), .val (.ref b36), .unset] [])) _
        refine XS.aload X36.here hx rfl (hb hby at_45) rfl rfl ?_
        show Steps p.tables e below (T36.setTop (mkF m 47 #[.val (.int p1), .val (.int p2), .val (.int p3), .val (.int p4), .val (.int p5), .val (.int (4 : Int32)), .val (.int x6), .val (.int x7), .val (.int x8), .val (.int x9), .val (.ref b36), .unset] [(.ref b36)])) _
        refine XS.iconst X36.here hx rfl (hb hby at_47) ?_
        show Steps p.tables e below (T36.setTop (mkF m 48 #[.val (.int p1), .val (.int p2), .val (.int p3), .val (.int p4), .val (.int p5), .val (.int (4 : Int32)), .val (.int x6), .val (.int x7), .val (.int x8), .val (.int x9), .val (.ref b36), .unset] [(.int (0 : Int32)), (.ref b36)])) _
        refine XS.iconst X36.here hx rfl (hb hby at_48) ?_
        show Steps p.tables e below (T36.setTop (mkF m 49 #[.val (.int p1), .val (.int p2), .val (.int p3), .val (.int p4), .val (.int p5), .val (.int (4 : Int32)), .val (.int x6), .val (.int x7), .val (.int x8), .val (.int x9), .val (.ref b36), .unset] [(.int (0 : Int32)), (.int (0 : Int32)), (.ref b36)])) _
        refine st39 _ ?_
        show Steps p.tables e below (T39.setTop (mkF m 50 #[.val (.int p1), .val (.int p2), .val (.int p3), .val (.int p4), .val (.int p5), .val (.int (4 : Int32)), .val (.int x6), .val (.int x7), .val (.int x8), .val (.int x9), .val (.ref b36), .unset] [])) _
        refine XS.iload X39.here hx rfl (hb hby at_50) rfl ?_
        show Steps p.tables e below (T39.setTop (mkF m 52 #[.val (.int p1), .val (.int p2), .val (.int p3), .val (.int p4), .val (.int p5), .val (.int (4 : Int32)), .val (.int x6), .val (.int x7), .val (.int x8), .val (.int x9), .val (.ref b36), .unset] [(.int (4 : Int32))])) _
        refine XS.iconst X39.here hx rfl (hb hby at_52) ?_
        show Steps p.tables e below (T39.setTop (mkF m 53 #[.val (.int p1), .val (.int p2), .val (.int p3), .val (.int p4), .val (.int p5), .val (.int (4 : Int32)), .val (.int x6), .val (.int x7), .val (.int x8), .val (.int x9), .val (.ref b36), .unset] [(.int (1 : Int32)), (.int (4 : Int32))])) _
        refine XS.icmpNo X39.here hx rfl (hb hby at_53) rfl (tlt (by decide : ((1 : Int32) < (4 : Int32)))).2.2.2 ?_
        show Steps p.tables e below (T39.setTop (mkF m 56 #[.val (.int p1), .val (.int p2), .val (.int p3), .val (.int p4), .val (.int p5), .val (.int (4 : Int32)), .val (.int x6), .val (.int x7), .val (.int x8), .val (.int x9), .val (.ref b36), .unset] [])) _
        refine XS.aload X39.here hx rfl (hb hby at_56) rfl rfl ?_
        show Steps p.tables e below (T39.setTop (mkF m 58 #[.val (.int p1), .val (.int p2), .val (.int p3), .val (.int p4), .val (.int p5), .val (.int (4 : Int32)), .val (.int x6), .val (.int x7), .val (.int x8), .val (.int x9), .val (.ref b36), .unset] [(.ref b36)])) _
        refine XS.iconst X39.here hx rfl (hb hby at_58) ?_
        show Steps p.tables e below (T39.setTop (mkF m 59 #[.val (.int p1), .val (.int p2), .val (.int p3), .val (.int p4), .val (.int p5), .val (.int (4 : Int32)), .val (.int x6), .val (.int x7), .val (.int x8), .val (.int x9), .val (.ref b36), .unset] [(.int (1 : Int32)), (.ref b36)])) _
        refine XS.iload X39.here hx rfl (hb hby at_59) rfl ?_
        show Steps p.tables e below (T39.setTop (mkF m 61 #[.val (.int p1), .val (.int p2), .val (.int p3), .val (.int p4), .val (.int p5), .val (.int (4 : Int32)), .val (.int x6), .val (.int x7), .val (.int x8), .val (.int x9), .val (.ref b36), .unset] [(.int x6), (.int (1 : Int32)), (.ref b36)])) _
        refine st42 _ ?_
        show Steps p.tables e below (T42.setTop (mkF m 62 #[.val (.int p1), .val (.int p2), .val (.int p3), .val (.int p4), .val (.int p5), .val (.int (4 : Int32)), .val (.int x6), .val (.int x7), .val (.int x8), .val (.int x9), .val (.ref b36), .unset] [])) _
        refine XS.iload X42.here hx rfl (hb hby at_62) rfl ?_
        show Steps p.tables e below (T42.setTop (mkF m 64 #[.val (.int p1), .val (.int p2), .val (.int p3), .val (.int p4), .val (.int p5), .val (.int (4 : Int32)), .val (.int x6), .val (.int x7), .val (.int x8), .val (.int x9), .val (.ref b36), .unset] [(.int (4 : Int32))])) _
        refine XS.iconst X42.here hx rfl (hb hby at_64) ?_
        show Steps p.tables e below (T42.setTop (mkF m 65 #[.val (.int p1), .val (.int p2), .val (.int p3), .val (.int p4), .val (.int p5), .val (.int (4 : Int32)), .val (.int x6), .val (.int x7), .val (.int x8), .val (.int x9), .val (.ref b36), .unset] [(.int (2 : Int32)), (.int (4 : Int32))])) _
        refine XS.icmpNo X42.here hx rfl (hb hby at_65) rfl (tlt (by decide : ((2 : Int32) < (4 : Int32)))).2.2.2 ?_
        show Steps p.tables e below (T42.setTop (mkF m 68 #[.val (.int p1), .val (.int p2), .val (.int p3), .val (.int p4), .val (.int p5), .val (.int (4 : Int32)), .val (.int x6), .val (.int x7), .val (.int x8), .val (.int x9), .val (.ref b36), .unset] [])) _
        refine XS.aload X42.here hx rfl (hb hby at_68) rfl rfl ?_
        show Steps p.tables e below (T42.setTop (mkF m 70 #[.val (.int p1), .val (.int p2), .val (.int p3), .val (.int p4), .val (.int p5), .val (.int (4 : Int32)), .val (.int x6), .val (.int x7), .val (.int x8), .val (.int x9), .val (.ref b36), .unset] [(.ref b36)])) _
        refine XS.iconst X42.here hx rfl (hb hby at_70) ?_
        show Steps p.tables e below (T42.setTop (mkF m 71 #[.val (.int p1), .val (.int p2), .val (.int p3), .val (.int p4), .val (.int p5), .val (.int (4 : Int32)), .val (.int x6), .val (.int x7), .val (.int x8), .val (.int x9), .val (.ref b36), .unset] [(.int (2 : Int32)), (.ref b36)])) _
        refine XS.iload X42.here hx rfl (hb hby at_71) rfl ?_
        show Steps p.tables e below (T42.setTop (mkF m 73 #[.val (.int p1), .val (.int p2), .val (.int p3), .val (.int p4), .val (.int p5), .val (.int (4 : Int32)), .val (.int x6), .val (.int x7), .val (.int x8), .val (.int x9), .val (.ref b36), .unset] [(.int x6), (.int (2 : Int32)), (.ref b36)])) _
        refine XS.iload X42.here hx rfl (hb hby at_73) rfl ?_
        show Steps p.tables e below (T42.setTop (mkF m 75 #[.val (.int p1), .val (.int p2), .val (.int p3), .val (.int p4), .val (.int p5), .val (.int (4 : Int32)), .val (.int x6), .val (.int x7), .val (.int x8), .val (.int x9), .val (.ref b36), .unset] [(.int x7), (.int x6), (.int (2 : Int32)), (.ref b36)])) _
        refine XS.iadd X42.here hx rfl (hb hby at_75) rfl ?_
        show Steps p.tables e below (T42.setTop (mkF m 76 #[.val (.int p1), .val (.int p2), .val (.int p3), .val (.int p4), .val (.int p5), .val (.int (4 : Int32)), .val (.int x6), .val (.int x7), .val (.int x8), .val (.int x9), .val (.ref b36), .unset] [(.int (x6 + x7)), (.int (2 : Int32)), (.ref b36)])) _
        refine st45 _ ?_
        show Steps p.tables e below (T45.setTop (mkF m 77 #[.val (.int p1), .val (.int p2), .val (.int p3), .val (.int p4), .val (.int p5), .val (.int (4 : Int32)), .val (.int x6), .val (.int x7), .val (.int x8), .val (.int x9), .val (.ref b36), .unset] [])) _
        refine XS.iload X45.here hx rfl (hb hby at_77) rfl ?_
        show Steps p.tables e below (T45.setTop (mkF m 79 #[.val (.int p1), .val (.int p2), .val (.int p3), .val (.int p4), .val (.int p5), .val (.int (4 : Int32)), .val (.int x6), .val (.int x7), .val (.int x8), .val (.int x9), .val (.ref b36), .unset] [(.int (4 : Int32))])) _
        refine XS.iconst X45.here hx rfl (hb hby at_79) ?_
        show Steps p.tables e below (T45.setTop (mkF m 80 #[.val (.int p1), .val (.int p2), .val (.int p3), .val (.int p4), .val (.int p5), .val (.int (4 : Int32)), .val (.int x6), .val (.int x7), .val (.int x8), .val (.int x9), .val (.ref b36), .unset] [(.int (3 : Int32)), (.int (4 : Int32))])) _
        refine XS.icmpNo X45.here hx rfl (hb hby at_80) rfl (tlt (by decide : ((3 : Int32) < (4 : Int32)))).2.2.2 ?_
        show Steps p.tables e below (T45.setTop (mkF m 83 #[.val (.int p1), .val (.int p2), .val (.int p3), .val (.int p4), .val (.int p5), .val (.int (4 : Int32)), .val (.int x6), .val (.int x7), .val (.int x8), .val (.int x9), .val (.ref b36), .unset] [])) _
        refine XS.aload X45.here hx rfl (hb hby at_83) rfl rfl ?_
        show Steps p.tables e below (T45.setTop (mkF m 85 #[.val (.int p1), .val (.int p2), .val (.int p3), .val (.int p4), .val (.int p5), .val (.int (4 : Int32)), .val (.int x6), .val (.int x7), .val (.int x8), .val (.int x9), .val (.ref b36), .unset] [(.ref b36)])) _
        refine XS.iconst X45.here hx rfl (hb hby at_85) ?_
        show Steps p.tables e below (T45.setTop (mkF m 86 #[.val (.int p1), .val (.int p2), .val (.int p3), .val (.int p4), .val (.int p5), .val (.int (4 : Int32)), .val (.int x6), .val (.int x7), .val (.int x8), .val (.int x9), .val (.ref b36), .unset] [(.int (3 : Int32)), (.ref b36)])) _
        refine XS.iload X45.here hx rfl (hb hby at_86) rfl ?_
        show Steps p.tables e below (T45.setTop (mkF m 88 #[.val (.int p1), .val (.int p2), .val (.int p3), .val (.int p4), .val (.int p5), .val (.int (4 : Int32)), .val (.int x6), .val (.int x7), .val (.int x8), .val (.int x9), .val (.ref b36), .unset] [(.int x6), (.int (3 : Int32)), (.ref b36)])) _
        refine XS.iload X45.here hx rfl (hb hby at_88) rfl ?_
        show Steps p.tables e below (T45.setTop (mkF m 90 #[.val (.int p1), .val (.int p2), .val (.int p3), .val (.int p4), .val (.int p5), .val (.int (4 : Int32)), .val (.int x6), .val (.int x7), .val (.int x8), .val (.int x9), .val (.ref b36), .unset] [(.int x7), (.int x6), (.int (3 : Int32)), (.ref b36)])) _
        refine XS.iadd X45.here hx rfl (hb hby at_90) rfl ?_
        show Steps p.tables e below (T45.setTop (mkF m 91 #[.val (.int p1), .val (.int p2), .val (.int p3), .val (.int p4), .val (.int p5), .val (.int (4 : Int32)), .val (.int x6), .val (.int x7), .val (.int x8), .val (.int x9), .val (.ref b36), .unset] [(.int (x6 + x7)), (.int (3 : Int32)), (.ref b36)])) _
        refine XS.iload X45.here hx rfl (hb hby at_91) rfl ?_
        show Steps p.tables e below (T45.setTop (mkF m 93 #[.val (.int p1), .val (.int p2), .val (.int p3), .val (.int p4), .val (.int p5), .val (.int (4 : Int32)), .val (.int x6), .val (.int x7), .val (.int x8), .val (.int x9), .val (.ref b36), .unset] [(.int x8), (.int (x6 + x7)), (.int (3 : Int32)), (.ref b36)])) _
        refine XS.iadd X45.here hx rfl (hb hby at_93) rfl ?_
        show Steps p.tables e below (T45.setTop (mkF m 94 #[.val (.int p1), .val (.int p2), .val (.int p3), .val (.int p4), .val (.int p5), .val (.int (4 : Int32)), .val (.int x6), .val (.int x7), .val (.int x8), .val (.int x9), .val (.ref b36), .unset] [(.int ((x6 + x7) + x8)), (.int (3 : Int32)), (.ref b36)])) _
        refine st48 _ ?_
        show Steps p.tables e below (T48.setTop (mkF m 95 #[.val (.int p1), .val (.int p2), .val (.int p3), .val (.int p4), .val (.int p5), .val (.int (4 : Int32)), .val (.int x6), .val (.int x7), .val (.int x8), .val (.int x9), .val (.ref b36), .unset] [])) _
        refine XS.iload X48.here hx rfl (hb hby at_95) rfl ?_
        show Steps p.tables e below (T48.setTop (mkF m 97 #[.val (.int p1), .val (.int p2), .val (.int p3), .val (.int p4), .val (.int p5), .val (.int (4 : Int32)), .val (.int x6), .val (.int x7), .val (.int x8), .val (.int x9), .val (.ref b36), .unset] [(.int (4 : Int32))])) _
        refine XS.iconst X48.here hx rfl (hb hby at_97) ?_
        show Steps p.tables e below (T48.setTop (mkF m 98 #[.val (.int p1), .val (.int p2), .val (.int p3), .val (.int p4), .val (.int p5), .val (.int (4 : Int32)), .val (.int x6), .val (.int x7), .val (.int x8), .val (.int x9), .val (.ref b36), .unset] [(.int (4 : Int32)), (.int (4 : Int32))])) _
        refine XS.icmpYes X48.here hx rfl (pc0 := 98) (pc' := 116) rfl (hb hby at_98) rfl (flt (by decide : ¬ ((4 : Int32) < (4 : Int32)))).2.2.2 (by decide) (by decide) ?_
        show Steps p.tables e below (T48.setTop (mkF m 116 #[.val (.int p1), .val (.int p2), .val (.int p3), .val (.int p4), .val (.int p5), .val (.int (4 : Int32)), .val (.int x6), .val (.int x7), .val (.int x8), .val (.int x9), .val (.ref b36), .unset] [])) _
        refine XS.iconst X48.here hx rfl (hb hby at_116) ?_
        show Steps p.tables e below (T48.setTop (mkF m 117 #[.val (.int p1), .val (.int p2), .val (.int p3), .val (.int p4), .val (.int p5), .val (.int (4 : Int32)), .val (.int x6), .val (.int x7), .val (.int x8), .val (.int x9), .val (.ref b36), .unset] [(.int (0 : Int32))])) _
        refine XS.istore X48.here hx rfl (hb hby at_117) rfl (l' := #[.val (.int p1), .val (.int p2), .val (.int p3), .val (.int p4), .val (.int p5), .val (.int (4 : Int32)), .val (.int x6), .val (.int x7), .val (.int x8), .val (.int x9), .val (.ref b36), .val (.int (0 : Int32))]) rfl ?_
        show Steps p.tables e below (T48.setTop (mkF m 119 #[.val (.int p1), .val (.int p2), .val (.int p3), .val (.int p4), .val (.int p5), .val (.int (4 : Int32)), .val (.int x6), .val (.int x7), .val (.int x8), .val (.int x9), .val (.ref b36), .val (.int (0 : Int32))] [])) _
        refine XS.iload X48.here hx rfl (hb hby at_119) rfl ?_
        show Steps p.tables e below (T48.setTop (mkF m 121 #[.val (.int p1), .val (.int p2), .val (.int p3), .val (.int p4), .val (.int p5), .val (.int (4 : Int32)), .val (.int x6), .val (.int x7), .val (.int x8), .val (.int x9), .val (.ref b36), .val (.int (0 : Int32))] [(.int (4 : Int32))])) _
        refine XS.iconst X48.here hx rfl (hb hby at_121) ?_
        show Steps p.tables e below (T48.setTop (mkF m 122 #[.val (.int p1), .val (.int p2), .val (.int p3), .val (.int p4), .val (.int p5), .val (.int (4 : Int32)), .val (.int x6), .val (.int x7), .val (.int x8), .val (.int x9), .val (.ref b36), .val (.int (0 : Int32))] [(.int (1 : Int32)), (.int (4 : Int32))])) _
        refine XS.icmpNo X48.here hx rfl (hb hby at_122) rfl (tlt (by decide : ((1 : Int32) < (4 : Int32)))).2.2.2 ?_
        show Steps p.tables e below (T48.setTop (mkF m 125 #[.val (.int p1), .val (.int p2), .val (.int p3), .val (.int p4), .val (.int p5), .val (.int (4 : Int32)), .val (.int x6), .val (.int x7), .val (.int x8), .val (.int x9), .val (.ref b36), .val (.int (0 : Int32))] [])) _
        refine XS.iload X48.here hx rfl (hb hby at_125) rfl ?_
        show Steps p.tables e below (T48.setTop (mkF m 127 #[.val (.int p1), .val (.int p2), .val (.int p3), .val (.int p4), .val (.int p5), .val (.int (4 : Int32)), .val (.int x6), .val (.int x7), .val (.int x8), .val (.int x9), .val (.ref b36), .val (.int (0 : Int32))] [(.int x6)])) _
        refine XS.istore X48.here hx rfl (hb hby at_127) rfl (l' := #[.val (.int p1), .val (.int p2), .val (.int p3), .val (.int p4), .val (.int p5), .val (.int (4 : Int32)), .val (.int x6), .val (.int x7), .val (.int x8), .val (.int x9), .val (.ref b36), .val (.int x6)]) rfl ?_
        show Steps p.tables e below (T48.setTop (mkF m 129 #[.val (.int p1), .val (.int p2), .val (.int p3), .val (.int p4), .val (.int p5), .val (.int (4 : Int32)), .val (.int x6), .val (.int x7), .val (.int x8), .val (.int x9), .val (.ref b36), .val (.int x6)] [])) _
        refine XS.iload X48.here hx rfl (hb hby at_129) rfl ?_
        show Steps p.tables e below (T48.setTop (mkF m 131 #[.val (.int p1), .val (.int p2), .val (.int p3), .val (.int p4), .val (.int p5), .val (.int (4 : Int32)), .val (.int x6), .val (.int x7), .val (.int x8), .val (.int x9), .val (.ref b36), .val (.int x6)] [(.int (4 : Int32))])) _
        refine XS.iconst X48.here hx rfl (hb hby at_131) ?_
        show Steps p.tables e below (T48.setTop (mkF m 132 #[.val (.int p1), .val (.int p2), .val (.int p3), .val (.int p4), .val (.int p5), .val (.int (4 : Int32)), .val (.int x6), .val (.int x7), .val (.int x8), .val (.int x9), .val (.ref b36), .val (.int x6)] [(.int (2 : Int32)), (.int (4 : Int32))])) _
        refine XS.icmpNo X48.here hx rfl (hb hby at_132) rfl (tlt (by decide : ((2 : Int32) < (4 : Int32)))).2.2.2 ?_
        show Steps p.tables e below (T48.setTop (mkF m 135 #[.val (.int p1), .val (.int p2), .val (.int p3), .val (.int p4), .val (.int p5), .val (.int (4 : Int32)), .val (.int x6), .val (.int x7), .val (.int x8), .val (.int x9), .val (.ref b36), .val (.int x6)] [])) _
        refine XS.iload X48.here hx rfl (hb hby at_135) rfl ?_
        show Steps p.tables e below (T48.setTop (mkF m 137 #[.val (.int p1), .val (.int p2), .val (.int p3), .val (.int p4), .val (.int p5), .val (.int (4 : Int32)), .val (.int x6), .val (.int x7), .val (.int x8), .val (.int x9), .val (.ref b36), .val (.int x6)] [(.int x6)])) _
        refine XS.iload X48.here hx rfl (hb hby at_137) rfl ?_
        show Steps p.tables e below (T48.setTop (mkF m 139 #[.val (.int p1), .val (.int p2), .val (.int p3), .val (.int p4), .val (.int p5), .val (.int (4 : Int32)), .val (.int x6), .val (.int x7), .val (.int x8), .val (.int x9), .val (.ref b36), .val (.int x6)] [(.int x7), (.int x6)])) _
        refine st50 _ ?_
        show Steps p.tables e below (T50.setTop (mkF m 142 #[.val (.int p1), .val (.int p2), .val (.int p3), .val (.int p4), .val (.int p5), .val (.int (4 : Int32)), .val (.int x6), .val (.int x7), .val (.int x8), .val (.int x9), .val (.ref b36), .val (.int x6)] [(.int (maxI x6 x7))])) _
        refine XS.istore X50.here hx rfl (hb hby at_142) rfl (l' := #[.val (.int p1), .val (.int p2), .val (.int p3), .val (.int p4), .val (.int p5), .val (.int (4 : Int32)), .val (.int x6), .val (.int x7), .val (.int x8), .val (.int x9), .val (.ref b36), .val (.int (maxI x6 x7))]) rfl ?_
        show Steps p.tables e below (T50.setTop (mkF m 144 #[.val (.int p1), .val (.int p2), .val (.int p3), .val (.int p4), .val (.int p5), .val (.int (4 : Int32)), .val (.int x6), .val (.int x7), .val (.int x8), .val (.int x9), .val (.ref b36), .val (.int (maxI x6 x7))] [])) _
        refine XS.iload X50.here hx rfl (hb hby at_144) rfl ?_
        show Steps p.tables e below (T50.setTop (mkF m 146 #[.val (.int p1), .val (.int p2), .val (.int p3), .val (.int p4), .val (.int p5), .val (.int (4 : Int32)), .val (.int x6), .val (.int x7), .val (.int x8), .val (.int x9), .val (.ref b36), .val (.int (maxI x6 x7))] [(.int (4 : Int32))])) _
        refine XS.iconst X50.here hx rfl (hb hby at_146) ?_
        show Steps p.tables e below (T50.setTop (mkF m 147 #[.val (.int p1), .val (.int p2), .val (.int p3), .val (.int p4), .val (.int p5), .val (.int (4 : Int32)), .val (.int x6), .val (.int x7), .val (.int x8), .val (.int x9), .val (.ref b36), .val (.int (maxI x6 x7))] [(.int (3 : Int32)), (.int (4 : Int32))])) _
        refine XS.icmpNo X50.here hx rfl (hb hby at_147) rfl (tlt (by decide : ((3 : Int32) < (4 : Int32)))).2.2.2 ?_
        show Steps p.tables e below (T50.setTop (mkF m 150 #[.val (.int p1), .val (.int p2), .val (.int p3), .val (.int p4), .val (.int p5), .val (.int (4 : Int32)), .val (.int x6), .val (.int x7), .val (.int x8), .val (.int x9), .val (.ref b36), .val (.int (maxI x6 x7))] [])) _
        refine XS.iload X50.here hx rfl (hb hby at_150) rfl ?_
        show Steps p.tables e below (T50.setTop (mkF m 152 #[.val (.int p1), .val (.int p2), .val (.int p3), .val (.int p4), .val (.int p5), .val (.int (4 : Int32)), .val (.int x6), .val (.int x7), .val (.int x8), .val (.int x9), .val (.ref b36), .val (.int (maxI x6 x7))] [(.int (maxI x6 x7))])) _
        refine XS.iload X50.here hx rfl (hb hby at_152) rfl ?_
        show Steps p.tables e below (T50.setTop (mkF m 154 #[.val (.int p1), .val (.int p2), .val (.int p3), .val (.int p4), .val (.int p5), .val (.int (4 : Int32)), .val (.int x6), .val (.int x7), .val (.int x8), .val (.int x9), .val (.ref b36), .val (.int (maxI x6 x7))] [(.int x8), (.int (maxI x6 x7))])) _
        refine st51 _ ?_
        show Steps p.tables e below (T51.setTop (mkF m 157 #[.val (.int p1), .val (.int p2), .val (.int p3), .val (.int p4), .val (.int p5), .val (.int (4 : Int32)), .val (.int x6), .val (.int x7), .val (.int x8), .val (.int x9), .val (.ref b36), .val (.int (maxI x6 x7))] [(.int (maxI (maxI x6 x7) x8))])) _
        refine XS.istore X51.here hx rfl (hb hby at_157) rfl (l' := #[.val (.int p1), .val (.int p2), .val (.int p3), .val (.int p4), .val (.int p5), .val (.int (4 : Int32)), .val (.int x6), .val (.int x7), .val (.int x8), .val (.int x9), .val (.ref b36), .val (.int (maxI (maxI x6 x7) x8))]) rfl ?_
        show Steps p.tables e below (T51.setTop (mkF m 159 #[.val (.int p1), .val (.int p2), .val (.int p3), .val (.int p4), .val (.int p5), .val (.int (4 : Int32)), .val (.int x6), .val (.int x7), .val (.int x8), .val (.int x9), .val (.ref b36), .val (.int (maxI (maxI x6 x7) x8))] [])) _
        refine XS.iload X51.here hx rfl (hb hby at_159) rfl ?_
        show Steps p.tables e below (T51.setTop (mkF m 161 #[.val (.int p1), .val (.int p2), .val (.int p3), .val (.int p4), .val (.int p5), .val (.int (4 : Int32)), .val (.int x6), .val (.int x7), .val (.int x8), .val (.int x9), .val (.ref b36), .val (.int (maxI (maxI x6 x7) x8))] [(.int (4 : Int32))])) _
        refine XS.iconst X51.here hx rfl (hb hby at_161) ?_
        show Steps p.tables e below (T51.setTop (mkF m 162 #[.val (.int p1), .val (.int p2), .val (.int p3), .val (.int p4), .val (.int p5), .val (.int (4 : Int32)), .val (.int x6), .val (.int x7), .val (.int x8), .val (.int x9), .val (.ref b36), .val (.int (maxI (maxI x6 x7) x8))] [(.int (4 : Int32)), (.int (4 : Int32))])) _
        refine XS.icmpYes X51.here hx rfl (pc0 := 162) (pc' := 174) rfl (hb hby at_162) rfl (flt (by decide : ¬ ((4 : Int32) < (4 : Int32)))).2.2.2 (by decide) (by decide) ?_
        show Steps p.tables e below (T51.setTop (mkF m 174 #[.val (.int p1), .val (.int p2), .val (.int p3), .val (.int p4), .val (.int p5), .val (.int (4 : Int32)), .val (.int x6), .val (.int x7), .val (.int x8), .val (.int x9), .val (.ref b36), .val (.int (maxI (maxI x6 x7) x8))] [])) _
        refine XS.aload X51.here hx rfl (hb hby at_174) rfl rfl ?_
        show Steps p.tables e below (T51.setTop (mkF m 176 #[.val (.int p1), .val (.int p2), .val (.int p3), .val (.int p4), .val (.int p5), .val (.int (4 : Int32)), .val (.int x6), .val (.int x7), .val (.int x8), .val (.int x9), .val (.ref b36), .val (.int (maxI (maxI x6 x7) x8))] [(.ref b36)])) _
        refine st52 _ ?_
        show Steps p.tables e below (T52.setTop (mkF m 179 #[.val (.int p1), .val (.int p2), .val (.int p3), .val (.int p4), .val (.int p5), .val (.int (4 : Int32)), .val (.int x6), .val (.int x7), .val (.int x8), .val (.int x9), .val (.ref b36), .val (.int (maxI (maxI x6 x7) x8))] [(.int (lon4 (0 : Int32) x6 (x6 + x7) ((x6 + x7) + x8)))])) _
        refine XS.iload X52.here hx rfl (hb hby at_179) rfl ?_
        exact kt
      have hd53 : (lon4 (0 : Int32) x6 (x6 + x7) ((x6 + x7) + x8)) = (maxI (maxI x6 x7) x8) := by unfold lon4; rw [own_s0, own_m0 h6, own_sc, own_sc]
      refine Go.step (T' := T52) (f' := (mkF m 189 #[.val (.int p1), .val (.int p2), .val (.int p3), .val (.int p4), .val (.int p5), .val (.int (4 : Int32)), .val (.int x6), .val (.int x7), .val (.int x8), .val (.int x9), .val (.ref b36), .val (.int (maxI (maxI x6 x7) x8))] [(.int (1 : Int32))])) (fun t kt => ?_) ?_
      · show Steps p.tables e below (T52.setTop (mkF m 181 #[.val (.int p1), .val (.int p2), .val (.int p3), .val (.int p4), .val (.int p5), .val (.int (4 : Int32)), .val (.int x6), .val (.int x7), .val (.int x8), .val (.int x9), .val (.ref b36), .val (.int (maxI (maxI x6 x7) x8))] [(.int (maxI (maxI x6 x7) x8)), (.int (lon4 (0 : Int32) x6 (x6 + x7) ((x6 + x7) + x8)))])) _
        refine XS.icmpNo X52.here hx rfl (hb hby at_181) rfl (teq hd53).2 ?_
        show Steps p.tables e below (T52.setTop (mkF m 184 #[.val (.int p1), .val (.int p2), .val (.int p3), .val (.int p4), .val (.int p5), .val (.int (4 : Int32)), .val (.int x6), .val (.int x7), .val (.int x8), .val (.int x9), .val (.ref b36), .val (.int (maxI (maxI x6 x7) x8))] [])) _
        refine XS.iconst X52.here hx rfl (hb hby at_184) ?_
        show Steps p.tables e below (T52.setTop (mkF m 185 #[.val (.int p1), .val (.int p2), .val (.int p3), .val (.int p4), .val (.int p5), .val (.int (4 : Int32)), .val (.int x6), .val (.int x7), .val (.int x8), .val (.int x9), .val (.ref b36), .val (.int (maxI (maxI x6 x7) x8))] [(.int (1 : Int32))])) _
        refine XS.goto X52.here hx rfl (pc0 := 185) (pc' := 189) rfl (hb hby at_185) (by decide) (by decide) ?_
        exact kt
      refine Go.fin X52 (v := some (.int (1 : Int32))) (fun h => by rw [Bd.returns] at h; cases h) Bd.notSynchronized ?_ (Nat.le_trans (Nat.add_le_add_right (Nat.add_le_add_right (Nat.add_le_add_right (Nat.add_le_add_right hcl 1) 0) 0) 0) (by decide)) (Nat.le_trans (Nat.add_le_add_right (Nat.add_le_add_right (Nat.add_le_add_right (Nat.add_le_add_right hsl 4) 0) 0) 0) (by decide)) (fun fs hr => retN X52 hx (t := .boolean) Bd.returns (by simp) (hb hby at_189) hr)
      · show Q0 Z p1 p2 p3 p4 p5 h0 n0 _ T52.heap _
        exact ⟨rfl, N52⟩
    · subst hs
      obtain ⟨T54, h54, X54, e54, E54, A54, st54⟩ := newI X hx hZ (hw _ (List.mem_of_getElem? (i := 2) rfl)) eT (g := (mkF m 36 #[.val (.int p1), .val (.int p2), .val (.int p3), .val (.int p4), .val (.int p5), .val (.int (5 : Int32)), .val (.int x6), .val (.int x7), .val (.int x8), .val (.int x9), .unset, .unset] [(.int (5 : Int32))])) rfl (hb hby at_36) rfl (by decide) (cap := 5) (by decide) (by decide) (Nat.le_trans (Nat.add_le_add_right hcl 1) (by decide)) (Nat.le_trans (Nat.add_le_add_right hsl 5) (by decide))
      obtain ⟨b54, g54⟩ : ∃ z, z = h.size := ⟨_, rfl⟩
      rw [← g54] at A54 st54
      have g_b54 : n0 ≤ b54 := Nat.le_trans Zh (Nat.le_of_eq g54.symm)
      have sz_b54 : h0.size ≤ b54 := Nat.le_trans K.1 (Nat.le_of_eq g54.symm)
      have K54 : Keep h0 h54 [] := Keep.ext K E54
      have Z54 : n0 ≤ h54.size := Nat.le_trans Z0 K54.1
      have G55 : VA Z h54 b54 .int ([(0 : Int32), (0 : Int32), (0 : Int32), (0 : Int32), (0 : Int32)].map Value.int) := A54
      have ix56 : 0 ≤ ((0 : Int32)).toInt ∧ ((0 : Int32)).toInt < (([(0 : Int32), (0 : Int32), (0 : Int32), (0 : Int32), (0 : Int32)]).length : Int) := by constructor <;> first | decide | (simp; done)
      obtain ⟨T57, h57, X57, e57, W57, V57, st57⟩ := putI X54 hx hZ e54 G55 ix56.1 ix56.2 (g := (mkF m 49 #[.val (.int p1), .val (.int p2), .val (.int p3), .val (.int p4), .val (.int p5), .val (.int (5 : Int32)), .val (.int x6), .val (.int x7), .val (.int x8), .val (.int x9), .val (.ref b54), .unset] [(.int (0 : Int32)), (.int (0 : Int32)), (.ref b54)])) rfl rfl (hb hby at_49)
      have G58 : VA Z h57 b54 .int ([(0 : Int32), (0 : Int32), (0 : Int32), (0 : Int32), (0 : Int32)].map Value.int) := V57
      have N57 := Fr.snoc X57 N g_b54
      have K57 : Keep h0 h57 [] := Keep.wr K54 W57 (Or.inr sz_b54)
      have Z57 : n0 ≤ h57.size := Nat.le_trans Z0 K57.1
      have ix59 : 0 ≤ ((1 : Int32)).toInt ∧ ((1 : Int32)).toInt < (([(0 : Int32), (0 : Int32), (0 : Int32), (0 : Int32), (0 : Int32)]).length : Int) := by constructor <;> first | decide | (simp; done)
      obtain ⟨T60, h60, X60, e60, W60, V60, st60⟩ := putI X57 hx hZ e57 G58 ix59.1 ix59.2 (g := (mkF m 61 #[.val (.int p1), .val (.int p2), .val (.int p3), .val (.int p4), .val (.int p5), .val (.int (5 : Int32)), .val (.int x6), .val (.int x7), .val (.int x8), .val (.int x9), .val (.ref b54), .unset] [(.int x6), (.int (1 : Int32)), (.ref b54)])) rfl rfl (hb hby at_61)
      have G61 : VA Z h60 b54 .int ([(0 : Int32), x6, (0 : Int32), (0 : Int32), (0 : Int32)].map Value.int) := V60
      have N60 := Fr.snoc X60 N57 g_b54
      have K60 : Keep h0 h60 [] := Keep.wr K57 W60 (Or.inr sz_b54)
      have Z60 : n0 ≤ h60.size := Nat.le_trans Z0 K60.1
      have ix62 : 0 ≤ ((2 : Int32)).toInt ∧ ((2 : Int32)).toInt < (([(0 : Int32), x6, (0 : Int32), (0 : Int32), (0 : Int32)]).length : Int) := by constructor <;> first | decide | (simp; done)
      obtain ⟨T63, h63, X63, e63, W63, V63, st63⟩ := putI X60 hx hZ e60 G61 ix62.1 ix62.2 (g := (mkF m 76 #[.val (.int p1), .val (.int p2), .val (.int p3), .val (.int p4), .val (.int p5), .val (.int (5 : Int32)), .val (.int x6), .val (.int x7), .val (.int x8), .val (.int x9), .val (.ref b54), .unset] [(.int (x6 + x7)), (.int (2 : Int32)), (.ref b54)])) rfl rfl (hb hby at_76)
      have G64 : VA Z h63 b54 .int ([(0 : Int32), x6, (x6 + x7), (0 : Int32), (0 : Int32)].map Value.int) := V63
      have N63 := Fr.snoc X63 N60 g_b54
      have K63 : Keep h0 h63 [] := Keep.wr K60 W63 (Or.inr sz_b54)
      have Z63 : n0 ≤ h63.size := Nat.le_trans Z0 K63.1
      have ix65 : 0 ≤ ((3 : Int32)).toInt ∧ ((3 : Int32)).toInt < (([(0 : Int32), x6, (x6 + x7), (0 : Int32), (0 : Int32)]).length : Int) := by constructor <;> first | decide | (simp; done)
      obtain ⟨T66, h66, X66, e66, W66, V66, st66⟩ := putI X63 hx hZ e63 G64 ix65.1 ix65.2 (g := (mkF m 94 #[.val (.int p1), .val (.int p2), .val (.int p3), .val (.int p4), .val (.int p5), .val (.int (5 : Int32)), .val (.int x6), .val (.int x7), .val (.int x8), .val (.int x9), .val (.ref b54), .unset] [(.int ((x6 + x7) + x8)), (.int (3 : Int32)), (.ref b54)])) rfl rfl (hb hby at_94)
      have G67 : VA Z h66 b54 .int ([(0 : Int32), x6, (x6 + x7), ((x6 + x7) + x8), (0 : Int32)].map Value.int) := V66
      have N66 := Fr.snoc X66 N63 g_b54
      have K66 : Keep h0 h66 [] := Keep.wr K63 W66 (Or.inr sz_b54)
      have Z66 : n0 ≤ h66.size := Nat.le_trans Z0 K66.1
      have ix68 : 0 ≤ ((4 : Int32)).toInt ∧ ((4 : Int32)).toInt < (([(0 : Int32), x6, (x6 + x7), ((x6 + x7) + x8), (0 : Int32)]).length : Int) := by constructor <;> first | decide | (simp; done)
      obtain ⟨T69, h69, X69, e69, W69, V69, st69⟩ := putI X66 hx hZ e66 G67 ix68.1 ix68.2 (g := (mkF m 115 #[.val (.int p1), .val (.int p2), .val (.int p3), .val (.int p4), .val (.int p5), .val (.int (5 : Int32)), .val (.int x6), .val (.int x7), .val (.int x8), .val (.int x9), .val (.ref b54), .unset] [(.int (((x6 + x7) + x8) + x9)), (.int (4 : Int32)), (.ref b54)])) rfl rfl (hb hby at_115)
      have G70 : VA Z h69 b54 .int ([(0 : Int32), x6, (x6 + x7), ((x6 + x7) + x8), (((x6 + x7) + x8) + x9)].map Value.int) := V69
      have N69 := Fr.snoc X69 N66 g_b54
      have K69 : Keep h0 h69 [] := Keep.wr K66 W69 (Or.inr sz_b54)
      have Z69 : n0 ≤ h69.size := Nat.le_trans Z0 K69.1
      obtain ⟨_, _, ⟨T71, L71, k71, n71⟩, -, X71, ⟨Lc71, hQ71, l71, y71, z71⟩, st71⟩ := Jvm.LawKit.callS X69 hx (y := (⟨"java/lang/Math", "max", "(II)I"⟩ : MethodName)) hown (mvT hZ (hw _ (List.mem_of_getElem? (i := 7) rfl))) (mvT hZ (hw _ (List.mem_of_getElem? (i := 8) rfl))) (mvT hZ (hw _ (List.mem_of_getElem? (i := 9) rfl))) (mvT hZ (hw _ (List.mem_of_getElem? (i := 10) rfl))) (by decide) (backOf (W := 0) (rm_maxI l Z a0 hw [] x6 x7  h69 n0 Z69 ) hZ (hw _ (List.mem_of_getElem? (i := 10) rfl)) (hw _ (List.mem_of_getElem? (i := 9) rfl)) (by decide) (by decide)) (g := (mkF m 139 #[.val (.int p1), .val (.int p2), .val (.int p3), .val (.int p4), .val (.int p5), .val (.int (5 : Int32)), .val (.int x6), .val (.int x7), .val (.int x8), .val (.int x9), .val (.ref b54), .val (.int x6)] [(.int x7), (.int x6)])) rfl (by rw [hml]; rfl) (argsL := [(.int x6), (.int x7)]) (rest := []) (lenOf pd_0 rfl) rfl (by show 2 * 0 + _ ≤ _; exact Nat.le_of_eq rfl) (hb hby at_139) (fun _ _ => ⟨rfl, e69, (Nat.le_trans (Nat.add_le_add_right (Nat.add_le_add_right hcl 1) 0) (by decide)), (Nat.le_trans (Nat.add_le_add_right (Nat.add_le_add_right hsl 5) 0) (by decide))⟩)
      dsimp only [Pt.U, Pt.locs, Pt.cells, Pt.slots] at X71 l71 y71 z71 st71 hQ71
      subst l71 y71 z71
      obtain ⟨rfl, N71q, e71⟩ := hQ71
      have N71 := Fr.app N69 N71q
      obtain ⟨_, _, ⟨T72, L72, k72, n72⟩, -, X72, ⟨Lc72, hQ72, l72, y72, z72⟩, st72⟩ := Jvm.LawKit.callS X71 hx (y := (⟨"java/lang/Math", "max", "(II)I"⟩ : MethodName)) hown (mvT hZ (hw _ (List.mem_of_getElem? (i := 7) rfl))) (mvT hZ (hw _ (List.mem_of_getElem? (i := 8) rfl))) (mvT hZ (hw _ (List.mem_of_getElem? (i := 9) rfl))) (mvT hZ (hw _ (List.mem_of_getElem? (i := 10) rfl))) (by decide) (backOf (W := 0) (rm_maxI l Z a0 hw [] (maxI x6 x7) x8  h69 n0 Z69 ) hZ (hw _ (List.mem_of_getElem? (i := 10) rfl)) (hw _ (List.mem_of_getElem? (i := 9) rfl)) (by decide) (by decide)) (g := (mkF m 154 #[.val (.int p1), .val (.int p2), .val (.int p3), .val (.int p4), .val (.int p5), .val (.int (5 : Int32)), .val (.int x6), .val (.int x7), .val (.int x8), .val (.int x9), .val (.ref b54), .val (.int (maxI x6 x7))] [(.int x8), (.int (maxI x6 x7))])) rfl (by rw [hml]; rfl) (argsL := [(.int (maxI x6 x7)), (.int x8)]) (rest := []) (lenOf pd_0 rfl) rfl (by show 2 * 0 + _ ≤ _; exact Nat.le_of_eq rfl) (hb hby at_154) (fun _ _ => ⟨rfl, e71, (Nat.le_trans (Nat.add_le_add_right (Nat.add_le_add_right (Nat.add_le_add_right hcl 1) 0) 0) (by decide)), (Nat.le_trans (Nat.add_le_add_right (Nat.add_le_add_right (Nat.add_le_add_right hsl 5) 0) 0) (by decide))⟩)
      dsimp only [Pt.U, Pt.locs, Pt.cells, Pt.slots] at X72 l72 y72 z72 st72 hQ72
      subst l72 y72 z72
      obtain ⟨rfl, N72q, e72⟩ := hQ72
      have N72 := Fr.app N71 N72q
      obtain ⟨_, _, ⟨T73, L73, k73, n73⟩, -, X73, ⟨Lc73, hQ73, l73, y73, z73⟩, st73⟩ := Jvm.LawKit.callS X72 hx (y := (⟨"java/lang/Math", "max", "(II)I"⟩ : MethodName)) hown (mvT hZ (hw _ (List.mem_of_getElem? (i := 7) rfl))) (mvT hZ (hw _ (List.mem_of_getElem? (i := 8) rfl))) (mvT hZ (hw _ (List.mem_of_getElem? (i := 9) rfl))) (mvT hZ (hw _ (List.mem_of_getElem? (i := 10) rfl))) (by decide) (backOf (W := 0) (rm_maxI l Z a0 hw [] (maxI (maxI x6 x7) x8) x9  h69 n0 Z69 ) hZ (hw _ (List.mem_of_getElem? (i := 10) rfl)) (hw _ (List.mem_of_getElem? (i := 9) rfl)) (by decide) (by decide)) (g := (mkF m 169 #[.val (.int p1), .val (.int p2), .val (.int p3), .val (.int p4), .val (.int p5), .val (.int (5 : Int32)), .val (.int x6), .val (.int x7), .val (.int x8), .val (.int x9), .val (.ref b54), .val (.int (maxI (maxI x6 x7) x8))] [(.int x9), (.int (maxI (maxI x6 x7) x8))])) rfl (by rw [hml]; rfl) (argsL := [(.int (maxI (maxI x6 x7) x8)), (.int x9)]) (rest := []) (lenOf pd_0 rfl) rfl (by show 2 * 0 + _ ≤ _; exact Nat.le_of_eq rfl) (hb hby at_169) (fun _ _ => ⟨rfl, e72, (Nat.le_trans (Nat.add_le_add_right (Nat.add_le_add_right (Nat.add_le_add_right (Nat.add_le_add_right hcl 1) 0) 0) 0) (by decide)), (Nat.le_trans (Nat.add_le_add_right (Nat.add_le_add_right (Nat.add_le_add_right (Nat.add_le_add_right hsl 5) 0) 0) 0) (by decide))⟩)
      dsimp only [Pt.U, Pt.locs, Pt.cells, Pt.slots] at X73 l73 y73 z73 st73 hQ73
      subst l73 y73 z73
      obtain ⟨rfl, N73q, e73⟩ := hQ73
      have N73 := Fr.app N72 N73q
      obtain ⟨_, _, ⟨T74, L74, k74, n74⟩, -, X74, ⟨Lc74, hQ74, l74, y74, z74⟩, st74⟩ := Jvm.LawKit.callS X73 hx (y := (⟨"com/example/laneweave/laneweave/Overlap", "longest", "([I)I"⟩ : MethodName)) hown (mvT hZ (hw _ (List.mem_of_getElem? (i := 3) rfl))) (mvT hZ (hw _ (List.mem_of_getElem? (i := 4) rfl))) (mvT hZ (hw _ (List.mem_of_getElem? (i := 5) rfl))) (mvT hZ (hw _ (List.mem_of_getElem? (i := 6) rfl))) (by decide) (backOf (W := 0) (rm_lon5 l Z a0 hw [] b54 (0 : Int32) x6 (x6 + x7) ((x6 + x7) + x8) (((x6 + x7) + x8) + x9) h69 n0 Z69 G70 ) hZ (hw _ (List.mem_of_getElem? (i := 6) rfl)) (hw _ (List.mem_of_getElem? (i := 5) rfl)) (by decide) (by decide)) (g := (mkF m 176 #[.val (.int p1), .val (.int p2), .val (.int p3), .val (.int p4), .val (.int p5), .val (.int (5 : Int32)), .val (.int x6), .val (.int x7), .val (.int x8), .val (.int x9), .val (.ref b54), .val (.int (maxI (maxI (maxI x6 x7) x8) x9))] [(.ref b54)])) rfl (by rw [hml]; rfl) (argsL := [(.ref b54)]) (rest := []) (lenOf pd_1 rfl) rfl (by show 2 * 0 + _ ≤ _; exact Nat.le_of_eq rfl) (hb hby at_176) (fun _ _ => ⟨rfl, e73, (Nat.le_trans (Nat.add_le_add_right (Nat.add_le_add_right (Nat.add_le_add_right (Nat.add_le_add_right (Nat.add_le_add_right hcl 1) 0) 0) 0) 0) (by decide)), (Nat.le_trans (Nat.add_le_add_right (Nat.add_le_add_right (Nat.add_le_add_right (Nat.add_le_add_right (Nat.add_le_add_right hsl 5) 0) 0) 0) 0) (by decide))⟩)
      dsimp only [Pt.U, Pt.locs, Pt.cells, Pt.slots] at X74 l74 y74 z74 st74 hQ74
      subst l74 y74 z74
      obtain ⟨rfl, N74q, e74⟩ := hQ74
      have N74 := Fr.app N73 N74q
      refine Go.step (T' := T74) (f' := (mkF m 181 #[.val (.int p1), .val (.int p2), .val (.int p3), .val (.int p4), .val (.int p5), .val (.int (5 : Int32)), .val (.int x6), .val (.int x7), .val (.int x8), .val (.int x9), .val (.ref b54), .val (.int (maxI (maxI (maxI x6 x7) x8) x9))] [(.int (maxI (maxI (maxI x6 x7) x8) x9)), (.int (lon5 (0 : Int32) x6 (x6 + x7) ((x6 + x7) + x8) (((x6 + x7) + x8) + x9)))])) (fun t kt => ?_) ?_
      · show Steps p.tables e below (T.setTop (mkF m 34 #[.val (.int p1), .val (.int p2), .val (.int p3), .val (.int p4), .val (.int p5), .val (.int (5 : Int32)), .val (.int x6), .val (.int x7), .val (.int x8), .val (.int x9), .unset, .unset] [])) _
        refine XS.iload X.here hx rfl (hb hby at_34) rfl ?_
        show Steps p.tables e below (T.setTop (mkF m 36 #[.val (.int p1), .val (.int p2), .val (.int p3), .val (.int p4), .val (.int p5), .val (.int (5 : Int32)), .val (.int x6), .val (.int x7), .val (.int x8), .val (.int x9), .unset, .unset] [(.int (5 : Int32))])) _
        refine st54 _ ?_
        show Steps p.tables e below (T54.setTop (mkF m 38 #[.val (.int p1), .val (.int p2), .val (.int p3), .val (.int p4), .val (.int p5), .val (.int (5 : Int32)), .val (.int x6), .val (.int x7), .val (.int x8), .val (.int x9), .unset, .unset] [(.ref b54)])) _
        refine XS.astore X54.here hx rfl (hb hby at_38) rfl rfl (l' := #[.val (.int p1), .val (.int p2), .val (.int p3), .val (.int p4), .val (.int p5), .val (.int (5 : Int32)), .val (.int x6), .val (.int x7), .val (.int x8), .val (.int x9), .val (.ref b54), .unset]) rfl ?_
        show Steps p.tables e below (T54.setTop (mkF m 40 #[.val (.int p1), .val (.int p2), .val (.int p3), .val (.int p4), .val (.int p5), .val (.int (5 : Int32)), .val (.int x6), .val (.int x7), .val (.int x8), .val (.int x9), .val (.ref b54), .unset] [])) _
        refine XS.iload X54.here hx rfl (hb hby at_40) rfl ?_
        show Steps p.tables e below (T54.setTop (mkF m 42 #[.val (.int p1), .val (.int p2), .val (.int p3), .val (.int p4), .val (.int p5), .val (.int (5 : Int32)), .val (.int x6), .val (.int x7), .val (.int x8), .val (.int x9), .val (.ref b54), .unset] [(.int (5 : Int32))])) _
        refine XS.ifNo X54.here hx rfl (hb hby at_42) rfl ((if0 _ _).trans (tlt (by decide : ((0 : Int32) < (5 : Int32)))).2.2.2) ?_
        show Steps p.tables e below (T54.setTop (mkF m 45 #[.val (.int p1), .val (.int p2), .val (.int p3), .val (.int p4), .val (.int p5), .val (.int (5 : Int32)), .val (.int x6), .val (.int x7), .val (.int x8), .val (.int x9), .val (.ref b54), .unset] [])) _
        refine XS.aload X54.here hx rfl (hb hby at_45) rfl rfl ?_
        show Steps p.tables e below (T54.setTop (mkF m 47 #[.val (.int p1), .val (.int p2), .val (.int p3), .val (.int p4), .val (.int p5), .val (.int (5 : Int32)), .val (.int x6), .val (.int x7), .val (.int x8), .val (.int x9), .val (.ref b54), .unset] [(.ref b54)])) _
        refine XS.iconst X54.here hx rfl (hb hby at_47) ?_
        show Steps p.tables e below (T54.setTop (mkF m 48 #[.val (.int p1), .val (.int p2), .val (.int p3), .val (.int p4), .val (.int p5), .val (.int (5 : Int32)), .val (.int x6), .val (.int x7), .val (.int x8), .val (.int x9), .val (.ref b54), .unset] [(.int (0 : Int32)), (.ref b54)])) _
        refine XS.iconst X54.here hx rfl (hb hby at_48) ?_
        show Steps p.tables e below (T54.setTop (mkF m 49 #[.val (.int p1), .val (.int p2), .val (.int p3), .val (.int p4), .val (.int p5), .val (.int (5 : Int32)), .val (.int x6), .val (.int x7), .val (.int x8), .val (.int x9), .val (.ref b54), .unset] [(.int (0 : Int32)), (.int (0 : Int32)), (.ref b54)])) _
        refine st57 _ ?_
        show Steps p.tables e below (T57.setTop (mkF m 50 #[.val (.int p1), .val (.int p2), .val (.int p3), .val (.int p4), .val (.int p5), .val (.int (5 : Int32)), .val (.int x6), .val (.int x7), .val (.int x8), .val (.int x9), .val (.ref b54), .unset] [])) _
        refine XS.iload X57.here hx rfl (hb hby at_50) rfl ?_
        show Steps p.tables e below (T57.setTop (mkF m 52 #[.val (.int p1), .val (.int p2), .val (.int p3), .val (.int p4), .val (.int p5), .val (.int (5 : Int32)), .val (.int x6), .val (.int x7), .val (.int x8), .val (.int x9), .val (.ref b54), .unset] [(.int (5 : Int32))])) _
        refine XS.iconst X57.here hx rfl (hb hby at_52) ?_
        show Steps p.tables e below (T57.setTop (mkF m 53 #[.val (.int p1), .val (.int p2), .val (.int p3), .val (.int p4), .val (.int p5), .val (.int (5 : Int32)), .val (.int x6), .val (.int x7), .val (.int x8), .val (.int x9), .val (.ref b54), .unset] [(.int (1 : Int32)), (.int (5 : Int32))])) _
        refine XS.icmpNo X57.here hx rfl (hb hby at_53) rfl (tlt (by decide : ((1 : Int32) < (5 : Int32)))).2.2.2 ?_
        show Steps p.tables e below (T57.setTop (mkF m 56 #[.val (.int p1), .val (.int p2), .val (.int p3), .val (.int p4), .val (.int p5), .val (.int (5 : Int32)), .val (.int x6), .val (.int x7), .val (.int x8), .val (.int x9), .val (.ref b54), .unset] [])) _
        refine XS.aload X57.here hx rfl (hb hby at_56) rfl rfl ?_
        show Steps p.tables e below (T57.setTop (mkF m 58 #[.val (.int p1), .val (.int p2), .val (.int p3), .val (.int p4), .val (.int p5), .val (.int (5 : Int32)), .val (.int x6), .val (.int x7), .val (.int x8), .val (.int x9), .val (.ref b54), .unset] [(.ref b54)])) _
        refine XS.iconst X57.here hx rfl (hb hby at_58) ?_
        show Steps p.tables e below (T57.setTop (mkF m 59 #[.val (.int p1), .val (.int p2), .val (.int p3), .val (.int p4), .val (.int p5), .val (.int (5 : Int32)), .val (.int x6), .val (.int x7), .val (.int x8), .val (.int x9), .val (.ref b54), .unset] [(.int (1 : Int32)), (.ref b54)])) _
        refine XS.iload X57.here hx rfl (hb hby at_59) rfl ?_
        show Steps p.tables e below (T57.setTop (mkF m 61 #[.val (.int p1), .val (.int p2), .val (.int p3), .val (.int p4), .val (.int p5), .val (.int (5 : Int32)), .val (.int x6), .val (.int x7), .val (.int x8), .val (.int x9), .val (.ref b54), .unset] [(.int x6), (.int (1 : Int32)), (.ref b54)])) _
        refine st60 _ ?_
        show Steps p.tables e below (T60.setTop (mkF m 62 #[.val (.int p1), .val (.int p2), .val (.int p3), .val (.int p4), .val (.int p5), .val (.int (5 : Int32)), .val (.int x6), .val (.int x7), .val (.int x8), .val (.int x9), .val (.ref b54), .unset] [])) _
        refine XS.iload X60.here hx rfl (hb hby at_62) rfl ?_
        show Steps p.tables e below (T60.setTop (mkF m 64 #[.val (.int p1), .val (.int p2), .val (.int p3), .val (.int p4), .val (.int p5), .val (.int (5 : Int32)), .val (.int x6), .val (.int x7), .val (.int x8), .val (.int x9), .val (.ref b54), .unset] [(.int (5 : Int32))])) _
        refine XS.iconst X60.here hx rfl (hb hby at_64) ?_
        show Steps p.tables e below (T60.setTop (mkF m 65 #[.val (.int p1), .val (.int p2), .val (.int p3), .val (.int p4), .val (.int p5), .val (.int (5 : Int32)), .val (.int x6), .val (.int x7), .val (.int x8), .val (.int x9), .val (.ref b54), .unset] [(.int (2 : Int32)), (.int (5 : Int32))])) _
        refine XS.icmpNo X60.here hx rfl (hb hby at_65) rfl (tlt (by decide : ((2 : Int32) < (5 : Int32)))).2.2.2 ?_
        show Steps p.tables e below (T60.setTop (mkF m 68 #[.val (.int p1), .val (.int p2), .val (.int p3), .val (.int p4), .val (.int p5), .val (.int (5 : Int32)), .val (.int x6), .val (.int x7), .val (.int x8), .val (.int x9), .val (.ref b54), .unset] [])) _
        refine XS.aload X60.here hx rfl (hb hby at_68) rfl rfl ?_
        show Steps p.tables e below (T60.setTop (mkF m 70 #[.val (.int p1), .val (.int p2), .val (.int p3), .val (.int p4), .val (.int p5), .val (.int (5 : Int32)), .val (.int x6), .val (.int x7), .val (.int x8), .val (.int x9), .val (.ref b54), .unset] [(.ref b54)])) _
        refine XS.iconst X60.here hx rfl (hb hby at_70) ?_
        show Steps p.tables e below (T60.setTop (mkF m 71 #[.val (.int p1), .val (.int p2), .val (.int p3), .val (.int p4), .val (.int p5), .val (.int (5 : Int32)), .val (.int x6), .val (.int x7), .val (.int x8), .val (.int x9), .val (.ref b54), .unset] [(.int (2 : Int32)), (.ref b54)])) _
        refine XS.iload X60.here hx rfl (hb hby at_71) rfl ?_
        show Steps p.tables e below (T60.setTop (mkF m 73 #[.val (.int p1), .val (.int p2), .val (.int p3), .val (.int p4), .val (.int p5), .val (.int (5 : Int32)), .val (.int x6), .val (.int x7), .val (.int x8), .val (.int x9), .val (.ref b54), .unset] [(.int x6), (.int (2 : Int32)), (.ref b54)])) _
        refine XS.iload X60.here hx rfl (hb hby at_73) rfl ?_
        show Steps p.tables e below (T60.setTop (mkF m 75 #[.val (.int p1), .val (.int p2), .val (.int p3), .val (.int p4), .val (.int p5), .val (.int (5 : Int32)), .val (.int x6), .val (.int x7), .val (.int x8), .val (.int x9), .val (.ref b54), .unset] [(.int x7), (.int x6), (.int (2 : Int32)), (.ref b54)])) _
        refine XS.iadd X60.here hx rfl (hb hby at_75) rfl ?_
        show Steps p.tables e below (T60.setTop (mkF m 76 #[.val (.int p1), .val (.int p2), .val (.int p3), .val (.int p4), .val (.int p5), .val (.int (5 : Int32)), .val (.int x6), .val (.int x7), .val (.int x8), .val (.int x9), .val (.ref b54), .unset] [(.int (x6 + x7)), (.int (2 : Int32)), (.ref b54)])) _
        refine st63 _ ?_
        show Steps p.tables e below (T63.setTop (mkF m 77 #[.val (.int p1), .val (.int p2), .val (.int p3), .val (.int p4), .val (.int p5), .val (.int (5 : Int32)), .val (.int x6), .val (.int x7), .val (.int x8), .val (.int x9), .val (.ref b54), .unset] [])) _
        refine XS.iload X63.here hx rfl (hb hby at_77) rfl ?_
        show Steps p.tables e below (T63.setTop (mkF m 79 #[.val (.int p1), .val (.int p2), .val (.int p3), .val (.int p4), .val (.int p5), .val (.int (5 : Int32)), .val (.int x6), .val (.int x7), .val (.int x8), .val (.int x9), .val (.ref b54), .unset] [(.int (5 : Int32))])) _
        refine XS.iconst X63.here hx rfl (hb hby at_79) ?_
        show Steps p.tables e below (T63.setTop (mkF m 80 #[.val (.int p1), .val (.int p2), .val (.int p3), .val (.int p4), .val (.int p5), .val (.int (5 : Int32)), .val (.int x6), .val (.int x7), .val (.int x8), .val (.int x9), .val (.ref b54), .unset] [(.int (3 : Int32)), (.int (5 : Int32))])) _
        refine XS.icmpNo X63.here hx rfl (hb hby at_80) rfl (tlt (by decide : ((3 : Int32) < (5 : Int32)))).2.2.2 ?_
        show Steps p.tables e below (T63.setTop (mkF m 83 #[.val (.int p1), .val (.int p2), .val (.int p3), .val (.int p4), .val (.int p5), .val (.int (5 : Int32)), .val (.int x6), .val (.int x7), .val (.int x8), .val (.int x9), .val (.ref b54), .unset] [])) _
        refine XS.aload X63.here hx rfl (hb hby at_83) rfl rfl ?_
        show Steps p.tables e below (T63.setTop (mkF m 85 #[.val (.int p1), .val (.int p2), .val (.int p3), .val (.int p4), .val (.int p5), .val (.int (5 : Int32)), .val (.int x6), .val (.int x7), .val (.int x8), .val (.int x9), .val (.ref b54), .unset] [(.ref b54)])) _
        refine XS.iconst X63.here hx rfl (hb hby at_85) ?_
        show Steps p.tables e below (T63.setTop (mkF m 86 #[.val (.int p1), .val (.int p2), .val (.int p3), .val (.int p4), .val (.int p5), .val (.int (5 : Int32)), .val (.int x6), .val (.int x7), .val (.int x8), .val (.int x9), .val (.ref b54), .unset] [(.int (3 : Int32)), (.ref b54)])) _
        refine XS.iload X63.here hx rfl (hb hby at_86) rfl ?_
        show Steps p.tables e below (T63.setTop (mkF m 88 #[.val (.int p1), .val (.int p2), .val (.int p3), .val (.int p4), .val (.int p5), .val (.int (5 : Int32)), .val (.int x6), .val (.int x7), .val (.int x8), .val (.int x9), .val (.ref b54), .unset] [(.int x6), (.int (3 : Int32)), (.ref b54)])) _
        refine XS.iload X63.here hx rfl (hb hby at_88) rfl ?_
        show Steps p.tables e below (T63.setTop (mkF m 90 #[.val (.int p1), .val (.int p2), .val (.int p3), .val (.int p4), .val (.int p5), .val (.int (5 : Int32)), .val (.int x6), .val (.int x7), .val (.int x8), .val (.int x9), .val (.ref b54), .unset] [(.int x7), (.int x6), (.int (3 : Int32)), (.ref b54)])) _
        refine XS.iadd X63.here hx rfl (hb hby at_90) rfl ?_
        show Steps p.tables e below (T63.setTop (mkF m 91 #[.val (.int p1), .val (.int p2), .val (.int p3), .val (.int p4), .val (.int p5), .val (.int (5 : Int32)), .val (.int x6), .val (.int x7), .val (.int x8), .val (.int x9), .val (.ref b54), .unset] [(.int (x6 + x7)), (.int (3 : Int32)), (.ref b54)])) _
        refine XS.iload X63.here hx rfl (hb hby at_91) rfl ?_
        show Steps p.tables e below (T63.setTop (mkF m 93 #[.val (.int p1), .val (.int p2), .val (.int p3), .val (.int p4), .val (.int p5), .val (.int (5 : Int32)), .val (.int x6), .val (.int x7), .val (.int x8), .val (.int x9), .val (.ref b54), .unset] [(.int x8), (.int (x6 + x7)), (.int (3 : Int32)), (.ref b54)])) _
        refine XS.iadd X63.here hx rfl (hb hby at_93) rfl ?_
        show Steps p.tables e below (T63.setTop (mkF m 94 #[.val (.int p1), .val (.int p2), .val (.int p3), .val (.int p4), .val (.int p5), .val (.int (5 : Int32)), .val (.int x6), .val (.int x7), .val (.int x8), .val (.int x9), .val (.ref b54), .unset] [(.int ((x6 + x7) + x8)), (.int (3 : Int32)), (.ref b54)])) _
        refine st66 _ ?_
        show Steps p.tables e below (T66.setTop (mkF m 95 #[.val (.int p1), .val (.int p2), .val (.int p3), .val (.int p4), .val (.int p5), .val (.int (5 : Int32)), .val (.int x6), .val (.int x7), .val (.int x8), .val (.int x9), .val (.ref b54), .unset] [])) _
        refine XS.iload X66.here hx rfl (hb hby at_95) rfl ?_
        show Steps p.tables e below (T66.setTop (mkF m 97 #[.val (.int p1), .val (.int p2), .val (.int p3), .val (.int p4), .val (.int p5), .val (.int (5 : Int32)), .val (.int x6), .val (.int x7), .val (.int x8), .val (.int x9), .val (.ref b54), .unset] [(.int (5 : Int32))])) _
        refine XS.iconst X66.here hx rfl (hb hby at_97) ?_
        show Steps p.tables e below (T66.setTop (mkF m 98 #[.val (.int p1), .val (.int p2), .val (.int p3), .val (.int p4), .val (.int p5), .val (.int (5 : Int32)), .val (.int x6), .val (.int x7), .val (.int x8), .val (.int x9), .val (.ref b54), .unset] [(.int (4 : Int32)), (.int (5 : Int32))])) _
        refine XS.icmpNo X66.here hx rfl (hb hby at_98) rfl (tlt (by decide : ((4 : Int32) < (5 : Int32)))).2.2.2 ?_
        show Steps p.tables e below (T66.setTop (mkF m 101 #[.val (.int p1), .val (.int p2), .val (.int p3), .val (.int p4), .val (.int p5), .val (.int (5 : Int32)), .val (.int x6), .val (.int x7), .val (.int x8), .val (.int x9), .val (.ref b54), .unset] [])) _
        refine XS.aload X66.here hx rfl (hb hby at_101) rfl rfl ?_
        show Steps p.tables e below (T66.setTop (mkF m 103 #[.val (.int p1), .val (.int p2), .val (.int p3), .val (.int p4), .val (.int p5), .val (.int (5 : Int32)), .val (.int x6), .val (.int x7), .val (.int x8), .val (.int x9), .val (.ref b54), .unset] [(.ref b54)])) _
        refine XS.iconst X66.here hx rfl (hb hby at_103) ?_
        show Steps p.tables e below (T66.setTop (mkF m 104 #[.val (.int p1), .val (.int p2), .val (.int p3), .val (.int p4), .val (.int p5), .val (.int (5 : Int32)), .val (.int x6), .val (.int x7), .val (.int x8), .val (.int x9), .val (.ref b54), .unset] [(.int (4 : Int32)), (.ref b54)])) _
        refine XS.iload X66.here hx rfl (hb hby at_104) rfl ?_
        show Steps p.tables e below (T66.setTop (mkF m 106 #[.val (.int p1), .val (.int p2), .val (.int p3), .val (.int p4), .val (.int p5), .val (.int (5 : Int32)), .val (.int x6), .val (.int x7), .val (.int x8), .val (.int x9), .val (.ref b54), .unset] [(.int x6), (.int (4 : Int32)), (.ref b54)])) _
        refine XS.iload X66.here hx rfl (hb hby at_106) rfl ?_
        show Steps p.tables e below (T66.setTop (mkF m 108 #[.val (.int p1), .val (.int p2), .val (.int p3), .val (.int p4), .val (.int p5), .val (.int (5 : Int32)), .val (.int x6), .val (.int x7), .val (.int x8), .val (.int x9), .val (.ref b54), .unset] [(.int x7), (.int x6), (.int (4 : Int32)), (.ref b54)])) _
        refine XS.iadd X66.here hx rfl (hb hby at_108) rfl ?_
        show Steps p.tables e below (T66.setTop (mkF m 109 #[.val (.int p1), .val (.int p2), .val (.int p3), .val (.int p4), .val (.int p5), .val (.int (5 : Int32)), .val (.int x6), .val (.int x7), .val (.int x8), .val (.int x9), .val (.ref b54), .unset] [(.int (x6 + x7)), (.int (4 : Int32)), (.ref b54)])) _
        refine XS.iload X66.here hx rfl (hb hby at_109) rfl ?_
        show Steps p.tables e below (T66.setTop (mkF m 111 #[.val (.int p1), .val (.int p2), .val (.int p3), .val (.int p4), .val (.int p5), .val (.int (5 : Int32)), .val (.int x6), .val (.int x7), .val (.int x8), .val (.int x9), .val (.ref b54), .unset] [(.int x8), (.int (x6 + x7)), (.int (4 : Int32)), (.ref b54)])) _
        refine XS.iadd X66.here hx rfl (hb hby at_111) rfl ?_
        show Steps p.tables e below (T66.setTop (mkF m 112 #[.val (.int p1), .val (.int p2), .val (.int p3), .val (.int p4), .val (.int p5), .val (.int (5 : Int32)), .val (.int x6), .val (.int x7), .val (.int x8), .val (.int x9), .val (.ref b54), .unset] [(.int ((x6 + x7) + x8)), (.int (4 : Int32)), (.ref b54)])) _
        refine XS.iload X66.here hx rfl (hb hby at_112) rfl ?_
        show Steps p.tables e below (T66.setTop (mkF m 114 #[.val (.int p1), .val (.int p2), .val (.int p3), .val (.int p4), .val (.int p5), .val (.int (5 : Int32)), .val (.int x6), .val (.int x7), .val (.int x8), .val (.int x9), .val (.ref b54), .unset] [(.int x9), (.int ((x6 + x7) + x8)), (.int (4 : Int32)), (.ref b54)])) _
        refine XS.iadd X66.here hx rfl (hb hby at_114) rfl ?_
        show Steps p.tables e below (T66.setTop (mkF m 115 #[.val (.int p1), .val (.int p2), .val (.int p3), .val (.int p4), .val (.int p5), .val (.int (5 : Int32)), .val (.int x6), .val (.int x7), .val (.int x8), .val (.int x9), .val (.ref b54), .unset] [(.int (((x6 + x7) + x8) + x9)), (.int (4 : Int32)), (.ref b54)])) _
        refine st69 _ ?_
        show Steps p.tables e below (T69.setTop (mkF m 116 #[.val (.int p1), .val (.int p2), .val (.int p3), .val (.int p4), .val (.int p5), .val (.int (5 : Int32)), .val (.int x6), .val (.int x7), .val (.int x8), .val (.int x9), .val (.ref b54), .unset] [])) _
        refine XS.iconst X69.here hx rfl (hb hby at_116) ?_
        show Steps p.tables e below (T69.setTop (mkF m 117 #[.val (.int p1), .val (.int p2), .val (.int p3), .val (.int p4), .val (.int p5), .val (.int (5 : Int32)), .val (.int x6), .val (.int x7), .val (.int x8), .val (.int x9), .val (.ref b54), .unset] [(.int (0 : Int32))])) _
        refine XS.istore X69.here hx rfl (hb hby at_117) rfl (l' := #[.val (.int p1), .val (.int p2), .val (.int p3), .val (.int p4), .val (.int p5), .val (.int (5 : Int32)), .val (.int x6), .val (.int x7), .val (.int x8), .val (.int x9), .val (.ref b54), .val (.int (0 : Int32))]) rfl ?_
        show Steps p.tables e below (T69.setTop (mkF m 119 #[.val (.int p1), .val (.int p2), .val (.int p3), .val (.int p4), .val (.int p5), .val (.int (5 : Int32)), .val (.int x6), .val (.int x7), .val (.int x8), .val (.int x9), .val (.ref b54), .val (.int (0 : Int32))] [])) _
        refine XS.iload X69.here hx rfl (hb hby at_119) rfl ?_
        show Steps p.tables e below (T69.setTop (mkF m 121 #[.val (.int p1), .val (.int p2), .val (.int p3), .val (.int p4), .val (.int p5), .val (.int (5 : Int32)), .val (.int x6), .val (.int x7), .val (.int x8), .val (.int x9), .val (.ref b54), .val (.int (0 : Int32))] [(.int (5 : Int32))])) _
        refine XS.iconst X69.here hx rfl (hb hby at_121) ?_
        show Steps p.tables e below (T69.setTop (mkF m 122 #[.val (.int p1), .val (.int p2), .val (.int p3), .val (.int p4), .val (.int p5), .val (.int (5 : Int32)), .val (.int x6), .val (.int x7), .val (.int x8), .val (.int x9), .val (.ref b54), .val (.int (0 : Int32))] [(.int (1 : Int32)), (.int (5 : Int32))])) _
        refine XS.icmpNo X69.here hx rfl (hb hby at_122) rfl (tlt (by decide : ((1 : Int32) < (5 : Int32)))).2.2.2 ?_
        show Steps p.tables e below (T69.setTop (mkF m 125 #[.val (.int p1), .val (.int p2), .val (.int p3), .val (.int p4), .val (.int p5), .val (.int (5 : Int32)), .val (.int x6), .val (.int x7), .val (.int x8), .val (.int x9), .val (.ref b54), .val (.int (0 : Int32))] [])) _
        refine XS.iload X69.here hx rfl (hb hby at_125) rfl ?_
        show Steps p.tables e below (T69.setTop (mkF m 127 #[.val (.int p1), .val (.int p2), .val (.int p3), .val (.int p4), .val (.int p5), .val (.int (5 : Int32)), .val (.int x6), .val (.int x7), .val (.int x8), .val (.int x9), .val (.ref b54), .val (.int (0 : Int32))] [(.int x6)])) _
        refine XS.istore X69.here hx rfl (hb hby at_127) rfl (l' := #[.val (.int p1), .val (.int p2), .val (.int p3), .val (.int p4), .val (.int p5), .val (.int (5 : Int32)), .val (.int x6), .val (.int x7), .val (.int x8), .val (.int x9), .val (.ref b54), .val (.int x6)]) rfl ?_
        show Steps p.tables e below (T69.setTop (mkF m 129 #[.val (.int p1), .val (.int p2), .val (.int p3), .val (.int p4), .val (.int p5), .val (.int (5 : Int32)), .val (.int x6), .val (.int x7), .val (.int x8), .val (.int x9), .val (.ref b54), .val (.int x6)] [])) _
        refine XS.iload X69.here hx rfl (hb hby at_129) rfl ?_
        show Steps p.tables e below (T69.setTop (mkF m 131 #[.val (.int p1), .val (.int p2), .val (.int p3), .val (.int p4), .val (.int p5), .val (.int (5 : Int32)), .val (.int x6), .val (.int x7), .val (.int x8), .val (.int x9), .val (.ref b54), .val (.int x6)] [(.int (5 : Int32))])) _
        refine XS.iconst X69.here hx rfl (hb hby at_131) ?_
        show Steps p.tables e below (T69.setTop (mkF m 132 #[.val (.int p1), .val (.int p2), .val (.int p3), .val (.int p4), .val (.int p5), .val (.int (5 : Int32)), .val (.int x6), .val (.int x7), .val (.int x8), .val (.int x9), .val (.ref b54), .val (.int x6)] [(.int (2 : Int32)), (.int (5 : Int32))])) _
        refine XS.icmpNo X69.here hx rfl (hb hby at_132) rfl (tlt (by decide : ((2 : Int32) < (5 : Int32)))).2.2.2 ?_
        show Steps p.tables e below (T69.setTop (mkF m 135 #[.val (.int p1), .val (.int p2), .val (.int p3), .val (.int p4), .val (.int p5), .val (.int (5 : Int32)), .val (.int x6), .val (.int x7), .val (.int x8), .val (.int x9), .val (.ref b54), .val (.int x6)] [])) _
        refine XS.iload X69.here hx rfl (hb hby at_135) rfl ?_
        show Steps p.tables e below (T69.setTop (mkF m 137 #[.val (.int p1), .val (.int p2), .val (.int p3), .val (.int p4), .val (.int p5), .val (.int (5 : Int32)), .val (.int x6), .val (.int x7), .val (.int x8), .val (.int x9), .val (.ref b54), .val (.int x6)] [(.int x6)])) _
        refine XS.iload X69.here hx rfl (hb hby at_137) rfl ?_
        show Steps p.tables e below (T69.setTop (mkF m 139 #[.val (.int p1), .val (.int p2), .val (.int p3), .val (.int p4), .val (.int p5), .val (.int (5 : Int32)), .val (.int x6), .val (.int x7), .val (.int x8), .val (.int x9), .val (.ref b54), .val (.int x6)] [(.int x7), (.int x6)])) _
        refine st71 _ ?_
        show Steps p.tables e below (T71.setTop (mkF m 142 #[.val (.int p1), .val (.int p2), .val (.int p3), .val (.int p4), .val (.int p5), .val (.int (5 : Int32)), .val (.int x6), .val (.int x7), .val (.int x8), .val (.int x9), .val (.ref b54), .val (.int x6)] [(.int (maxI x6 x7))])) _
        refine XS.istore X71.here hx rfl (hb hby at_142) rfl (l' := #[.val (.int p1), .val (.int p2), .val (.int p3), .val (.int p4), .val (.int p5), .val (.int (5 : Int32)), .val (.int x6), .val (.int x7), .val (.int x8), .val (.int x9), .val (.ref b54), .val (.int (maxI x6 x7))]) rfl ?_
        show Steps p.tables e below (T71.setTop (mkF m 144 #[.val (.int p1), .val (.int p2), .val (.int p3), .val (.int p4), .val (.int p5), .val (.int (5 : Int32)), .val (.int x6), .val (.int x7), .val (.int x8), .val (.int x9), .val (.ref b54), .val (.int (maxI x6 x7))] [])) _
        refine XS.iload X71.here hx rfl (hb hby at_144) rfl ?_
        show Steps p.tables e below (T71.setTop (mkF m 146 #[.val (.int p1), .val (.int p2), .val (.int p3), .val (.int p4), .val (.int p5), .val (.int (5 : Int32)), .val (.int x6), .val (.int x7), .val (.int x8), .val (.int x9), .val (.ref b54), .val (.int (maxI x6 x7))] [(.int (5 : Int32))])) _
        refine XS.iconst X71.here hx rfl (hb hby at_146) ?_
        show Steps p.tables e below (T71.setTop (mkF m 147 #[.val (.int p1), .val (.int p2), .val (.int p3), .val (.int p4), .val (.int p5), .val (.int (5 : Int32)), .val (.int x6), .val (.int x7), .val (.int x8), .val (.int x9), .val (.ref b54), .val (.int (maxI x6 x7))] [(.int (3 : Int32)), (.int (5 : Int32))])) _
        refine XS.icmpNo X71.here hx rfl (hb hby at_147) rfl (tlt (by decide : ((3 : Int32) < (5 : Int32)))).2.2.2 ?_
        show Steps p.tables e below (T71.setTop (mkF m 150 #[.val (.int p1), .val (.int p2), .val (.int p3), .val (.int p4), .val (.int p5), .val (.int (5 : Int32)), .val (.int x6), .val (.int x7), .val (.int x8), .val (.int x9), .val (.ref b54), .val (.int (maxI x6 x7))] [])) _
        refine XS.iload X71.here hx rfl (hb hby at_150) rfl ?_
        show Steps p.tables e below (T71.setTop (mkF m 152 #[.val (.int p1), .val (.int p2), .val (.int p3), .val (.int p4), .val (.int p5), .val (.int (5 : Int32)), .val (.int x6), .val (.int x7), .val (.int x8), .val (.int x9), .val (.ref b54), .val (.int (maxI x6 x7))] [(.int (maxI x6 x7))])) _
        refine XS.iload X71.here hx rfl (hb hby at_152) rfl ?_
        show Steps p.tables e below (T71.setTop (mkF m 154 #[.val (.int p1), .val (.int p2), .val (.int p3), .val (.int p4), .val (.int p5), .val (.int (5 : Int32)), .val (.int x6), .val (.int x7), .val (.int x8), .val (.int x9), .val (.ref b54), .val (.int (maxI x6 x7))] [(.int x8), (.int (maxI x6 x7))])) _
        refine st72 _ ?_
        show Steps p.tables e below (T72.setTop (mkF m 157 #[.val (.int p1), .val (.int p2), .val (.int p3), .val (.int p4), .val (.int p5), .val (.int (5 : Int32)), .val (.int x6), .val (.int x7), .val (.int x8), .val (.int x9), .val (.ref b54), .val (.int (maxI x6 x7))] [(.int (maxI (maxI x6 x7) x8))])) _
        refine XS.istore X72.here hx rfl (hb hby at_157) rfl (l' := #[.val (.int p1), .val (.int p2), .val (.int p3), .val (.int p4), .val (.int p5), .val (.int (5 : Int32)), .val (.int x6), .val (.int x7), .val (.int x8), .val (.int x9), .val (.ref b54), .val (.int (maxI (maxI x6 x7) x8))]) rfl ?_
        show Steps p.tables e below (T72.setTop (mkF m 159 #[.val (.int p1), .val (.int p2), .val (.int p3), .val (.int p4), .val (.int p5), .val (.int (5 : Int32)), .val (.int x6), .val (.int x7), .val (.int x8), .val (.int x9), .val (.ref b54), .val (.int (maxI (maxI x6 x7) x8))] [])) _
        refine XS.iload X72.here hx rfl (hb hby at_159) rfl ?_
        show Steps p.tables e below (T72.setTop (mkF m 161 #[.val (.int p1), .val (.int p2), .val (.int p3), .val (.int p4), .val (.int p5), .val (.int (5 : Int32)), .val (.int x6), .val (.int x7), .val (.int x8), .val (.int x9), .val (.ref b54), .val (.int (maxI (maxI x6 x7) x8))] [(.int (5 : Int32))])) _
        refine XS.iconst X72.here hx rfl (hb hby at_161) ?_
        show Steps p.tables e below (T72.setTop (mkF m 162 #[.val (.int p1), .val (.int p2), .val (.int p3), .val (.int p4), .val (.int p5), .val (.int (5 : Int32)), .val (.int x6), .val (.int x7), .val (.int x8), .val (.int x9), .val (.ref b54), .val (.int (maxI (maxI x6 x7) x8))] [(.int (4 : Int32)), (.int (5 : Int32))])) _
        refine XS.icmpNo X72.here hx rfl (hb hby at_162) rfl (tlt (by decide : ((4 : Int32) < (5 : Int32)))).2.2.2 ?_
        show Steps p.tables e below (T72.setTop (mkF m 165 #[.val (.int p1), .val (.int p2), .val (.int p3), .val (.int p4), .val (.int p5), .val (.int (5 : Int32)), .val (.int x6), .val (.int x7), .val (.int x8), .val (.int x9), .val (.ref b54), .val (.int (maxI (maxI x6 x7) x8))] [])) _
        refine XS.iload X72.here hx rfl (hb hby at_165) rfl ?_
        show Steps p.tables e below (T72.setTop (mkF m 167 #[.val (.int p1), .val (.int p2), .val (.int p3), .val (.int p4), .val (.int p5), .val (.int (5 : Int32)), .val (.int x6), .val (.int x7), .val (.int x8), .val (.int x9), .val (.ref b54), .val (.int (maxI (maxI x6 x7) x8))] [(.int (maxI (maxI x6 x7) x8))])) _
        refine XS.iload X72.here hx rfl (hb hby at_167) rfl ?_
        show Steps p.tables e below (T72.setTop (mkF m 169 #[.val (.int p1), .val (.int p2), .val (.int p3), .val (.int p4), .val (.int p5), .val (.int (5 : Int32)), .val (.int x6), .val (.int x7), .val (.int x8), .val (.int x9), .val (.ref b54), .val (.int (maxI (maxI x6 x7) x8))] [(.int x9), (.int (maxI (maxI x6 x7) x8))])) _
        refine st73 _ ?_
        show Steps p.tables e below (T73.setTop (mkF m 172 #[.val (.int p1), .val (.int p2), .val (.int p3), .val (.int p4), .val (.int p5), .val (.int (5 : Int32)), .val (.int x6), .val (.int x7), .val (.int x8), .val (.int x9), .val (.ref b54), .val (.int (maxI (maxI x6 x7) x8))] [(.int (maxI (maxI (maxI x6 x7) x8) x9))])) _
        refine XS.istore X73.here hx rfl (hb hby at_172) rfl (l' := #[.val (.int p1), .val (.int p2), .val (.int p3), .val (.int p4), .val (.int p5), .val (.int (5 : Int32)), .val (.int x6), .val (.int x7), .val (.int x8), .val (.int x9), .val (.ref b54), .val (.int (maxI (maxI (maxI x6 x7) x8) x9))]) rfl ?_
        show Steps p.tables e below (T73.setTop (mkF m 174 #[.val (.int p1), .val (.int p2), .val (.int p3), .val (.int p4), .val (.int p5), .val (.int (5 : Int32)), .val (.int x6), .val (.int x7), .val (.int x8), .val (.int x9), .val (.ref b54), .val (.int (maxI (maxI (maxI x6 x7) x8) x9))] [])) _
        refine XS.aload X73.here hx rfl (hb hby at_174) rfl rfl ?_
        show Steps p.tables e below (T73.setTop (mkF m 176 #[.val (.int p1), .val (.int p2), .val (.int p3), .val (.int p4), .val (.int p5), .val (.int (5 : Int32)), .val (.int x6), .val (.int x7), .val (.int x8), .val (.int x9), .val (.ref b54), .val (.int (maxI (maxI (maxI x6 x7) x8) x9))] [(.ref b54)])) _
        refine st74 _ ?_
        show Steps p.tables e below (T74.setTop (mkF m 179 #[.val (.int p1), .val (.int p2), .val (.int p3), .val (.int p4), .val (.int p5), .val (.int (5 : Int32)), .val (.int x6), .val (.int x7), .val (.int x8), .val (.int x9), .val (.ref b54), .val (.int (maxI (maxI (maxI x6 x7) x8) x9))] [(.int (lon5 (0 : Int32) x6 (x6 + x7) ((x6 + x7) + x8) (((x6 + x7) + x8) + x9)))])) _
        refine XS.iload X74.here hx rfl (hb hby at_179) rfl ?_
        exact kt
      have hd75 : (lon5 (0 : Int32) x6 (x6 + x7) ((x6 + x7) + x8) (((x6 + x7) + x8) + x9)) = (maxI (maxI (maxI x6 x7) x8) x9) := by unfold lon5; rw [own_s0, own_m0 h6, own_sc, own_sc, own_sc]
      refine Go.step (T' := T74) (f' := (mkF m 189 #[.val (.int p1), .val (.int p2), .val (.int p3), .val (.int p4), .val (.int p5), .val (.int (5 : Int32)), .val (.int x6), .val (.int x7), .val (.int x8), .val (.int x9), .val (.ref b54), .val (.int (maxI (maxI (maxI x6 x7) x8) x9))] [(.int (1 : Int32))])) (fun t kt => ?_) ?_
      · show Steps p.tables e below (T74.setTop (mkF m 181 #[.val (.int p1), .val (.int p2), .val (.int p3), .val (.int p4), .val (.int p5), .val (.int (5 : Int32)), .val (.int x6), .val (.int x7), .val (.int x8), .val (.int x9), .val (.ref b54), .val (.int (maxI (maxI (maxI x6 x7) x8) x9))] [(.int (maxI (maxI (maxI x6 x7) x8) x9)), (.int (lon5 (0 : Int32) x6 (x6 + x7) ((x6 + x7) + x8) (((x6 + x7) + x8) + x9)))])) _
        refine XS.icmpNo X74.here hx rfl (hb hby at_181) rfl (teq hd75).2 ?_
        show Steps p.tables e below (T74.setTop (mkF m 184 #[.val (.int p1), .val (.int p2), .val (.int p3), .val (.int p4), .val (.int p5), .val (.int (5 : Int32)), .val (.int x6), .val (.int x7), .val (.int x8), .val (.int x9), .val (.ref b54), .val (.int (maxI (maxI (maxI x6 x7) x8) x9))] [])) _
        refine XS.iconst X74.here hx rfl (hb hby at_184) ?_
        show Steps p.tables e below (T74.setTop (mkF m 185 #[.val (.int p1), .val (.int p2), .val (.int p3), .val (.int p4), .val (.int p5), .val (.int (5 : Int32)), .val (.int x6), .val (.int x7), .val (.int x8), .val (.int x9), .val (.ref b54), .val (.int (maxI (maxI (maxI x6 x7) x8) x9))] [(.int (1 : Int32))])) _
        refine XS.goto X74.here hx rfl (pc0 := 185) (pc' := 189) rfl (hb hby at_185) (by decide) (by decide) ?_
        exact kt
      refine Go.fin X74 (v := some (.int (1 : Int32))) (fun h => by rw [Bd.returns] at h; cases h) Bd.notSynchronized ?_ (Nat.le_trans (Nat.add_le_add_right (Nat.add_le_add_right (Nat.add_le_add_right (Nat.add_le_add_right (Nat.add_le_add_right hcl 1) 0) 0) 0) 0) (by decide)) (Nat.le_trans (Nat.add_le_add_right (Nat.add_le_add_right (Nat.add_le_add_right (Nat.add_le_add_right (Nat.add_le_add_right hsl 5) 0) 0) 0) 0) (by decide)) (fun fs hr => retN X74 hx (t := .boolean) Bd.returns (by simp) (hb hby at_189) hr)
      · show Q0 Z p1 p2 p3 p4 p5 h0 n0 _ T74.heap _
        exact ⟨rfl, N74⟩
  refine Go.step (T' := s₁) (f' := (mkF m 34 #[.val (.int p1), .val (.int p2), .val (.int p3), .val (.int p4), .val (.int p5), .val (.int ((p1 &&& (2147483647 : Int32)) % (6 : Int32))), .val (.int (p2 &&& (536870911 : Int32))), .val (.int (p3 &&& (536870911 : Int32))), .val (.int (p4 &&& (536870911 : Int32))), .val (.int (p5 &&& (536870911 : Int32))), .unset, .unset] [])) (fun t kt => ?_) ?_
  · show Steps p.tables e below (s₁.setTop (mkF m 0 #[.val (.int p1), .val (.int p2), .val (.int p3), .val (.int p4), .val (.int p5), .unset, .unset, .unset, .unset, .unset, .unset, .unset] [])) _
    refine XS.iloadN X0.here hx rfl (hb hby at_0) rfl ?_
    show Steps p.tables e below (s₁.setTop (mkF m 1 #[.val (.int p1), .val (.int p2), .val (.int p3), .val (.int p4), .val (.int p5), .unset, .unset, .unset, .unset, .unset, .unset, .unset] [(.int p1)])) _
    refine X0.ldcInt hx hown (mvT hZ (hw _ (List.mem_of_getElem? (i := 0) rfl))) (g := (mkF m 1 #[.val (.int p1), .val (.int p2), .val (.int p3), .val (.int p4), .val (.int p5), .unset, .unset, .unset, .unset, .unset, .unset, .unset] [(.int p1)])) rfl (hb hby at_1) _ ?_
    show Steps p.tables e below (s₁.setTop (mkF m 3 #[.val (.int p1), .val (.int p2), .val (.int p3), .val (.int p4), .val (.int p5), .unset, .unset, .unset, .unset, .unset, .unset, .unset] [(.int (2147483647 : Int32)), (.int p1)])) _
    refine XS.iand X0.here hx rfl (hb hby at_3) rfl ?_
    show Steps p.tables e below (s₁.setTop (mkF m 4 #[.val (.int p1), .val (.int p2), .val (.int p3), .val (.int p4), .val (.int p5), .unset, .unset, .unset, .unset, .unset, .unset, .unset] [(.int (p1 &&& (2147483647 : Int32)))])) _
    refine XS.bipush X0.here hx rfl (hb hby at_4) ?_
    show Steps p.tables e below (s₁.setTop (mkF m 6 #[.val (.int p1), .val (.int p2), .val (.int p3), .val (.int p4), .val (.int p5), .unset, .unset, .unset, .unset, .unset, .unset, .unset] [(.int (6 : Int32)), (.int (p1 &&& (2147483647 : Int32)))])) _
    refine XS.irem X0.here hx rfl (hb hby at_6) rfl (by decide) ?_
    show Steps p.tables e below (s₁.setTop (mkF m 7 #[.val (.int p1), .val (.int p2), .val (.int p3), .val (.int p4), .val (.int p5), .unset, .unset, .unset, .unset, .unset, .unset, .unset] [(.int ((p1 &&& (2147483647 : Int32)) - ((p1 &&& (2147483647 : Int32)) / (6 : Int32)) * (6 : Int32)))])) _
    rw [own_irem ((p1 &&& (2147483647 : Int32))) ((6 : Int32))]
    show Steps p.tables e below (s₁.setTop (mkF m 7 #[.val (.int p1), .val (.int p2), .val (.int p3), .val (.int p4), .val (.int p5), .unset, .unset, .unset, .unset, .unset, .unset, .unset] [(.int ((p1 &&& (2147483647 : Int32)) % (6 : Int32)))])) _
    refine XS.istore X0.here hx rfl (hb hby at_7) rfl (l' := #[.val (.int p1), .val (.int p2), .val (.int p3), .val (.int p4), .val (.int p5), .val (.int ((p1 &&& (2147483647 : Int32)) % (6 : Int32))), .unset, .unset, .unset, .unset, .unset, .unset]) rfl ?_
    show Steps p.tables e below (s₁.setTop (mkF m 9 #[.val (.int p1), .val (.int p2), .val (.int p3), .val (.int p4), .val (.int p5), .val (.int ((p1 &&& (2147483647 : Int32)) % (6 : Int32))), .unset, .unset, .unset, .unset, .unset, .unset] [])) _
    refine XS.iloadN X0.here hx rfl (hb hby at_9) rfl ?_
    show Steps p.tables e below (s₁.setTop (mkF m 10 #[.val (.int p1), .val (.int p2), .val (.int p3), .val (.int p4), .val (.int p5), .val (.int ((p1 &&& (2147483647 : Int32)) % (6 : Int32))), .unset, .unset, .unset, .unset, .unset, .unset] [(.int p2)])) _
    refine X0.ldcInt hx hown (mvT hZ (hw _ (List.mem_of_getElem? (i := 1) rfl))) (g := (mkF m 10 #[.val (.int p1), .val (.int p2), .val (.int p3), .val (.int p4), .val (.int p5), .val (.int ((p1 &&& (2147483647 : Int32)) % (6 : Int32))), .unset, .unset, .unset, .unset, .unset, .unset] [(.int p2)])) rfl (hb hby at_10) _ ?_
    show Steps p.tables e below (s₁.setTop (mkF m 12 #[.val (.int p1), .val (.int p2), .val (.int p3), .val (.int p4), .val (.int p5), .val (.int ((p1 &&& (2147483647 : Int32)) % (6 : Int32))), .unset, .unset, .unset, .unset, .unset, .unset] [(.int (536870911 : Int32)), (.int p2)])) _
    refine XS.iand X0.here hx rfl (hb hby at_12) rfl ?_
    show Steps p.tables e below (s₁.setTop (mkF m 13 #[.val (.int p1), .val (.int p2), .val (.int p3), .val (.int p4), .val (.int p5), .val (.int ((p1 &&& (2147483647 : Int32)) % (6 : Int32))), .unset, .unset, .unset, .unset, .unset, .unset] [(.int (p2 &&& (536870911 : Int32)))])) _
    refine XS.istore X0.here hx rfl (hb hby at_13) rfl (l' := #[.val (.int p1), .val (.int p2), .val (.int p3), .val (.int p4), .val (.int p5), .val (.int ((p1 &&& (2147483647 : Int32)) % (6 : Int32))), .val (.int (p2 &&& (536870911 : Int32))), .unset, .unset, .unset, .unset, .unset]) rfl ?_
    show Steps p.tables e below (s₁.setTop (mkF m 15 #[.val (.int p1), .val (.int p2), .val (.int p3), .val (.int p4), .val (.int p5), .val (.int ((p1 &&& (2147483647 : Int32)) % (6 : Int32))), .val (.int (p2 &&& (536870911 : Int32))), .unset, .unset, .unset, .unset, .unset] [])) _
    refine XS.iloadN X0.here hx rfl (hb hby at_15) rfl ?_
    show Steps p.tables e below (s₁.setTop (mkF m 16 #[.val (.int p1), .val (.int p2), .val (.int p3), .val (.int p4), .val (.int p5), .val (.int ((p1 &&& (2147483647 : Int32)) % (6 : Int32))), .val (.int (p2 &&& (536870911 : Int32))), .unset, .unset, .unset, .unset, .unset] [(.int p3)])) _
    refine X0.ldcInt hx hown (mvT hZ (hw _ (List.mem_of_getElem? (i := 1) rfl))) (g := (mkF m 16 #[.val (.int p1), .val (.int p2), .val (.int p3), .val (.int p4), .val (.int p5), .val (.int ((p1 &&& (2147483647 : Int32)) % (6 : Int32))), .val (.int (p2 &&& (536870911 : Int32))), .unset, .unset, .unset, .unset, .unset] [(.int p3)])) rfl (hb hby at_16) _ ?_
    show Steps p.tables e below (s₁.setTop (mkF m 18 #[.val (.int p1), .val (.int p2), .val (.int p3), .val (.int p4), .val (.int p5), .val (.int ((p1 &&& (2147483647 : Int32)) % (6 : Int32))), .val (.int (p2 &&& (536870911 : Int32))), .unset, .unset, .unset, .unset, .unset] [(.int (536870911 : Int32)), (.int p3)])) _
    refine XS.iand X0.here hx rfl (hb hby at_18) rfl ?_
    show Steps p.tables e below (s₁.setTop (mkF m 19 #[.val (.int p1), .val (.int p2), .val (.int p3), .val (.int p4), .val (.int p5), .val (.int ((p1 &&& (2147483647 : Int32)) % (6 : Int32))), .val (.int (p2 &&& (536870911 : Int32))), .unset, .unset, .unset, .unset, .unset] [(.int (p3 &&& (536870911 : Int32)))])) _
    refine XS.istore X0.here hx rfl (hb hby at_19) rfl (l' := #[.val (.int p1), .val (.int p2), .val (.int p3), .val (.int p4), .val (.int p5), .val (.int ((p1 &&& (2147483647 : Int32)) % (6 : Int32))), .val (.int (p2 &&& (536870911 : Int32))), .val (.int (p3 &&& (536870911 : Int32))), .unset, .unset, .unset, .unset]) rfl ?_
    show Steps p.tables e below (s₁.setTop (mkF m 21 #[.val (.int p1), .val (.int p2), .val (.int p3), .val (.int p4), .val (.int p5), .val (.int ((p1 &&& (2147483647 : Int32)) % (6 : Int32))), .val (.int (p2 &&& (536870911 : Int32))), .val (.int (p3 &&& (536870911 : Int32))), .unset, .unset, .unset, .unset] [])) _
    refine XS.iloadN X0.here hx rfl (hb hby at_21) rfl ?_
    show Steps p.tables e below (s₁.setTop (mkF m 22 #[.val (.int p1), .val (.int p2), .val (.int p3), .val (.int p4), .val (.int p5), .val (.int ((p1 &&& (2147483647 : Int32)) % (6 : Int32))), .val (.int (p2 &&& (536870911 : Int32))), .val (.int (p3 &&& (536870911 : Int32))), .unset, .unset, .unset, .unset] [(.int p4)])) _
    refine X0.ldcInt hx hown (mvT hZ (hw _ (List.mem_of_getElem? (i := 1) rfl))) (g := (mkF m 22 #[.val (.int p1), .val (.int p2), .val (.int p3), .val (.int p4), .val (.int p5), .val (.int ((p1 &&& (2147483647 : Int32)) % (6 : Int32))), .val (.int (p2 &&& (536870911 : Int32))), .val (.int (p3 &&& (536870911 : Int32))), .unset, .unset, .unset, .unset] [(.int p4)])) rfl (hb hby at_22) _ ?_
    show Steps p.tables e below (s₁.setTop (mkF m 24 #[.val (.int p1), .val (.int p2), .val (.int p3), .val (.int p4), .val (.int p5), .val (.int ((p1 &&& (2147483647 : Int32)) % (6 : Int32))), .val (.int (p2 &&& (536870911 : Int32))), .val (.int (p3 &&& (536870911 : Int32))), .unset, .unset, .unset, .unset] [(.int (536870911 : Int32)), (.int p4)])) _
    refine XS.iand X0.here hx rfl (hb hby at_24) rfl ?_
    show Steps p.tables e below (s₁.setTop (mkF m 25 #[.val (.int p1), .val (.int p2), .val (.int p3), .val (.int p4), .val (.int p5), .val (.int ((p1 &&& (2147483647 : Int32)) % (6 : Int32))), .val (.int (p2 &&& (536870911 : Int32))), .val (.int (p3 &&& (536870911 : Int32))), .unset, .unset, .unset, .unset] [(.int (p4 &&& (536870911 : Int32)))])) _
    refine XS.istore X0.here hx rfl (hb hby at_25) rfl (l' := #[.val (.int p1), .val (.int p2), .val (.int p3), .val (.int p4), .val (.int p5), .val (.int ((p1 &&& (2147483647 : Int32)) % (6 : Int32))), .val (.int (p2 &&& (536870911 : Int32))), .val (.int (p3 &&& (536870911 : Int32))), .val (.int (p4 &&& (536870911 : Int32))), .unset, .unset, .unset]) rfl ?_
    show Steps p.tables e below (s₁.setTop (mkF m 27 #[.val (.int p1), .val (.int p2), .val (.int p3), .val (.int p4), .val (.int p5), .val (.int ((p1 &&& (2147483647 : Int32)) % (6 : Int32))), .val (.int (p2 &&& (536870911 : Int32))), .val (.int (p3 &&& (536870911 : Int32))), .val (.int (p4 &&& (536870911 : Int32))), .unset, .unset, .unset] [])) _
    refine XS.iload X0.here hx rfl (hb hby at_27) rfl ?_
    show Steps p.tables e below (s₁.setTop (mkF m 29 #[.val (.int p1), .val (.int p2), .val (.int p3), .val (.int p4), .val (.int p5), .val (.int ((p1 &&& (2147483647 : Int32)) % (6 : Int32))), .val (.int (p2 &&& (536870911 : Int32))), .val (.int (p3 &&& (536870911 : Int32))), .val (.int (p4 &&& (536870911 : Int32))), .unset, .unset, .unset] [(.int p5)])) _
    refine X0.ldcInt hx hown (mvT hZ (hw _ (List.mem_of_getElem? (i := 1) rfl))) (g := (mkF m 29 #[.val (.int p1), .val (.int p2), .val (.int p3), .val (.int p4), .val (.int p5), .val (.int ((p1 &&& (2147483647 : Int32)) % (6 : Int32))), .val (.int (p2 &&& (536870911 : Int32))), .val (.int (p3 &&& (536870911 : Int32))), .val (.int (p4 &&& (536870911 : Int32))), .unset, .unset, .unset] [(.int p5)])) rfl (hb hby at_29) _ ?_
    show Steps p.tables e below (s₁.setTop (mkF m 31 #[.val (.int p1), .val (.int p2), .val (.int p3), .val (.int p4), .val (.int p5), .val (.int ((p1 &&& (2147483647 : Int32)) % (6 : Int32))), .val (.int (p2 &&& (536870911 : Int32))), .val (.int (p3 &&& (536870911 : Int32))), .val (.int (p4 &&& (536870911 : Int32))), .unset, .unset, .unset] [(.int (536870911 : Int32)), (.int p5)])) _
    refine XS.iand X0.here hx rfl (hb hby at_31) rfl ?_
    show Steps p.tables e below (s₁.setTop (mkF m 32 #[.val (.int p1), .val (.int p2), .val (.int p3), .val (.int p4), .val (.int p5), .val (.int ((p1 &&& (2147483647 : Int32)) % (6 : Int32))), .val (.int (p2 &&& (536870911 : Int32))), .val (.int (p3 &&& (536870911 : Int32))), .val (.int (p4 &&& (536870911 : Int32))), .unset, .unset, .unset] [(.int (p5 &&& (536870911 : Int32)))])) _
    refine XS.istore X0.here hx rfl (hb hby at_32) rfl (l' := #[.val (.int p1), .val (.int p2), .val (.int p3), .val (.int p4), .val (.int p5), .val (.int ((p1 &&& (2147483647 : Int32)) % (6 : Int32))), .val (.int (p2 &&& (536870911 : Int32))), .val (.int (p3 &&& (536870911 : Int32))), .val (.int (p4 &&& (536870911 : Int32))), .val (.int (p5 &&& (536870911 : Int32))), .unset, .unset]) rfl ?_
    exact kt
  exact S34 _ _ _ _ X0 (Nat.le_trans (Nat.le_refl 0) (by decide)) (Nat.le_trans (Nat.le_refl 0) (by decide)) h0 e0 N0 ((p1 &&& (2147483647 : Int32)) % (6 : Int32)) (p2 &&& (536870911 : Int32)) (p3 &&& (536870911 : Int32)) (p4 &&& (536870911 : Int32)) (p5 &&& (536870911 : Int32)) (Keep.refl h0 []) (own_len p1) (own_e p2) (own_e p3) (own_e p4) (own_e p5)
set_option maxRecDepth 65536 in
set_option maxHeartbeats 40000000 in
theorem comes_1 {Post : Tables → Env → Array Value → State → Outcome → State → Prop} (hpost : ∀ tb e args s v u, (limb_1_1.after args s (.returned v) u = true ∧ limb_1_2.after args s (.returned v) u = true ∧ True) → FrameEnd s (.returned v) u (Jvm.fieldLocs frame_1_writes args s ++ Jvm.arrayLocs frame_1_arrays args s ++ Jvm.staticLocs frame_1_statics s) 16 128 → Post tb e args s (.returned v) u) :
    ArmFor flags0 classFile x code maxLocals ret World_1 tables_1 room_1 Calls_1 rest_1 Pre_1 Post := by
  intro l hfl _ _ p e ha hc hk s m args below hf hA hF happ hP
  obtain ⟨hcalls, hrest, hpre⟩ := hP
  obtain ⟨-, -, -, hnamed, -, -, -, hat⟩ := (Spec.applies_iff hf).mp happ
  obtain ⟨hg, hn⟩ := and_e (Cond.before_iff.mp (show (Jvm.Cond.and given_1 narrow_1).before args s = true from hpre))
  obtain ⟨g1, g2⟩ := and_e hg
  obtain ⟨g3, g4⟩ := and_e g2
  obtain ⟨g5, g6⟩ := and_e g4
  obtain ⟨g7, g8⟩ := and_e g6
  obtain ⟨g9, g10⟩ := and_e g8
  obtain ⟨w0, w1, w2, w3, w4, rfl⟩ : ∃ w0 w1 w2 w3 w4 : Value, args = #[w0, w1, w2, w3, w4] := by
    have hs : args.size = 5 := by simpa [Cond.value, given_1] using g1
    obtain ⟨L⟩ := args
    match L, hs with
    | [w0, w1, w2, w3, w4], _ => exact ⟨w0, w1, w2, w3, w4, rfl⟩
  have hw := fun d (hd : d ∈ tables_1) => atoms_spec (ws := Jvm.Cond.code x code maxLocals ret :: tables_1) hat d (List.mem_cons_of_mem _ hd)
  obtain ⟨i0, ei0⟩ := is_v g3
  obtain rfl : w0 = (.int i0) := Option.some.inj ei0
  obtain ⟨i1, ei1⟩ := is_v g5
  obtain rfl : w1 = (.int i1) := Option.some.inj ei1
  obtain ⟨i2, ei2⟩ := is_v g7
  obtain rfl : w2 = (.int i2) := Option.some.inj ei2
  obtain ⟨i3, ei3⟩ := is_v g9
  obtain rfl : w3 = (.int i3) := Option.some.inj ei3
  obtain ⟨i4, ei4⟩ := is_v g10
  obtain rfl : w4 = (.int i4) := Option.some.inj ei4
  obtain ⟨n, o, h1, h2, h3, _, L, rfl, ⟨hv, N⟩, hq⟩ := rm_0 l s _ hw tables_1 i0 i1 i2 i3 i4  s.heap s.heap.size (Nat.le_refl _)  p e ha hc hk s m _ below hf ((Spec.applies_iff_loose hf).mp happ).1 ⟨rfl, State.Warmed39.refl s, rfl⟩ trivial
  subst hv
  refine ⟨n, _, h1, h2, h3, hpost _ _ _ _ _ _ ⟨Cond.after_iff.mpr rfl, Cond.after_iff.mpr (eq_i res_at (Term.int_eval (1)) rfl), trivial⟩ ⟨hq.1, hq.2.1, (hq.2.2.sift fun y hy => Or.inr (N y hy)).mono (by decide) (by decide)⟩⟩
theorem main_1_1 : Claimed_1_1 := comes_1 fun _ _ _ _ _ _ h hF => ⟨h.1, hF⟩
theorem main_1_2 : Claimed_1_2 := comes_1 fun _ _ _ _ _ _ h hF => ⟨h.2.1, hF⟩
end Jvm.Pilot.@@N@@
namespace Jvm.Pilot.@@N@@
open Jvm Jvm.ClassFile Sem Op Lib Jvm.Free Jvm.Stand Jvm.Pilot.@@N@@.Jvm.D
/-! MADE BY PROGRAM (witnessworld.py) out of the Statement's table words and the real class files: 10 classes; the members and pool entries that the words name. The judged class is class 1, her method 1. -/
namespace start1
open Jvm.ClassFile
def u (s : String) : CpInfo := .utf8 (stringToUtf16 s)
/-- a pool by its gaps: so many unusable entries, then the entry; so many at the end -/
def gap : Nat → List CpInfo → List CpInfo
  | 0, r => r
  | n + 1, r => .unusable :: gap n r
def poolList (es : List (Nat × CpInfo)) (last : Nat) : List CpInfo := es.foldr (fun e r => gap e.1 (e.2 :: r)) (gap last [])
def pool (es : List (Nat × CpInfo)) (last : Nat) : Array CpInfo := ⟨poolList es last⟩
def fileOf (pool : Array CpInfo) (this : Nat) (attrs : Array Attribute := #[]) (ms : Array MethodInfo := #[]) (fl : Nat := 33) (sup : Nat := 0) (ifs : Array Nat := #[]) (fds : Array FieldInfo := #[]) : ClassFile where
  minorVersion := 0
  majorVersion := 65
  constantPool := pool
  accessFlags := fl
  thisClass := this
  superClass := sup
  interfaces := ifs
  fields := fds
  methods := ms
  attributes := attrs
def plain (name : String) (sup : Option ClassId) : Class where
  name := name
  kind := .ordinary
  loader := none
  accessFlags := 33
  super := sup
  interfaces := #[]
  cf := none
  fields := #[]
  methods := #[]
  instanceTypes := #[]
  staticTypes := #[]
  resolved := #[]
  callSites := []
  init := .initialized
  statics := none
  mirror := none

def pool0 : Array CpInfo := pool [(5, u "<init>"), (0, u "()V"), (1, .class_ 10), (1, u "java/lang/Object")] 113

def k0m0 : Method := { name := "<init>", desc := "()V", sig := { parameters := [], returnType := none }, accessFlags := 1, code := none }
/-- java/lang/Object -/
def k0 : Class := { plain "java/lang/Object" none with
  accessFlags := 33
  interfaces := #[]
  cf := some (fileOf pool0 8 #[] #[{ accessFlags := 1, nameIndex := 5, descriptorIndex := 6, attributes := #[] }] 33 0 #[] #[])
  fields := #[]
  methods := #[k0m0]
  instanceTypes := #[]
  staticTypes := #[]
  resolved := Array.replicate 124 none
  statics := none }

def pool1 : Array CpInfo := pool [(2, .class_ 4), (1, u "java/lang/Object"), (0, u "<init>"), (0, u "()V"), (0, .integer 2147483647), (0, .integer 536870911), (0, .methodref 10 11), (0, .class_ 12), (0, .nameAndType 13 14), (0, u "java/lang/Math"), (0, u "max"), (0, u "(II)I"), (0, .methodref 16 17), (0, .class_ 18), (0, .nameAndType 19 20), (0, u "com/example/laneweave/laneweave/Overlap"), (0, u "longest"), (0, u "([I)I"), (0, .class_ 22), (0, u "com/example/laneweave/laneweave/OverlapLongestPinLaw"), (2, u "law"), (0, u "(IIIII)Z")] 5

def k1m0 : Method := { name := "<init>", desc := "()V", sig := { parameters := [], returnType := none }, accessFlags := 2, code := none }
def k1c1 : Code := { maxStack := 4, maxLocals := 12, code := code, exceptionTable := #[], attributes := #[] }
def k1m1 : Method := { name := "law", desc := "(IIIII)Z", sig := { parameters := [.int, .int, .int, .int, .int], returnType := some .boolean }, accessFlags := 9, code := some k1c1 }
/-- com/example/laneweave/laneweave/OverlapLongestPinLaw -/
def k1 : Class := { plain "com/example/laneweave/laneweave/OverlapLongestPinLaw" (some 0) with
  accessFlags := 49
  interfaces := #[]
  cf := some (fileOf pool1 21 #[] #[{ accessFlags := 2, nameIndex := 5, descriptorIndex := 6, attributes := #[] }, { accessFlags := 9, nameIndex := 25, descriptorIndex := 26, attributes := #[] }] 49 2 #[] #[])
  fields := #[]
  methods := #[k1m0, k1m1]
  instanceTypes := #[]
  staticTypes := #[]
  resolved := Array.replicate 32 none
  statics := none }

def pool2 : Array CpInfo := pool [(2, .class_ 4), (1, u "java/lang/Object"), (0, u "<init>"), (0, u "()V"), (3, .class_ 12), (1, u "java/lang/Math"), (2, .class_ 16), (0, u "com/example/laneweave/laneweave/Overlap"), (8, u "(II)I"), (0, .methodref 10 27), (0, .nameAndType 28 25), (0, u "max"), (0, u "RUN_ELEMENTS"), (0, u "I"), (11, u "longest"), (0, u "([I)I")] 2

def k2m0 : Method := { name := "<init>", desc := "()V", sig := { parameters := [], returnType := none }, accessFlags := 2, code := none }
def k2c1 : Code := { maxStack := 5, maxLocals := 3, code := prog_18_method_4_code, exceptionTable := #[], attributes := #[] }
def k2m1 : Method := { name := "longest", desc := "([I)I", sig := { parameters := [(.array .int)], returnType := some .int }, accessFlags := 8, code := some k2c1 }
/-- com/example/laneweave/laneweave/Overlap -/
def k2 : Class := { plain "com/example/laneweave/laneweave/Overlap" (some 0) with
  accessFlags := 48
  interfaces := #[]
  cf := some (fileOf pool2 15 #[] #[{ accessFlags := 2, nameIndex := 5, descriptorIndex := 6, attributes := #[] }, { accessFlags := 8, nameIndex := 42, descriptorIndex := 43, attributes := #[] }] 48 2 #[] #[{ accessFlags := 26, nameIndex := 29, descriptorIndex := 30, attributes := #[] }])
  fields := #[{ name := "RUN_ELEMENTS", type := .int, accessFlags := 26, slot := 0, constantValue := 0 }]
  methods := #[k2m0, k2m1]
  instanceTypes := #[]
  staticTypes := #[.int]
  resolved := Array.replicate 46 none
  statics := none }

def pool3 : Array CpInfo := pool [(1, .class_ 2), (0, u "java/lang/Math"), (1, .class_ 6), (1, u "java/lang/Object"), (0, u "<init>"), (0, u "()V"), (89, .class_ 100), (1, u "java/lang/Math$RandomNumberGeneratorHolder"), (71, u "negativeZeroFloatBits"), (0, u "J"), (2, u "negativeZeroDoubleBits"), (21, u "max"), (46, u "$assertionsDisabled"), (0, u "Z"), (88, u "(II)I"), (2, u "twoToTheDoubleScaleDown"), (0, u "D"), (4, u "twoToTheDoubleScaleUp"), (9, u "E"), (3, u "PI"), (2, u "TAU"), (2, u "DEGREES_TO_RADIANS"), (0, u "RADIANS_TO_DEGREES")] 94

def k3m0 : Method := { name := "<init>", desc := "()V", sig := { parameters := [], returnType := none }, accessFlags := 2, code := none }
def k3c1 : Code := { maxStack := 2, maxLocals := 2, code := jdk_29_method_65_code, exceptionTable := #[], attributes := #[] }
def k3m1 : Method := { name := "max", desc := "(II)I", sig := { parameters := [.int, .int], returnType := some .int }, accessFlags := 9, code := some k3c1 }
/-- java/lang/Math -/
def k3 : Class := { plain "java/lang/Math" (some 0) with
  accessFlags := 49
  interfaces := #[]
  cf := some (fileOf pool3 1 #[.nestMembers #[98]] #[{ accessFlags := 2, nameIndex := 7, descriptorIndex := 8, attributes := #[] }, { accessFlags := 9, nameIndex := 198, descriptorIndex := 335, attributes := #[] }] 49 4 #[] #[{ accessFlags := 25, nameIndex := 354, descriptorIndex := 339, attributes := #[] }, { accessFlags := 25, nameIndex := 358, descriptorIndex := 339, attributes := #[] }, { accessFlags := 25, nameIndex := 361, descriptorIndex := 339, attributes := #[] }, { accessFlags := 26, nameIndex := 364, descriptorIndex := 339, attributes := #[] }, { accessFlags := 26, nameIndex := 365, descriptorIndex := 339, attributes := #[] }, { accessFlags := 26, nameIndex := 172, descriptorIndex := 173, attributes := #[] }, { accessFlags := 26, nameIndex := 176, descriptorIndex := 173, attributes := #[] }, { accessFlags := 8, nameIndex := 344, descriptorIndex := 339, attributes := #[] }, { accessFlags := 8, nameIndex := 338, descriptorIndex := 339, attributes := #[] }, { accessFlags := 4120, nameIndex := 245, descriptorIndex := 246, attributes := #[] }])
  fields := #[{ name := "E", type := .double, accessFlags := 25, slot := 0, constantValue := 0 }, { name := "PI", type := .double, accessFlags := 25, slot := 1, constantValue := 0 }, { name := "TAU", type := .double, accessFlags := 25, slot := 2, constantValue := 0 }, { name := "DEGREES_TO_RADIANS", type := .double, accessFlags := 26, slot := 3, constantValue := 0 }, { name := "RADIANS_TO_DEGREES", type := .double, accessFlags := 26, slot := 4, constantValue := 0 }, { name := "negativeZeroFloatBits", type := .long, accessFlags := 26, slot := 5, constantValue := 0 }, { name := "negativeZeroDoubleBits", type := .long, accessFlags := 26, slot := 6, constantValue := 0 }, { name := "twoToTheDoubleScaleUp", type := .double, accessFlags := 8, slot := 7, constantValue := 0 }, { name := "twoToTheDoubleScaleDown", type := .double, accessFlags := 8, slot := 8, constantValue := 0 }, { name := "$assertionsDisabled", type := .boolean, accessFlags := 4120, slot := 9, constantValue := 0 }]
  methods := #[k3m0, k3m1]
  instanceTypes := #[]
  staticTypes := #[.double, .double, .double, .double, .double, .long, .long, .double, .double, .boolean]
  resolved := Array.replicate 460 none
  statics := none }

def pool4 : Array CpInfo := pool [(1, u "java/lang/Cloneable"), (0, .class_ 1), (0, u "java/lang/Object"), (0, .class_ 3)] 3

/-- java/lang/Cloneable -/
def k4 : Class := { plain "java/lang/Cloneable" (some 0) with
  accessFlags := 1537
  interfaces := #[]
  cf := some (fileOf pool4 2 #[] #[] 1537 4 #[] #[])
  fields := #[]
  methods := #[]
  instanceTypes := #[]
  staticTypes := #[]
  resolved := Array.replicate 8 none
  statics := none }

def pool5 : Array CpInfo := pool [(1, u "java/io/Serializable"), (0, .class_ 1), (0, u "java/lang/Object"), (0, .class_ 3)] 3

/-- java/io/Serializable -/
def k5 : Class := { plain "java/io/Serializable" (some 0) with
  accessFlags := 1537
  interfaces := #[]
  cf := some (fileOf pool5 2 #[] #[] 1537 4 #[] #[])
  fields := #[]
  methods := #[]
  instanceTypes := #[]
  staticTypes := #[]
  resolved := Array.replicate 8 none
  statics := none }

/-- the primitive byte -/
def k6 : Class := { plain "byte" none with kind := .primitive 'B', accessFlags := 0x411 }
/-- [B -/
def k7 : Class := { plain "[B" (some 0) with kind := .array 6 .byte, interfaces := #[4, 5], accessFlags := 1041 }

/-- the primitive int -/
def k8 : Class := { plain "int" none with kind := .primitive 'I', accessFlags := 0x411 }
/-- [I -/
def k9 : Class := { plain "[I" (some 0) with kind := .array 8 .int, interfaces := #[4, 5], accessFlags := 1041 }

def heap : Heap := #[]
def classes : Array Class := #[k0, k1, k2, k3, k4, k5, k6, k7, k8, k9]
def interned : List (Array UInt16 × Addr) := []
def slotsUsed : Nat := 0
def theMethod : MethodId := ⟨1, 1⟩
def args0 : Array Value := #[.int 5, .int 3, .int 1, .int 2, .int 4]
def aboutOver (below : List Frame) : State where
  vm := { classes := classes, interned := interned.toArray }
  heap := heap
  slotsUsed := slotsUsed
  threads := #[{ frames := .invoking theMethod args0 :: below }]
def below0 : List Frame := [.native { method := ⟨0, 0⟩, args := #[] }]
def about1 : State := aboutOver below0
def p0 : Program := .bare "" "" ""
def e0 : Env := launch0.env 0 0 0
theorem w_frames : about1.frames = Frame.invoking theMethod args0 :: below0 := rfl
set_option maxRecDepth 65536 in
theorem w_args : argsFit about1.vm theMethod args0 = true := by decide +kernel
set_option maxRecDepth 65536 in
theorem w_heap : heapFits about1 = true := by decide +kernel
set_option maxRecDepth 65536 in
theorem w_runnable : about1.curStatus? = some .runnable := by decide +kernel
set_option maxRecDepth 65536 in
theorem w_alone : about1.alone = true := by decide +kernel
set_option maxRecDepth 65536 in
theorem w_named : about1.methodNamed? x = some theMethod := by decide +kernel
set_option maxRecDepth 65536 in
theorem w_hears : about1.hears theMethod below0 = true := by decide +kernel
set_option maxRecDepth 65536 in
theorem w_ripe : about1.ripe theMethod args0 below0 = true := by decide +kernel
theorem w_running : about1.status = .running := rfl
set_option maxRecDepth 65536 in
theorem w_room : about1.hasRoom e0.platform room_1 = true :=
  launch0.hasRoom_least _ room_1 (by decide +kernel) (by decide +kernel) (by decide +kernel) (by decide +kernel) (by decide +kernel) (by decide +kernel)
theorem allAtoms_all (ts : List Jvm.Cond) (a : Array Jvm.Value) (st : Jvm.State) : (allAtoms ts).before a st = ts.all (fun c => c.before a st) := by
  induction ts with
  | nil => rfl
  | cons c t ih =>
    show (Jvm.Cond.and c (allAtoms t)).before a st = _
    rw [Jvm.Cond.before_and, ih, List.all_cons]
def words1 : List Jvm.Cond := Jvm.Cond.code x code maxLocals ret :: tables_1
/-- a 'code' word, met by the world's own term for the bytes: nothing is compared byte by byte -/
theorem code_word {y : MethodName} {bytes : ByteArray} {mx : Nat} {rt : Option FieldType} {a : Array Value} {s : State} {m : MethodId} {meth : Method} {c : Code} (h1 : s.methodNamed? y = some m) (h2 : s.vm.method? m = some meth) (h3 : meth.code = some c) (h4 : c.code = bytes)
    (h5 : (c.maxLocals == mx && c.exceptionTable.isEmpty && decide (c.maxStack ≤ mostOperands) && decide (meth.sig.returnType = rt) && !meth.locks && decide (parseMethodDescriptor y.desc = some meth.sig)) = true) : (Jvm.Cond.code y bytes mx rt).before a s = true := by
  simp only [Bool.and_eq_true, beq_iff_eq, Bool.not_eq_true', decide_eq_true_eq] at h5
  obtain ⟨⟨⟨⟨⟨g1, g2⟩, g3⟩, g4⟩, g5⟩, g6⟩ := h5
  simp [Cond.before, Cond.holds, Cond.value, h1, h2, h3, h4, g1, g2, g3, g4, g5, g6]
def isCode : Jvm.Cond → Bool
  | .code _ _ _ _ => true
  | _ => false
theorem all_split {L : List Jvm.Cond} {P : Jvm.Cond → Bool} (h1 : L.all (fun c => isCode c || P c) = true) (h2 : ∀ c ∈ L.filter isCode, P c = true) : L.all P = true := by
  refine List.all_eq_true.mpr fun c hc => ?_
  have h := List.all_eq_true.mp h1 c hc
  rcases Bool.eq_false_or_eq_true (isCode c) with hi | hi
  · exact h2 c (List.mem_filter.mpr ⟨hc, hi⟩)
  · simpa [hi] using h
set_option maxRecDepth 65536 in
theorem w_c0 : (Jvm.Cond.code x code maxLocals ret).before args0 about1 = true := code_word (m := ⟨1, 1⟩) (meth := k1m1) (c := k1c1) (by decide +kernel) rfl rfl rfl (by decide +kernel)
set_option maxRecDepth 65536 in
theorem w_c1 : (Jvm.Cond.code ({ cls := "com/example/laneweave/laneweave/Overlap", name := "longest", desc := "([I)I" } : Jvm.MethodName) prog_18_method_4_code (3 : Nat) (Option.some Jvm.ClassFile.FieldType.int)).before args0 about1 = true := code_word (m := ⟨2, 1⟩) (meth := k2m1) (c := k2c1) (by decide +kernel) rfl rfl rfl (by decide +kernel)
set_option maxRecDepth 65536 in
theorem w_c2 : (Jvm.Cond.code ({ cls := "java/lang/Math", name := "max", desc := "(II)I" } : Jvm.MethodName) jdk_29_method_65_code (2 : Nat) (Option.some Jvm.ClassFile.FieldType.int)).before args0 about1 = true := code_word (m := ⟨3, 1⟩) (meth := k3m1) (c := k3c1) (by decide +kernel) rfl rfl rfl (by decide +kernel)
def codes1 : List Jvm.Cond := [Jvm.Cond.code x code maxLocals ret, Jvm.Cond.code ({ cls := "com/example/laneweave/laneweave/Overlap", name := "longest", desc := "([I)I" } : Jvm.MethodName) prog_18_method_4_code (3 : Nat) (Option.some Jvm.ClassFile.FieldType.int), Jvm.Cond.code ({ cls := "java/lang/Math", name := "max", desc := "(II)I" } : Jvm.MethodName) jdk_29_method_65_code (2 : Nat) (Option.some Jvm.ClassFile.FieldType.int)]
set_option maxRecDepth 65536 in
theorem codes_eq : words1.filter isCode = codes1 := rfl
theorem w_codes : ∀ c ∈ words1.filter isCode, c.before args0 about1 = true := by
  rw [codes_eq]
  intro c hc
  simp only [codes1, List.mem_cons, List.not_mem_nil, or_false] at hc
  rcases hc with rfl | rfl | rfl
  · exact w_c0
  · exact w_c1
  · exact w_c2
set_option maxRecDepth 65536 in
theorem w_t1 : words1.all (fun c => isCode c || c.before args0 about1) = true := by decide +kernel
theorem w_tables : (allAtoms (Jvm.Cond.code x code maxLocals ret :: tables_1)).before args0 about1 = true := by
  rw [allAtoms_all]
  show words1.all (fun c => c.before args0 about1) = true
  refine all_split ?_ w_codes
  rw [w_t1]
set_option maxRecDepth 65536 in
theorem w_case : (Jvm.Cond.and given_1 narrow_1).before args0 about1 = true := by decide +kernel
theorem w_applies : (headSpec (Jvm.Cond.code x code maxLocals ret :: tables_1) room_1).applies x e0.platform about1 = true :=
  (Spec.applies_iff w_frames).mpr ⟨w_running, w_runnable, w_alone, w_named, w_hears, w_ripe, w_room, w_tables⟩
theorem atStart : AtStart classFile x code maxLocals ret World_1 tables_1 room_1 Calls_1 rest_1 Pre_1 launch0 p0 e0 about1 theMethod args0 below0 :=
  ⟨lists_1, trivial, launch0.admits_env _ _ _, launch0.least_env, fairChoices_fair.cas, fairChoices_fair.clock, w_frames, w_args, w_heap, w_applies, trivial, trivial, w_case⟩
end start1
theorem witness_1 : WitnessClaimed_1 := ⟨start1.p0, start1.e0, start1.about1, start1.theMethod, start1.args0, start1.below0, start1.atStart⟩
end Jvm.Pilot.@@N@@
