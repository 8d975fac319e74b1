import JvmDerived
import JvmDerived.Pilot.@@N@@Statement
import JvmDerived.Pilot.@@N@@Code
set_option linter.unusedVariables false
set_option linter.unusedSimpArgs false
namespace Jvm.RoadKit
open Sem ClassFile Op Lib Jvm.Stand Jvm.Free Jvm.LawKit
section New
variable {p : Program} {l : Launch} {e : Env} {R : Room} {s : State} {m : MethodId} {args : Array Value} {below : List Frame} {meth : Method} {c : Code} {T : State} {locs : List Loc} {cells slots : Nat}
theorem retI (X : Stand p l e R s m args below meth c T locs cells slots) (hx : p.tables.exec = Jvm.exec) {pc : Nat} {Ls : Array Slot} {z : Int32} {rest : List Value} (hret : meth.sig.returnType = some .int) (hd : decode c.code pc = .ok (.ireturn, 1)) {fs : List Frame}
    (hl : ∀ (f : JFrame) (acts : List Action), f.method = m → f.locked = none → f.entered = [] → (doReturn e (T.setTop f) acts (some (.int z))).1 = T.setFrames fs) : Steps p.tables e below (T.setTop (mkF m pc Ls (.int z :: rest))) (T.setFrames fs) := by
  have hm' : T.vm.method? m = some meth := X.method'
  have hn : narrow .int (.int z) = .int z := rfl
  show Steps p.tables e below (T.setTop { method := m, pc := pc, locals := Ls, stack := _ :: rest, locked := none }) _
  jvm_step X.here [X.here.top, hx, hd, hm', hret, hn]
  first | (intro acts; rw [hl _ acts rfl rfl rfl]) | rw [hl _ _ rfl rfl rfl]
  exact Steps.refl _
/-- from here the walk comes to a good end -/
def Go (p : Program) (e : Env) (below : List Frame) (s : State) (Q : Option Value → Heap → List Loc → Prop) (C S : Nat) (T : State) (f : JFrame) : Prop :=
  ∃ s₂ o, Steps p.tables e below (T.setTop f) s₂ ∧ s₂.status = .running ∧ Ended s₂ below o ∧ ∃ v L, o = .returned v ∧ Q v s₂.heap L ∧ FrameEnd s o s₂ L C S
theorem Go.step {Q : Option Value → Heap → List Loc → Prop} {C S : Nat} {T' : State} {f f' : JFrame} (k : ∀ t, Steps p.tables e below (T'.setTop f') t → Steps p.tables e below (T.setTop f) t) (h : Go p e below s Q C S T' f') : Go p e below s Q C S T f := by
  obtain ⟨s₂, o, h1, h2⟩ := h
  exact ⟨s₂, o, k _ h1, h2⟩
theorem Go.cast {Q : Option Value → Heap → List Loc → Prop} {C S : Nat} {f f' : JFrame} (q : f = f') (h : Go p e below s Q C S T f') : Go p e below s Q C S T f := q ▸ h
theorem Go.fin (X : Stand p l e R s m args below meth c T locs cells slots) {Q : Option Value → Heap → List Loc → Prop} {C S : Nat} {f : JFrame} {v : Option Value} (hv : meth.sig.returnType = none → v = none) (hl : meth.locks = false) (hQ : Q v T.heap locs) (hc : cells ≤ C) (hs : slots ≤ S)
    (k : ∀ fs, (∀ (f : JFrame) (acts : List Action), f.method = m → f.locked = none → f.entered = [] → (doReturn e (T.setTop f) acts v).1 = T.setFrames fs) → Steps p.tables e below (T.setTop f) (T.setFrames fs)) : Go p e below s Q C S T f := by
  obtain ⟨fs, hr, hrun, hended, hW, hsame⟩ := X.leave (v := v) hv hl
  exact ⟨_, _, k fs hr, hrun, hended, v, locs, rfl, hQ, ⟨_, rfl⟩, hW, hsame.mono hc hs⟩
theorem own_lrem (x y : Int64) : x - (x / y) * y = x % y := lrem_mod x y
theorem own_irem (x y : Int32) : x - (x / y) * y = x % y := by
  apply Int32.toInt_inj.mp
  have h1 := Int32.le_toInt (x % y)
  have h2 := Int32.toInt_lt (x % y)
  rw [Int32.toInt_sub, Int32.toInt_mul, Int32.toInt_div, Int.bmod_mul_bmod, Int.sub_bmod_bmod, Int.mul_comm (x.toInt.tdiv y.toInt), ← Int.tmod_def, ← Int32.toInt_mod]
  exact Int.bmod_eq_of_le_mul_two (by omega) (by omega)
theorem own_fin {x : Int32} {n : Nat} (h0 : 0 ≤ x.toInt) (h1 : x.toInt < n) (h2 : n ≤ 2147483648) : ∃ k : Fin n, x = Int32.ofNat k.val := by
  refine ⟨⟨x.toInt.toNat, by omega⟩, Int32.toInt_inj.mp ?_⟩
  have q : (x.toInt.toNat).toInt32.toInt = x.toInt.toNat := len_toInt (by omega)
  show x.toInt = (x.toInt.toNat).toInt32.toInt
  rw [q]; omega
theorem own_i2c {x : Int32} (h0 : 0 ≤ x.toInt) (h1 : x.toInt < 65536) : x.toUInt32.toUInt16.toUInt32.toInt32 = x := Int32.toInt_inj.mp (by have := c_i2c x; omega)
theorem own_rem (x y : Int32) (h0 : 0 ≤ x.toInt) : (x % y).toInt = x.toInt % y.toInt := by rw [Int32.toInt_mod, (tr _ _).1 h0]
theorem own_remL (x y : Int64) (h0 : 0 ≤ x.toInt) : (x % y).toInt = x.toInt % y.toInt := by rw [Int64.toInt_mod, (tr _ _).1 h0]
theorem own_div (x y : Int32) (h0 : 0 ≤ x.toInt) (h1 : 0 < y.toInt) : (x / y).toInt = x.toInt / y.toInt := (c_idiv x y _ rfl (fun q => by rw [q] at h1; exact absurd h1 (by decide))).1 h0
theorem own_add {x y : Int32} (h0 : -2147483648 ≤ x.toInt + y.toInt) (h1 : x.toInt + y.toInt < 2147483648) : (x + y).toInt = x.toInt + y.toInt := by have := c_iadd x y; have := rng32 (x + y); omega
theorem own_sub {x y : Int32} (h0 : -2147483648 ≤ x.toInt - y.toInt) (h1 : x.toInt - y.toInt < 2147483648) : (x - y).toInt = x.toInt - y.toInt := by have := c_isub x y; have := rng32 (x - y); omega
theorem own_mul {x y : Int32} (h0 : -2147483648 ≤ x.toInt * y.toInt) (h1 : x.toInt * y.toInt < 2147483648) : (x * y).toInt = x.toInt * y.toInt := by have := c_imul x y; have := rng32 (x * y); omega
theorem own_nat {j : Int32} (h0 : 0 ≤ j.toInt) : (j.toNatClampNeg : Int) = j.toInt := by simp only [Int32.toNatClampNeg]; omega
section Heaps
variable {Z : State} {h h' : Heap} {a b : Addr} {ty : FieldType} {vs : List Value} {sl : Nat} {v : Value} {ws : List Addr}
/-- an array and all that lies in it -/
def VA (Z : State) (h : Heap) (a : Addr) (ty : FieldType) (vs : List Value) : Prop := ∃ c : Cell, Arr Z h a c ty ∧ c.slots.toList = vs ∧ vs.length < 2 ^ 31
theorem VA.lt (F : VA Z h a ty vs) : a < h.size := by obtain ⟨c, A, -⟩ := F; exact A.lt
theorem VA.len (F : VA Z h a ty vs) : vs.length < 2 ^ 31 := by obtain ⟨c, A, -, r⟩ := F; exact r
theorem VA.ext (F : VA Z h a ty vs) (E : Ext h h') : VA Z h' a ty vs := by obtain ⟨c, A, r⟩ := F; exact ⟨c, A.ext E, r⟩
theorem VA.other (F : VA Z h b ty vs) (W : Wr h h' a sl v) (q : b ≠ a) : VA Z h' b ty vs := by obtain ⟨c, A, r⟩ := F; exact ⟨c, A.other W q, r⟩
theorem VA.keep (F : VA Z h a ty vs) (K : Keep h h' ws) (q : a ∉ ws) : VA Z h' a ty vs := by obtain ⟨c, A, r⟩ := F; exact ⟨c, ⟨K.2.1 a c A.1 q, A.2⟩, r⟩
theorem VA.new {k : ClassId} {n : Int32} (A : Arr Z h a (newA k ty n) ty) (q : ¬ n < 0) : VA Z h a ty (List.replicate n.toNatClampNeg (defaultValue ty)) :=
  ⟨_, A, by simp [newA], by rw [List.length_replicate]; exact (back32 q).2⟩
theorem VA.inb (F : VA Z h a ty vs) {j : Int32} (h0 : 0 ≤ j.toInt) (h1 : j.toInt < vs.length) : ∃ c : Cell, Arr Z h a c ty ∧ ¬ (j < 0 ∨ c.slots.size ≤ j.toNatClampNeg) ∧ c.slots[j.toNatClampNeg]? = vs[j.toNatClampNeg]? ∧ ∀ h' v, Wr h h' a j.toNatClampNeg v → VA Z h' a ty (vs.set j.toNatClampNeg v) := by
  obtain ⟨c, A, rfl, r⟩ := F
  have hj := own_nat h0
  rw [Array.length_toList] at h1
  refine ⟨c, A, ?_, (Array.getElem?_toList ..).symm, fun h' v W => ⟨_, A.same W, ?_, ?_⟩⟩
  · rw [Int32.lt_iff_toInt_lt]
    have k0 : (0 : Int32).toInt = 0 := rfl
    omega
  · simp [Cell.setSlot]
  · rw [List.length_set]; exact r
theorem VA.ne_exa {C : String} {a0 : Array Value} {k : Nat} (F : VA Z h b ty vs) (G : Exa Z h a C) (wi : (Cond.instantiable C k).before a0 Z = true) : a ≠ b := by obtain ⟨c, A, -⟩ := F; exact ne_arr G wi A
end Heaps
theorem own_psel {y : MethodName} {n : Nat} (wi : (Cond.instantiable y.cls n).before args s = true) (hpriv : s.PrivateAt y) (hinst : (Cond.instanceMethod y).before args s = true) (hy : y.cls ≠ "java/lang/invoke/MethodHandle" ∧ y.cls ≠ "java/lang/invoke/VarHandle") : (Cond.selects y.cls y y).before args s = true := by
  obtain ⟨c, k, h1, h2, -, h4, -, -⟩ := Cond.instantiable_spec wi
  exact selects_self_of_private h1 h2 (by cases q : k.isInterface; rfl; rw [q] at h4; simp at h4) hpriv hinst hy
section Steps2
variable {Z : State} {h : Heap} {a : Addr} {a0 : Array Value}
theorem ldI (X : Stand p l e R s m args below meth c T locs cells slots) (hx : p.tables.exec = Jvm.exec) (hZ : Z.Warmed39 s.vm) (eT : T.heap = h) {vs : List Int32} (F : VA Z h a .int (vs.map Value.int)) {j : Int32} (h0 : 0 ≤ j.toInt) (h1 : j.toInt < vs.length)
    {g : JFrame} (hg : g.method = m) {rest : List Value} (hs : g.stack = .int j :: .ref a :: rest) (hd : decode c.code g.pc = .ok (.iaload, 1)) (target : State)
    (k : Steps p.tables e below (T.setTop { g with pc := g.pc + 1, stack := .int (vs.getD j.toNatClampNeg 0) :: rest }) target) : Steps p.tables e below (T.setTop g) target := by
  obtain ⟨cl, A, q1, q2, -⟩ := F.inb h0 (by rw [List.length_map]; exact h1)
  have hj := own_nat h0
  refine X.iaload hx (j := j) (v := .int (vs.getD j.toNatClampNeg 0)) (by rw [eT]; exact A.1) (State.isArrayOf_alike hZ.alike A.2.1) A.2.2 q1 ?_ hg hs hd target k
  rw [q2, List.getElem?_map, List.getD_eq_getElem?_getD, List.getElem?_eq_getElem (by omega)]; rfl
theorem ldJ (X : Stand p l e R s m args below meth c T locs cells slots) (hx : p.tables.exec = Jvm.exec) (hZ : Z.Warmed39 s.vm) (eT : T.heap = h) {vs : List Int64} (F : VA Z h a .long (vs.map Value.long)) {j : Int32} (h0 : 0 ≤ j.toInt) (h1 : j.toInt < vs.length)
    {g : JFrame} (hg : g.method = m) {rest : List Value} (hs : g.stack = .int j :: .ref a :: rest) (hd : decode c.code g.pc = .ok (.laload, 1)) (target : State)
    (k : Steps p.tables e below (T.setTop { g with pc := g.pc + 1, stack := .long (vs.getD j.toNatClampNeg 0) :: rest }) target) : Steps p.tables e below (T.setTop g) target := by
  obtain ⟨cl, A, q1, q2, -⟩ := F.inb h0 (by rw [List.length_map]; exact h1)
  have hj := own_nat h0
  refine X.laload hx (j := j) (v := .long (vs.getD j.toNatClampNeg 0)) (by rw [eT]; exact A.1) (State.isArrayOf_alike hZ.alike A.2.1) A.2.2 q1 ?_ hg hs hd target k
  rw [q2, List.getElem?_map, List.getD_eq_getElem?_getD, List.getElem?_eq_getElem (by omega)]; rfl
theorem ldB (X : Stand p l e R s m args below meth c T locs cells slots) (hx : p.tables.exec = Jvm.exec) (hZ : Z.Warmed39 s.vm) (eT : T.heap = h) {vs : List Int32} (F : VA Z h a .byte (vs.map Value.int)) {j : Int32} (h0 : 0 ≤ j.toInt) (h1 : j.toInt < vs.length)
    {g : JFrame} (hg : g.method = m) {rest : List Value} (hs : g.stack = .int j :: .ref a :: rest) (hd : decode c.code g.pc = .ok (.baload, 1)) (target : State)
    (k : Steps p.tables e below (T.setTop { g with pc := g.pc + 1, stack := .int (vs.getD j.toNatClampNeg 0) :: rest }) target) : Steps p.tables e below (T.setTop g) target := by
  obtain ⟨cl, A, q1, q2, -⟩ := F.inb h0 (by rw [List.length_map]; exact h1)
  have hj := own_nat h0
  refine X.baloadBytes hx (j := j) (v := .int (vs.getD j.toNatClampNeg 0)) (by rw [eT]; exact A.1) (State.isArrayOf_alike hZ.alike A.2.1) A.2.2 q1 ?_ hg hs hd target k
  rw [q2, List.getElem?_map, List.getD_eq_getElem?_getD, List.getElem?_eq_getElem (by omega)]; rfl
theorem ldR (X : Stand p l e R s m args below meth c T locs cells slots) (hx : p.tables.exec = Jvm.exec) (hZ : Z.Warmed39 s.vm) (eT : T.heap = h) {ty : FieldType} {vs : List Addr} (F : VA Z h a ty (vs.map Value.ref)) (hty : ty.isReference = true) {j : Int32} (h0 : 0 ≤ j.toInt) (h1 : j.toInt < vs.length)
    {g : JFrame} (hg : g.method = m) {rest : List Value} (hs : g.stack = .int j :: .ref a :: rest) (hd : decode c.code g.pc = .ok (.aaload, 1)) (target : State)
    (k : Steps p.tables e below (T.setTop { g with pc := g.pc + 1, stack := .ref (vs.getD j.toNatClampNeg 0) :: rest }) target) : Steps p.tables e below (T.setTop g) target := by
  obtain ⟨cl, A, q1, q2, -⟩ := F.inb h0 (by rw [List.length_map]; exact h1)
  have hj := own_nat h0
  refine X.aaload hx (j := j) (v := .ref (vs.getD j.toNatClampNeg 0)) (by rw [eT]; exact A.1) (State.isArrayOf_alike hZ.alike A.2.1) hty A.2.2 q1 ?_ hg hs hd target k
  rw [q2, List.getElem?_map, List.getD_eq_getElem?_getD, List.getElem?_eq_getElem (by omega)]; rfl
theorem lenA (X : Stand p l e R s m args below meth c T locs cells slots) (hx : p.tables.exec = Jvm.exec) (hZ : Z.Warmed39 s.vm) (eT : T.heap = h) {ty : FieldType} {vs : List Value} (F : VA Z h a ty vs) {n : Int32} (hn : (vs.length : Int) = n.toInt)
    {g : JFrame} (hg : g.method = m) {rest : List Value} (hs : g.stack = .ref a :: rest) (hd : decode c.code g.pc = .ok (.arraylength, 1)) (target : State)
    (k : Steps p.tables e below (T.setTop { g with pc := g.pc + 1, stack := .int n :: rest }) target) : Steps p.tables e below (T.setTop g) target := by
  obtain ⟨cl, A, rfl, r⟩ := F
  refine X.arraylength hx (by rw [eT]; exact A.1) (State.isArrayOf_alike hZ.alike A.2.1) hg hs hd target ?_
  have e : cl.slots.size.toInt32 = n := Int32.toInt_inj.mp (by rw [len_toInt (by rw [← Array.length_toList]; exact r), ← hn, Array.length_toList])
  rw [e]; exact k
theorem putI (X : Stand p l e R s m args below meth c T locs cells slots) (hx : p.tables.exec = Jvm.exec) (hZ : Z.Warmed39 s.vm) (eT : T.heap = h) {vs : List Int32} (F : VA Z h a .int (vs.map Value.int)) {j x : Int32} (h0 : 0 ≤ j.toInt) (h1 : j.toInt < vs.length)
    {g : JFrame} (hg : g.method = m) {rest : List Value} (hs : g.stack = .int x :: .int j :: .ref a :: rest) (hd : decode c.code g.pc = .ok (.iastore, 1)) :
    ∃ T' h', Stand p l e R s m args below meth c T' (locs ++ [⟨a, j.toNatClampNeg⟩]) cells slots ∧ T'.heap = h' ∧ Wr h h' a j.toNatClampNeg (.int x) ∧ VA Z h' a .int ((vs.set j.toNatClampNeg x).map Value.int) ∧ ∀ target, Steps p.tables e below (T'.setTop { g with pc := g.pc + 1, stack := rest }) target → Steps p.tables e below (T.setTop g) target := by
  obtain ⟨cl, A, q1, q2, q3⟩ := F.inb h0 (by rw [List.length_map]; exact h1)
  obtain ⟨T', h', X', e', W, st⟩ := stI X hx hZ eT A q1 hg hs hd
  exact ⟨T', h', X', e', W, by rw [List.map_set]; exact q3 _ _ W, st⟩
theorem putJ (X : Stand p l e R s m args below meth c T locs cells slots) (hx : p.tables.exec = Jvm.exec) (hZ : Z.Warmed39 s.vm) (eT : T.heap = h) {vs : List Int64} (F : VA Z h a .long (vs.map Value.long)) {j : Int32} {x : Int64} (h0 : 0 ≤ j.toInt) (h1 : j.toInt < vs.length)
    {g : JFrame} (hg : g.method = m) {rest : List Value} (hs : g.stack = .long x :: .int j :: .ref a :: rest) (hd : decode c.code g.pc = .ok (.lastore, 1)) :
    ∃ T' h', Stand p l e R s m args below meth c T' (locs ++ [⟨a, j.toNatClampNeg⟩]) cells slots ∧ T'.heap = h' ∧ Wr h h' a j.toNatClampNeg (.long x) ∧ VA Z h' a .long ((vs.set j.toNatClampNeg x).map Value.long) ∧ ∀ target, Steps p.tables e below (T'.setTop { g with pc := g.pc + 1, stack := rest }) target → Steps p.tables e below (T.setTop g) target := by
  obtain ⟨cl, A, q1, q2, q3⟩ := F.inb h0 (by rw [List.length_map]; exact h1)
  obtain ⟨T', h', X', e', W, st⟩ := stJ X hx hZ eT A q1 hg hs hd
  exact ⟨T', h', X', e', W, by rw [List.map_set]; exact q3 _ _ W, st⟩
theorem putB (X : Stand p l e R s m args below meth c T locs cells slots) (hx : p.tables.exec = Jvm.exec) (hZ : Z.Warmed39 s.vm) (eT : T.heap = h) {vs : List Int32} (F : VA Z h a .byte (vs.map Value.int)) {j x : Int32} (h0 : 0 ≤ j.toInt) (h1 : j.toInt < vs.length)
    {g : JFrame} (hg : g.method = m) {rest : List Value} (hs : g.stack = .int x :: .int j :: .ref a :: rest) (hd : decode c.code g.pc = .ok (.bastore, 1)) :
    ∃ T' h', Stand p l e R s m args below meth c T' (locs ++ [⟨a, j.toNatClampNeg⟩]) cells slots ∧ T'.heap = h' ∧ Wr h h' a j.toNatClampNeg (.int (nar .byte x)) ∧ VA Z h' a .byte ((vs.set j.toNatClampNeg (nar .byte x)).map Value.int) ∧ ∀ target, Steps p.tables e below (T'.setTop { g with pc := g.pc + 1, stack := rest }) target → Steps p.tables e below (T.setTop g) target := by
  obtain ⟨cl, A, q1, q2, q3⟩ := F.inb h0 (by rw [List.length_map]; exact h1)
  obtain ⟨T', h', X', e', W, st⟩ := stB X hx hZ eT A q1 hg hs hd
  exact ⟨T', h', X', e', W, by rw [List.map_set]; exact q3 _ _ W, st⟩
theorem newI (X : Stand p l e R s m args below meth c T locs cells slots) (hx : p.tables.exec = Jvm.exec) (hZ : Z.Warmed39 s.vm) (w : (Cond.arrayClass .int).before a0 Z = true) (eT : T.heap = h) {g : JFrame} (hg : g.method = m) (hd : decode c.code g.pc = .ok (.newarray .int, 2)) {n : Int32} {rest : List Value} (hs : g.stack = .int n :: rest)
    (hn : 0 ≤ n.toInt) {cap : Nat} (hcap : n.toInt ≤ cap) (hb : cap * 8 ≤ 536870912) (hc : cells + 1 ≤ R.cells) (hl : slots + cap ≤ R.slots) :
    ∃ T' h', Stand p l e R s m args below meth c T' locs (cells + 1) (slots + cap) ∧ T'.heap = h' ∧ Ext h h' ∧ VA Z h' h.size .int ((List.replicate n.toInt.toNat (0 : Int32)).map Value.int) ∧
      ∀ target, Steps p.tables e below (T'.setTop { g with pc := g.pc + 2, stack := .ref h.size :: rest }) target → Steps p.tables e below (T.setTop g) target := by
  have q : ¬ n < 0 := by rw [Int32.lt_iff_toInt_lt]; have k0 : (0 : Int32).toInt = 0 := rfl; omega
  have en : n.toNatClampNeg = n.toInt.toNat := rfl
  obtain ⟨T', h', cA, X', e', E, A, st⟩ := newP X hx hZ (aty := .int) w eT hg hd hs q (cap := cap) (by rw [en]; omega) hb hc hl
  have V1 : VA Z h' h.size .int (List.replicate n.toNatClampNeg (Value.int (0 : Int32))) := VA.new A q
  rw [en] at V1
  refine ⟨T', h', X', e', E, ?_, st⟩
  rw [List.map_replicate]
  exact V1
theorem newJ (X : Stand p l e R s m args below meth c T locs cells slots) (hx : p.tables.exec = Jvm.exec) (hZ : Z.Warmed39 s.vm) (w : (Cond.arrayClass .long).before a0 Z = true) (eT : T.heap = h) {g : JFrame} (hg : g.method = m) (hd : decode c.code g.pc = .ok (.newarray .long, 2)) {n : Int32} {rest : List Value} (hs : g.stack = .int n :: rest)
    (hn : 0 ≤ n.toInt) {cap : Nat} (hcap : n.toInt ≤ cap) (hb : cap * 8 ≤ 536870912) (hc : cells + 1 ≤ R.cells) (hl : slots + cap ≤ R.slots) :
    ∃ T' h', Stand p l e R s m args below meth c T' locs (cells + 1) (slots + cap) ∧ T'.heap = h' ∧ Ext h h' ∧ VA Z h' h.size .long ((List.replicate n.toInt.toNat (0 : Int64)).map Value.long) ∧
      ∀ target, Steps p.tables e below (T'.setTop { g with pc := g.pc + 2, stack := .ref h.size :: rest }) target → Steps p.tables e below (T.setTop g) target := by
  have q : ¬ n < 0 := by rw [Int32.lt_iff_toInt_lt]; have k0 : (0 : Int32).toInt = 0 := rfl; omega
  have en : n.toNatClampNeg = n.toInt.toNat := rfl
  obtain ⟨T', h', cA, X', e', E, A, st⟩ := newP X hx hZ (aty := .long) w eT hg hd hs q (cap := cap) (by rw [en]; omega) hb hc hl
  have V1 : VA Z h' h.size .long (List.replicate n.toNatClampNeg (Value.long (0 : Int64))) := VA.new A q
  rw [en] at V1
  refine ⟨T', h', X', e', E, ?_, st⟩
  rw [List.map_replicate]
  exact V1
theorem newB (X : Stand p l e R s m args below meth c T locs cells slots) (hx : p.tables.exec = Jvm.exec) (hZ : Z.Warmed39 s.vm) (w : (Cond.arrayClass .byte).before a0 Z = true) (eT : T.heap = h) {g : JFrame} (hg : g.method = m) (hd : decode c.code g.pc = .ok (.newarray .byte, 2)) {n : Int32} {rest : List Value} (hs : g.stack = .int n :: rest)
    (hn : 0 ≤ n.toInt) {cap : Nat} (hcap : n.toInt ≤ cap) (hb : cap * 8 ≤ 536870912) (hc : cells + 1 ≤ R.cells) (hl : slots + cap ≤ R.slots) :
    ∃ T' h', Stand p l e R s m args below meth c T' locs (cells + 1) (slots + cap) ∧ T'.heap = h' ∧ Ext h h' ∧ VA Z h' h.size .byte ((List.replicate n.toInt.toNat (0 : Int32)).map Value.int) ∧
      ∀ target, Steps p.tables e below (T'.setTop { g with pc := g.pc + 2, stack := .ref h.size :: rest }) target → Steps p.tables e below (T.setTop g) target := by
  have q : ¬ n < 0 := by rw [Int32.lt_iff_toInt_lt]; have k0 : (0 : Int32).toInt = 0 := rfl; omega
  have en : n.toNatClampNeg = n.toInt.toNat := rfl
  obtain ⟨T', h', cA, X', e', E, A, st⟩ := newP X hx hZ (aty := .byte) w eT hg hd hs q (cap := cap) (by rw [en]; omega) hb hc hl
  have V1 : VA Z h' h.size .byte (List.replicate n.toNatClampNeg (Value.int (0 : Int32))) := VA.new A q
  rw [en] at V1
  refine ⟨T', h', X', e', E, ?_, st⟩
  rw [List.map_replicate]
  exact V1
theorem ldZ (X : Stand p l e R s m args below meth c T locs cells slots) (hx : p.tables.exec = Jvm.exec) (hZ : Z.Warmed39 s.vm) (eT : T.heap = h) {vs : List Int32} (F : VA Z h a .boolean (vs.map Value.int)) {j : Int32} (h0 : 0 ≤ j.toInt) (h1 : j.toInt < vs.length)
    {g : JFrame} (hg : g.method = m) {rest : List Value} (hs : g.stack = .int j :: .ref a :: rest) (hd : decode c.code g.pc = .ok (.baload, 1)) (target : State)
    (k : Steps p.tables e below (T.setTop { g with pc := g.pc + 1, stack := .int (vs.getD j.toNatClampNeg 0) :: rest }) target) : Steps p.tables e below (T.setTop g) target := by
  obtain ⟨cl, A, q1, q2, -⟩ := F.inb h0 (by rw [List.length_map]; exact h1)
  have hj := own_nat h0
  refine X.baloadBooleans hx (j := j) (v := .int (vs.getD j.toNatClampNeg 0)) (by rw [eT]; exact A.1) (State.isArrayOf_alike hZ.alike A.2.1) A.2.2 q1 ?_ hg hs hd target k
  rw [q2, List.getElem?_map, List.getD_eq_getElem?_getD, List.getElem?_eq_getElem (by omega)]; rfl
theorem putZ (X : Stand p l e R s m args below meth c T locs cells slots) (hx : p.tables.exec = Jvm.exec) (hZ : Z.Warmed39 s.vm) (eT : T.heap = h) {vs : List Int32} (F : VA Z h a .boolean (vs.map Value.int)) {j x : Int32} (h0 : 0 ≤ j.toInt) (h1 : j.toInt < vs.length)
    {g : JFrame} (hg : g.method = m) {rest : List Value} (hs : g.stack = .int x :: .int j :: .ref a :: rest) (hd : decode c.code g.pc = .ok (.bastore, 1)) :
    ∃ T' h', Stand p l e R s m args below meth c T' (locs ++ [⟨a, j.toNatClampNeg⟩]) cells slots ∧ T'.heap = h' ∧ Wr h h' a j.toNatClampNeg (.int (nar .boolean x)) ∧ VA Z h' a .boolean ((vs.set j.toNatClampNeg (nar .boolean x)).map Value.int) ∧ ∀ target, Steps p.tables e below (T'.setTop { g with pc := g.pc + 1, stack := rest }) target → Steps p.tables e below (T.setTop g) target := by
  obtain ⟨cl, A, q1, q2, q3⟩ := F.inb h0 (by rw [List.length_map]; exact h1)
  obtain ⟨T', h', X', e', W, st⟩ := stZ X hx hZ eT A q1 hg hs hd
  exact ⟨T', h', X', e', W, by rw [List.map_set]; exact q3 _ _ W, st⟩
theorem newZ (X : Stand p l e R s m args below meth c T locs cells slots) (hx : p.tables.exec = Jvm.exec) (hZ : Z.Warmed39 s.vm) (w : (Cond.arrayClass .boolean).before a0 Z = true) (eT : T.heap = h) {g : JFrame} (hg : g.method = m) (hd : decode c.code g.pc = .ok (.newarray .boolean, 2)) {n : Int32} {rest : List Value} (hs : g.stack = .int n :: rest)
    (hn : 0 ≤ n.toInt) {cap : Nat} (hcap : n.toInt ≤ cap) (hb : cap * 8 ≤ 536870912) (hc : cells + 1 ≤ R.cells) (hl : slots + cap ≤ R.slots) :
    ∃ T' h', Stand p l e R s m args below meth c T' locs (cells + 1) (slots + cap) ∧ T'.heap = h' ∧ Ext h h' ∧ VA Z h' h.size .boolean ((List.replicate n.toInt.toNat (0 : Int32)).map Value.int) ∧
      ∀ target, Steps p.tables e below (T'.setTop { g with pc := g.pc + 2, stack := .ref h.size :: rest }) target → Steps p.tables e below (T.setTop g) target := by
  have q : ¬ n < 0 := by rw [Int32.lt_iff_toInt_lt]; have k0 : (0 : Int32).toInt = 0 := rfl; omega
  have en : n.toNatClampNeg = n.toInt.toNat := rfl
  obtain ⟨T', h', cA, X', e', E, A, st⟩ := newP X hx hZ (aty := .boolean) w eT hg hd hs q (cap := cap) (by rw [en]; omega) hb hc hl
  have V1 : VA Z h' h.size .boolean (List.replicate n.toNatClampNeg (Value.int (0 : Int32))) := VA.new A q
  rw [en] at V1
  refine ⟨T', h', X', e', E, ?_, st⟩
  rw [List.map_replicate]
  exact V1
end Steps2
end New
end Jvm.RoadKit
namespace Jvm.Pilot.@@N@@
open Jvm Jvm.ClassFile Sem Op Lib Jvm.Free Jvm.Stand Jvm.LawKit Jvm.RoadKit Bundle Jvm.Pilot.@@N@@.Jvm.D
theorem d1_0 : decode prog_16_method_1_code 0 = .ok (.aload_n 0, 1) := by decide +kernel
theorem d1_1 : decode prog_16_method_1_code 1 = .ok (.invokespecial 1, 3) := by decide +kernel
theorem d1_4 : decode prog_16_method_1_code 4 = .ok (.aload_n 0, 1) := by decide +kernel
theorem d1_5 : decode prog_16_method_1_code 5 = .ok (.lload_n 1, 1) := by decide +kernel
theorem d1_6 : decode prog_16_method_1_code 6 = .ok (.putfield 7, 3) := by decide +kernel
theorem d1_9 : decode prog_16_method_1_code 9 = .ok (.return_, 1) := by decide +kernel
theorem pn_0 : plainName "com/example/knotwise/knotwise/SplitMix64" = true := by first | (simp [plainName, overriddenIn]; done) | decide +kernel
theorem ef_iniS (m : MethodId) (x0 : Addr) (x1 : Int64) : entryFrame m #[(.ref x0), (.long x1)] 3 = mkF m 0 #[.val (.ref x0), .val (.long x1), .second] [] := by first | (simp [entryFrame, mkF, argsToLocals, Value.category]; done) | rfl
def iniS (p1 : Int64) (u : Int64) : Int64 := p1
def QiniS (Z : State) (a : Addr) (p1 : Int64) (u : Int64) (RES : Int64) (h0 : Heap) (n0 : Nat) (v : Option Value) (h : Heap) (L : List Loc) : Prop := v = none ∧ Fr n0 L ∧ Keep h0 h [a] ∧ Fld Z h a "com/example/knotwise/knotwise/SplitMix64" "state" "J" (.long RES)
set_option maxRecDepth 65536 in
set_option maxHeartbeats 40000000 in
theorem rm_iniS (l : Launch) (Z : State) (a0 : Array Value) (hw : ∀ d ∈ tables_1, d.before a0 Z = true) (ws : List Jvm.Cond) (a : Addr) (p1 : Int64) (u : Int64) (h0 : Heap) (n0 : Nat) (Z0 : n0 ≤ h0.size) (F0 : Exa Z h0 a "com/example/knotwise/knotwise/SplitMix64") (F1 : Fld Z h0 a "com/example/knotwise/knotwise/SplitMix64" "state" "J" (.long u)) (g_a : n0 ≤ a) :
    MetFree l (⟨"com/example/knotwise/knotwise/SplitMix64", "<init>", "(J)V"⟩ : MethodName) (head1 (Jvm.Cond.code (⟨"com/example/knotwise/knotwise/SplitMix64", "<init>", "(J)V"⟩ : MethodName) prog_16_method_1_code 3 none :: ws) ({ frames := 1, cells := 0, slots := 0, locals := 12 } : Room)) (fun A_ U => A_ = #[(.ref a), (.long p1)] ∧ Z.Warmed39 U.vm ∧ U.heap = h0) (fun _ _ _ _ _ => True) (fun _ U o U' => ∃ v L, o = .returned v ∧ QiniS Z a p1 u (iniS p1 u) h0 n0 v U'.heap L ∧ FrameEnd U o U' L ({ frames := 1, cells := 0, slots := 0, locals := 12 } : Room).cells ({ frames := 1, cells := 0, slots := 0, locals := 12 } : Room).slots) := by
  refine MetFree.of_bodySF (plainFor_of_name pn_0) hisR ?_
  intro p e s m args below meth c s₁ Bd hml0 hP hK
  obtain ⟨rfl, hZ, hh⟩ := hP
  have hx := Bd.exec
  have hby := Bd.bytes
  have hml : c.maxLocals = 3 := hml0
  have hown : s.vm.findClass "com/example/knotwise/knotwise/SplitMix64" = some m.cls := findClass_of_methodNamed Bd.named
  have hnm := (name_of_methodNamed Bd.named Bd.method).1
  have X0 : Stand p l e ({ frames := 1, cells := 0, slots := 0, locals := 12 } : Room) s m #[(.ref a), (.long p1)] below meth c s₁ [] 0 0 := Stand.of_body Bd
  have e0 : s₁.heap = h0 := by rw [← hh, Bd.state]; rfl
  have N0 := Fr.nil n0
  obtain ⟨RES, hf⟩ : ∃ z, z = iniS p1 u := ⟨_, rfl⟩
  rw [← hf]
  rw [iniS] at hf
  suffices HGO : Go p e below s (QiniS Z a p1 u RES h0 n0) ({ frames := 1, cells := 0, slots := 0, locals := 12 } : Room).cells ({ frames := 1, cells := 0, slots := 0, locals := 12 } : Room).slots s₁ (mkF m 0 #[.val (.ref a), .val (.long p1), .second] []) from Go.cast (ef_iniS m a p1) HGO
  obtain ⟨T1, X1, e1, st1⟩ := initO X0 hx hZ hown (hw _ (List.mem_of_getElem? (i := 7) rfl)) (hw _ (List.mem_of_getElem? (i := 8) rfl)) (hw _ (List.mem_of_getElem? (i := 9) rfl)) e0 (g := (mkF m 1 #[.val (.ref a), .val (.long p1), .second] [(.ref a)])) rfl (by rw [hml]; rfl) rfl (hb hby d1_1) (by decide) (W := 0) (by show 2 * 0 + _ ≤ _; exact Nat.le_of_eq rfl) (by decide)
  obtain ⟨T2, h2, X2, e2, W2, st2⟩ := putF X1 hx hZ hown (host := "") (Or.inl (hw _ (List.mem_of_getElem? (i := 10) rfl))) Via.refl e1 F1 F0 (Or.inl (hw _ (List.mem_of_getElem? (i := 11) rfl))) (hw _ (List.mem_of_getElem? (i := 2) rfl)) (ty := .long) (by decide) rfl rfl (g := (mkF m 6 #[.val (.ref a), .val (.long p1), .second] [(.long p1), (.ref a)])) rfl rfl (hb hby d1_6)
  have G3 : Exa Z h2 a "com/example/knotwise/knotwise/SplitMix64" := F0.wr W2
  have G4 : Fld Z h2 a "com/example/knotwise/knotwise/SplitMix64" "state" "J" (.long p1) := F1.same W2
  have N2 := Fr.snoc X2 N0 g_a
  have K2 : Keep h0 h2 [a] := Keep.wr (Keep.refl h0 [a]) W2 (Or.inl (List.mem_of_getElem? (i := 0) rfl))
  have Z2 : n0 ≤ h2.size := Nat.le_trans Z0 K2.1
  refine Go.step (T' := T2) (f' := (mkF m 9 #[.val (.ref a), .val (.long p1), .second] [])) (fun t kt => ?_) ?_
  · show Steps p.tables e below (s₁.setTop (mkF m 0 #[.val (.ref a), .val (.long p1), .second] [])) _
    refine XS.aloadN X0.here hx rfl (hb hby d1_0) rfl rfl ?_
    show Steps p.tables e below (s₁.setTop (mkF m 1 #[.val (.ref a), .val (.long p1), .second] [(.ref a)])) _
    refine st1 _ ?_
    show Steps p.tables e below (T1.setTop (mkF m 4 #[.val (.ref a), .val (.long p1), .second] [])) _
    refine XS.aloadN X1.here hx rfl (hb hby d1_4) rfl rfl ?_
    show Steps p.tables e below (T1.setTop (mkF m 5 #[.val (.ref a), .val (.long p1), .second] [(.ref a)])) _
    refine XS.lloadN X1.here hx rfl (hb hby d1_5) rfl ?_
    show Steps p.tables e below (T1.setTop (mkF m 6 #[.val (.ref a), .val (.long p1), .second] [(.long p1), (.ref a)])) _
    refine st2 _ ?_
    exact kt
  refine Go.fin X2 (v := none) (fun _ => rfl) Bd.notSynchronized ?_ (Nat.le_trans (Nat.le_refl 0) (by decide)) (Nat.le_trans (Nat.le_refl 0) (by decide)) (fun fs hr => X2.returnOut hx Bd.returns (hb hby d1_9) hr)
  · show QiniS Z a p1 u RES h0 n0 _ T2.heap _
    rw [e2, hf]
    exact ⟨rfl, N2, K2, G4⟩
theorem d3_0 : decode prog_16_method_2_code 0 = .ok (.aload_n 0, 1) := by decide +kernel
theorem d3_1 : decode prog_16_method_2_code 1 = .ok (.dup, 1) := by decide +kernel
theorem d3_2 : decode prog_16_method_2_code 2 = .ok (.getfield 7, 3) := by decide +kernel
theorem d3_5 : decode prog_16_method_2_code 5 = .ok (.ldc2_w 13, 3) := by decide +kernel
theorem d3_8 : decode prog_16_method_2_code 8 = .ok (.ladd, 1) := by decide +kernel
theorem d3_9 : decode prog_16_method_2_code 9 = .ok (.putfield 7, 3) := by decide +kernel
theorem d3_12 : decode prog_16_method_2_code 12 = .ok (.aload_n 0, 1) := by decide +kernel
theorem d3_13 : decode prog_16_method_2_code 13 = .ok (.getfield 7, 3) := by decide +kernel
theorem d3_16 : decode prog_16_method_2_code 16 = .ok (.lstore_n 1, 1) := by decide +kernel
theorem d3_17 : decode prog_16_method_2_code 17 = .ok (.lload_n 1, 1) := by decide +kernel
theorem d3_18 : decode prog_16_method_2_code 18 = .ok (.lload_n 1, 1) := by decide +kernel
theorem d3_19 : decode prog_16_method_2_code 19 = .ok (.bipush 30, 2) := by decide +kernel
theorem d3_21 : decode prog_16_method_2_code 21 = .ok (.lushr, 1) := by decide +kernel
theorem d3_22 : decode prog_16_method_2_code 22 = .ok (.lxor, 1) := by decide +kernel
theorem d3_23 : decode prog_16_method_2_code 23 = .ok (.ldc2_w 15, 3) := by decide +kernel
theorem d3_26 : decode prog_16_method_2_code 26 = .ok (.lmul, 1) := by decide +kernel
theorem d3_27 : decode prog_16_method_2_code 27 = .ok (.lstore_n 1, 1) := by decide +kernel
theorem d3_28 : decode prog_16_method_2_code 28 = .ok (.lload_n 1, 1) := by decide +kernel
theorem d3_29 : decode prog_16_method_2_code 29 = .ok (.lload_n 1, 1) := by decide +kernel
theorem d3_30 : decode prog_16_method_2_code 30 = .ok (.bipush 27, 2) := by decide +kernel
theorem d3_32 : decode prog_16_method_2_code 32 = .ok (.lushr, 1) := by decide +kernel
theorem d3_33 : decode prog_16_method_2_code 33 = .ok (.lxor, 1) := by decide +kernel
theorem d3_34 : decode prog_16_method_2_code 34 = .ok (.ldc2_w 17, 3) := by decide +kernel
theorem d3_37 : decode prog_16_method_2_code 37 = .ok (.lmul, 1) := by decide +kernel
theorem d3_38 : decode prog_16_method_2_code 38 = .ok (.lstore_n 1, 1) := by decide +kernel
theorem d3_39 : decode prog_16_method_2_code 39 = .ok (.lload_n 1, 1) := by decide +kernel
theorem d3_40 : decode prog_16_method_2_code 40 = .ok (.lload_n 1, 1) := by decide +kernel
theorem d3_41 : decode prog_16_method_2_code 41 = .ok (.bipush 31, 2) := by decide +kernel
theorem d3_43 : decode prog_16_method_2_code 43 = .ok (.lushr, 1) := by decide +kernel
theorem d3_44 : decode prog_16_method_2_code 44 = .ok (.lxor, 1) := by decide +kernel
theorem d3_45 : decode prog_16_method_2_code 45 = .ok (.lreturn, 1) := by decide +kernel
theorem ef_nextS (m : MethodId) (x0 : Addr) : entryFrame m #[(.ref x0)] 3 = mkF m 0 #[.val (.ref x0), .unset, .unset] [] := by first | (simp [entryFrame, mkF, argsToLocals, Value.category]; done) | rfl
def nextS (u : Int64) : Int64 × Int64 := (((((((u + (-7046029254386353131 : Int64)) ^^^ (((u + (-7046029254386353131 : Int64)).toUInt64 >>> ((30 : Int32) &&& 0x3f).toInt64.toUInt64).toInt64)) * (-4658895280553007687 : Int64)) ^^^ (((((u + (-7046029254386353131 : Int64)) ^^^ (((u + (-7046029254386353131 : Int64)).toUInt64 >>> ((30 : Int32) &&& 0x3f).toInt64.toUInt64).toInt64)) * (-4658895280553007687 : Int64)).toUInt64 >>> ((27 : Int32) &&& 0x3f).toInt64.toUInt64).toInt64)) * (-7723592293110705685 : Int64)) ^^^ (((((((u + (-7046029254386353131 : Int64)) ^^^ (((u + (-7046029254386353131 : Int64)).toUInt64 >>> ((30 : Int32) &&& 0x3f).toInt64.toUInt64).toInt64)) * (-4658895280553007687 : Int64)) ^^^ (((((u + (-7046029254386353131 : Int64)) ^^^ (((u + (-7046029254386353131 : Int64)).toUInt64 >>> ((30 : Int32) &&& 0x3f).toInt64.toUInt64).toInt64)) * (-4658895280553007687 : Int64)).toUInt64 >>> ((27 : Int32) &&& 0x3f).toInt64.toUInt64).toInt64)) * (-7723592293110705685 : Int64)).toUInt64 >>> ((31 : Int32) &&& 0x3f).toInt64.toUInt64).toInt64)), (u + (-7046029254386353131 : Int64)))
def QnextS (Z : State) (a : Addr) (u : Int64) (RES : Int64 × Int64) (h0 : Heap) (n0 : Nat) (v : Option Value) (h : Heap) (L : List Loc) : Prop := v = some (.long RES.1) ∧ Fr n0 L ∧ Keep h0 h [a] ∧ Fld Z h a "com/example/knotwise/knotwise/SplitMix64" "state" "J" (.long RES.2)
set_option maxRecDepth 65536 in
set_option maxHeartbeats 40000000 in
theorem rm_nextS (l : Launch) (Z : State) (a0 : Array Value) (hw : ∀ d ∈ tables_1, d.before a0 Z = true) (ws : List Jvm.Cond) (a : Addr) (u : Int64) (h0 : Heap) (n0 : Nat) (Z0 : n0 ≤ h0.size) (F0 : Exa Z h0 a "com/example/knotwise/knotwise/SplitMix64") (F1 : Fld Z h0 a "com/example/knotwise/knotwise/SplitMix64" "state" "J" (.long u)) (g_a : n0 ≤ a) :
    MetFree l (⟨"com/example/knotwise/knotwise/SplitMix64", "next", "()J"⟩ : MethodName) (head1 (Jvm.Cond.code (⟨"com/example/knotwise/knotwise/SplitMix64", "next", "()J"⟩ : MethodName) prog_16_method_2_code 3 (some .long) :: ws) ({ frames := 0, cells := 0, slots := 0, locals := 0 } : Room)) (fun A_ U => A_ = #[(.ref a)] ∧ Z.Warmed39 U.vm ∧ U.heap = h0) (fun _ _ _ _ _ => True) (fun _ U o U' => ∃ v L, o = .returned v ∧ QnextS Z a u (nextS u) h0 n0 v U'.heap L ∧ FrameEnd U o U' L ({ frames := 0, cells := 0, slots := 0, locals := 0 } : Room).cells ({ frames := 0, cells := 0, slots := 0, locals := 0 } : Room).slots) := by
  refine MetFree.of_bodySF (plainFor_of_name pn_0) hisR ?_
  intro p e s m args below meth c s₁ Bd hml0 hP hK
  obtain ⟨rfl, hZ, hh⟩ := hP
  have hx := Bd.exec
  have hby := Bd.bytes
  have hml : c.maxLocals = 3 := hml0
  have hown : s.vm.findClass "com/example/knotwise/knotwise/SplitMix64" = some m.cls := findClass_of_methodNamed Bd.named
  have hnm := (name_of_methodNamed Bd.named Bd.method).1
  have X0 : Stand p l e ({ frames := 0, cells := 0, slots := 0, locals := 0 } : Room) s m #[(.ref a)] below meth c s₁ [] 0 0 := Stand.of_body Bd
  have e0 : s₁.heap = h0 := by rw [← hh, Bd.state]; rfl
  have N0 := Fr.nil n0
  obtain ⟨RES, hf⟩ : ∃ z, z = nextS u := ⟨_, rfl⟩
  rw [← hf]
  rw [nextS] at hf
  suffices HGO : Go p e below s (QnextS Z a u RES h0 n0) ({ frames := 0, cells := 0, slots := 0, locals := 0 } : Room).cells ({ frames := 0, cells := 0, slots := 0, locals := 0 } : Room).slots s₁ (mkF m 0 #[.val (.ref a), .unset, .unset] []) from Go.cast (ef_nextS m a) HGO
  obtain ⟨T1, X1, e1, st1⟩ := getF X0 hx hZ hown (host := "") (Or.inl (hw _ (List.mem_of_getElem? (i := 10) rfl))) Via.refl e0 F1 (g := (mkF m 2 #[.val (.ref a), .unset, .unset] [(.ref a), (.ref a)])) rfl rfl (hb hby d3_2)
  obtain ⟨T2, h2, X2, e2, W2, st2⟩ := putF X1 hx hZ hown (host := "") (Or.inl (hw _ (List.mem_of_getElem? (i := 10) rfl))) Via.refl e1 F1 F0 (Or.inl (hw _ (List.mem_of_getElem? (i := 11) rfl))) (hw _ (List.mem_of_getElem? (i := 2) rfl)) (ty := .long) (by decide) rfl rfl (g := (mkF m 9 #[.val (.ref a), .unset, .unset] [(.long (u + (-7046029254386353131 : Int64))), (.ref a)])) rfl rfl (hb hby d3_9)
  have G3 : Exa Z h2 a "com/example/knotwise/knotwise/SplitMix64" := F0.wr W2
  have G4 : Fld Z h2 a "com/example/knotwise/knotwise/SplitMix64" "state" "J" (.long (u + (-7046029254386353131 : Int64))) := F1.same W2
  have N2 := Fr.snoc X2 N0 g_a
  have K2 : Keep h0 h2 [a] := Keep.wr (Keep.refl h0 [a]) W2 (Or.inl (List.mem_of_getElem? (i := 0) rfl))
  have Z2 : n0 ≤ h2.size := Nat.le_trans Z0 K2.1
  obtain ⟨T5, X5, e5, st5⟩ := getF X2 hx hZ hown (host := "") (Or.inl (hw _ (List.mem_of_getElem? (i := 10) rfl))) Via.refl e2 G4 (g := (mkF m 13 #[.val (.ref a), .unset, .unset] [(.ref a)])) rfl rfl (hb hby d3_13)
  refine Go.step (T' := T5) (f' := (mkF m 45 #[.val (.ref a), .val (.long (((((u + (-7046029254386353131 : Int64)) ^^^ (((u + (-7046029254386353131 : Int64)).toUInt64 >>> ((30 : Int32) &&& 0x3f).toInt64.toUInt64).toInt64)) * (-4658895280553007687 : Int64)) ^^^ (((((u + (-7046029254386353131 : Int64)) ^^^ (((u + (-7046029254386353131 : Int64)).toUInt64 >>> ((30 : Int32) &&& 0x3f).toInt64.toUInt64).toInt64)) * (-4658895280553007687 : Int64)).toUInt64 >>> ((27 : Int32) &&& 0x3f).toInt64.toUInt64).toInt64)) * (-7723592293110705685 : Int64))), .second] [(.long ((((((u + (-7046029254386353131 : Int64)) ^^^ (((u + (-7046029254386353131 : Int64)).toUInt64 >>> ((30 : Int32) &&& 0x3f).toInt64.toUInt64).toInt64)) * (-4658895280553007687 : Int64)) ^^^ (((((u + (-7046029254386353131 : Int64)) ^^^ (((u + (-7046029254386353131 : Int64)).toUInt64 >>> ((30 : Int32) &&& 0x3f).toInt64.toUInt64).toInt64)) * (-4658895280553007687 : Int64)).toUInt64 >>> ((27 : Int32) &&& 0x3f).toInt64.toUInt64).toInt64)) * (-7723592293110705685 : Int64)) ^^^ (((((((u + (-7046029254386353131 : Int64)) ^^^ (((u + (-7046029254386353131 : Int64)).toUInt64 >>> ((30 : Int32) &&& 0x3f).toInt64.toUInt64).toInt64)) * (-4658895280553007687 : Int64)) ^^^ (((((u + (-7046029254386353131 : Int64)) ^^^ (((u + (-7046029254386353131 : Int64)).toUInt64 >>> ((30 : Int32) &&& 0x3f).toInt64.toUInt64).toInt64)) * (-4658895280553007687 : Int64)).toUInt64 >>> ((27 : Int32) &&& 0x3f).toInt64.toUInt64).toInt64)) * (-7723592293110705685 : Int64)).toUInt64 >>> ((31 : Int32) &&& 0x3f).toInt64.toUInt64).toInt64)))])) (fun t kt => ?_) ?_
  · show Steps p.tables e below (s₁.setTop (mkF m 0 #[.val (.ref a), .unset, .unset] [])) _
    refine XS.aloadN X0.here hx rfl (hb hby d3_0) rfl rfl ?_
    show Steps p.tables e below (s₁.setTop (mkF m 1 #[.val (.ref a), .unset, .unset] [(.ref a)])) _
    refine XS.dup X0.here hx rfl (hb hby d3_1) rfl rfl ?_
    show Steps p.tables e below (s₁.setTop (mkF m 2 #[.val (.ref a), .unset, .unset] [(.ref a), (.ref a)])) _
    refine st1 _ ?_
    show Steps p.tables e below (T1.setTop (mkF m 5 #[.val (.ref a), .unset, .unset] [(.long u), (.ref a)])) _
    refine X1.ldc2Long hx hown (mvT hZ (hw _ (List.mem_of_getElem? (i := 17) rfl))) (g := (mkF m 5 #[.val (.ref a), .unset, .unset] [(.long u), (.ref a)])) rfl (hb hby d3_5) _ ?_
    show Steps p.tables e below (T1.setTop (mkF m 8 #[.val (.ref a), .unset, .unset] [(.long (-7046029254386353131 : Int64)), (.long u), (.ref a)])) _
    refine XS.ladd X1.here hx rfl (hb hby d3_8) rfl ?_
    show Steps p.tables e below (T1.setTop (mkF m 9 #[.val (.ref a), .unset, .unset] [(.long (u + (-7046029254386353131 : Int64))), (.ref a)])) _
    refine st2 _ ?_
    show Steps p.tables e below (T2.setTop (mkF m 12 #[.val (.ref a), .unset, .unset] [])) _
    refine XS.aloadN X2.here hx rfl (hb hby d3_12) rfl rfl ?_
    show Steps p.tables e below (T2.setTop (mkF m 13 #[.val (.ref a), .unset, .unset] [(.ref a)])) _
    refine st5 _ ?_
    show Steps p.tables e below (T5.setTop (mkF m 16 #[.val (.ref a), .unset, .unset] [(.long (u + (-7046029254386353131 : Int64)))])) _
    refine XS.lstoreN X5.here hx rfl (hb hby d3_16) rfl (l' := #[.val (.ref a), .val (.long (u + (-7046029254386353131 : Int64))), .second]) rfl ?_
    show Steps p.tables e below (T5.setTop (mkF m 17 #[.val (.ref a), .val (.long (u + (-7046029254386353131 : Int64))), .second] [])) _
    refine XS.lloadN X5.here hx rfl (hb hby d3_17) rfl ?_
    show Steps p.tables e below (T5.setTop (mkF m 18 #[.val (.ref a), .val (.long (u + (-7046029254386353131 : Int64))), .second] [(.long (u + (-7046029254386353131 : Int64)))])) _
    refine XS.lloadN X5.here hx rfl (hb hby d3_18) rfl ?_
    show Steps p.tables e below (T5.setTop (mkF m 19 #[.val (.ref a), .val (.long (u + (-7046029254386353131 : Int64))), .second] [(.long (u + (-7046029254386353131 : Int64))), (.long (u + (-7046029254386353131 : Int64)))])) _
    refine XS.bipush X5.here hx rfl (hb hby d3_19) ?_
    show Steps p.tables e below (T5.setTop (mkF m 21 #[.val (.ref a), .val (.long (u + (-7046029254386353131 : Int64))), .second] [(.int (30 : Int32)), (.long (u + (-7046029254386353131 : Int64))), (.long (u + (-7046029254386353131 : Int64)))])) _
    refine XS.lushr X5.here hx rfl (hb hby d3_21) rfl ?_
    show Steps p.tables e below (T5.setTop (mkF m 22 #[.val (.ref a), .val (.long (u + (-7046029254386353131 : Int64))), .second] [(.long (((u + (-7046029254386353131 : Int64)).toUInt64 >>> ((30 : Int32) &&& 0x3f).toInt64.toUInt64).toInt64)), (.long (u + (-7046029254386353131 : Int64)))])) _
    refine XS.lxor X5.here hx rfl (hb hby d3_22) rfl ?_
    show Steps p.tables e below (T5.setTop (mkF m 23 #[.val (.ref a), .val (.long (u + (-7046029254386353131 : Int64))), .second] [(.long ((u + (-7046029254386353131 : Int64)) ^^^ (((u + (-7046029254386353131 : Int64)).toUInt64 >>> ((30 : Int32) &&& 0x3f).toInt64.toUInt64).toInt64)))])) _
    refine X5.ldc2Long hx hown (mvT hZ (hw _ (List.mem_of_getElem? (i := 18) rfl))) (g := (mkF m 23 #[.val (.ref a), .val (.long (u + (-7046029254386353131 : Int64))), .second] [(.long ((u + (-7046029254386353131 : Int64)) ^^^ (((u + (-7046029254386353131 : Int64)).toUInt64 >>> ((30 : Int32) &&& 0x3f).toInt64.toUInt64).toInt64)))])) rfl (hb hby d3_23) _ ?_
    show Steps p.tables e below (T5.setTop (mkF m 26 #[.val (.ref a), .val (.long (u + (-7046029254386353131 : Int64))), .second] [(.long (-4658895280553007687 : Int64)), (.long ((u + (-7046029254386353131 : Int64)) ^^^ (((u + (-7046029254386353131 : Int64)).toUInt64 >>> ((30 : Int32) &&& 0x3f).toInt64.toUInt64).toInt64)))])) _
    refine XS.lmul X5.here hx rfl (hb hby d3_26) rfl ?_
    show Steps p.tables e below (T5.setTop (mkF m 27 #[.val (.ref a), .val (.long (u + (-7046029254386353131 : Int64))), .second] [(.long (((u + (-7046029254386353131 : Int64)) ^^^ (((u + (-7046029254386353131 : Int64)).toUInt64 >>> ((30 : Int32) &&& 0x3f).toInt64.toUInt64).toInt64)) * (-4658895280553007687 : Int64)))])) _
    refine XS.lstoreN X5.here hx rfl (hb hby d3_27) rfl (l' := #[.val (.ref a), .val (.long (((u + (-7046029254386353131 : Int64)) ^^^ (((u + (-7046029254386353131 : Int64)).toUInt64 >>> ((30 : Int32) &&& 0x3f).toInt64.toUInt64).toInt64)) * (-4658895280553007687 : Int64))), .second]) rfl ?_
    show Steps p.tables e below (T5.setTop (mkF m 28 #[.val (.ref a), .val (.long (((u + (-7046029254386353131 : Int64)) ^^^ (((u + (-7046029254386353131 : Int64)).toUInt64 >>> ((30 : Int32) &&& 0x3f).toInt64.toUInt64).toInt64)) * (-4658895280553007687 : Int64))), .second] [])) _
    refine XS.lloadN X5.here hx rfl (hb hby d3_28) rfl ?_
    show Steps p.tables e below (T5.setTop (mkF m 29 #[.val (.ref a), .val (.long (((u + (-7046029254386353131 : Int64)) ^^^ (((u + (-7046029254386353131 : Int64)).toUInt64 >>> ((30 : Int32) &&& 0x3f).toInt64.toUInt64).toInt64)) * (-4658895280553007687 : Int64))), .second] [(.long (((u + (-7046029254386353131 : Int64)) ^^^ (((u + (-7046029254386353131 : Int64)).toUInt64 >>> ((30 : Int32) &&& 0x3f).toInt64.toUInt64).toInt64)) * (-4658895280553007687 : Int64)))])) _
    refine XS.lloadN X5.here hx rfl (hb hby d3_29) rfl ?_
    show Steps p.tables e below (T5.setTop (mkF m 30 #[.val (.ref a), .val (.long (((u + (-7046029254386353131 : Int64)) ^^^ (((u + (-7046029254386353131 : Int64)).toUInt64 >>> ((30 : Int32) &&& 0x3f).toInt64.toUInt64).toInt64)) * (-4658895280553007687 : Int64))), .second] [(.long (((u + (-7046029254386353131 : Int64)) ^^^ (((u + (-7046029254386353131 : Int64)).toUInt64 >>> ((30 : Int32) &&& 0x3f).toInt64.toUInt64).toInt64)) * (-4658895280553007687 : Int64))), (.long (((u + (-7046029254386353131 : Int64)) ^^^ (((u + (-7046029254386353131 : Int64)).toUInt64 >>> ((30 : Int32) &&& 0x3f).toInt64.toUInt64).toInt64)) * (-4658895280553007687 : Int64)))])) _
    refine XS.bipush X5.here hx rfl (hb hby d3_30) ?_
    show Steps p.tables e below (T5.setTop (mkF m 32 #[.val (.ref a), .val (.long (((u + (-7046029254386353131 : Int64)) ^^^ (((u + (-7046029254386353131 : Int64)).toUInt64 >>> ((30 : Int32) &&& 0x3f).toInt64.toUInt64).toInt64)) * (-4658895280553007687 : Int64))), .second] [(.int (27 : Int32)), (.long (((u + (-7046029254386353131 : Int64)) ^^^ (((u + (-7046029254386353131 : Int64)).toUInt64 >>> ((30 : Int32) &&& 0x3f).toInt64.toUInt64).toInt64)) * (-4658895280553007687 : Int64))), (.long (((u + (-7046029254386353131 : Int64)) ^^^ (((u + (-7046029254386353131 : Int64)).toUInt64 >>> ((30 : Int32) &&& 0x3f).toInt64.toUInt64).toInt64)) * (-4658895280553007687 : Int64)))])) _
    refine XS.lushr X5.here hx rfl (hb hby d3_32) rfl ?_
    show Steps p.tables e below (T5.setTop (mkF m 33 #[.val (.ref a), .val (.long (((u + (-7046029254386353131 : Int64)) ^^^ (((u + (-7046029254386353131 : Int64)).toUInt64 >>> ((30 : Int32) &&& 0x3f).toInt64.toUInt64).toInt64)) * (-4658895280553007687 : Int64))), .second] [(.long (((((u + (-7046029254386353131 : Int64)) ^^^ (((u + (-7046029254386353131 : Int64)).toUInt64 >>> ((30 : Int32) &&& 0x3f).toInt64.toUInt64).toInt64)) * (-4658895280553007687 : Int64)).toUInt64 >>> ((27 : Int32) &&& 0x3f).toInt64.toUInt64).toInt64)), (.long (((u + (-7046029254386353131 : Int64)) ^^^ (((u + (-7046029254386353131 : Int64)).toUInt64 >>> ((30 : Int32) &&& 0x3f).toInt64.toUInt64).toInt64)) * (-4658895280553007687 : Int64)))])) _
    refine XS.lxor X5.here hx rfl (hb hby d3_33) rfl ?_
    show Steps p.tables e below (T5.setTop (mkF m 34 #[.val (.ref a), .val (.long (((u + (-7046029254386353131 : Int64)) ^^^ (((u + (-7046029254386353131 : Int64)).toUInt64 >>> ((30 : Int32) &&& 0x3f).toInt64.toUInt64).toInt64)) * (-4658895280553007687 : Int64))), .second] [(.long ((((u + (-7046029254386353131 : Int64)) ^^^ (((u + (-7046029254386353131 : Int64)).toUInt64 >>> ((30 : Int32) &&& 0x3f).toInt64.toUInt64).toInt64)) * (-4658895280553007687 : Int64)) ^^^ (((((u + (-7046029254386353131 : Int64)) ^^^ (((u + (-7046029254386353131 : Int64)).toUInt64 >>> ((30 : Int32) &&& 0x3f).toInt64.toUInt64).toInt64)) * (-4658895280553007687 : Int64)).toUInt64 >>> ((27 : Int32) &&& 0x3f).toInt64.toUInt64).toInt64)))])) _
    refine X5.ldc2Long hx hown (mvT hZ (hw _ (List.mem_of_getElem? (i := 19) rfl))) (g := (mkF m 34 #[.val (.ref a), .val (.long (((u + (-7046029254386353131 : Int64)) ^^^ (((u + (-7046029254386353131 : Int64)).toUInt64 >>> ((30 : Int32) &&& 0x3f).toInt64.toUInt64).toInt64)) * (-4658895280553007687 : Int64))), .second] [(.long ((((u + (-7046029254386353131 : Int64)) ^^^ (((u + (-7046029254386353131 : Int64)).toUInt64 >>> ((30 : Int32) &&& 0x3f).toInt64.toUInt64).toInt64)) * (-4658895280553007687 : Int64)) ^^^ (((((u + (-7046029254386353131 : Int64)) ^^^ (((u + (-7046029254386353131 : Int64)).toUInt64 >>> ((30 : Int32) &&& 0x3f).toInt64.toUInt64).toInt64)) * (-4658895280553007687 : Int64)).toUInt64 >>> ((27 : Int32) &&& 0x3f).toInt64.toUInt64).toInt64)))])) rfl (hb hby d3_34) _ ?_
    show Steps p.tables e below (T5.setTop (mkF m 37 #[.val (.ref a), .val (.long (((u + (-7046029254386353131 : Int64)) ^^^ (((u + (-7046029254386353131 : Int64)).toUInt64 >>> ((30 : Int32) &&& 0x3f).toInt64.toUInt64).toInt64)) * (-4658895280553007687 : Int64))), .second] [(.long (-7723592293110705685 : Int64)), (.long ((((u + (-7046029254386353131 : Int64)) ^^^ (((u + (-7046029254386353131 : Int64)).toUInt64 >>> ((30 : Int32) &&& 0x3f).toInt64.toUInt64).toInt64)) * (-4658895280553007687 : Int64)) ^^^ (((((u + (-7046029254386353131 : Int64)) ^^^ (((u + (-7046029254386353131 : Int64)).toUInt64 >>> ((30 : Int32) &&& 0x3f).toInt64.toUInt64).toInt64)) * (-4658895280553007687 : Int64)).toUInt64 >>> ((27 : Int32) &&& 0x3f).toInt64.toUInt64).toInt64)))])) _
    refine XS.lmul X5.here hx rfl (hb hby d3_37) rfl ?_
    show Steps p.tables e below (T5.setTop (mkF m 38 #[.val (.ref a), .val (.long (((u + (-7046029254386353131 : Int64)) ^^^ (((u + (-7046029254386353131 : Int64)).toUInt64 >>> ((30 : Int32) &&& 0x3f).toInt64.toUInt64).toInt64)) * (-4658895280553007687 : Int64))), .second] [(.long (((((u + (-7046029254386353131 : Int64)) ^^^ (((u + (-7046029254386353131 : Int64)).toUInt64 >>> ((30 : Int32) &&& 0x3f).toInt64.toUInt64).toInt64)) * (-4658895280553007687 : Int64)) ^^^ (((((u + (-7046029254386353131 : Int64)) ^^^ (((u + (-7046029254386353131 : Int64)).toUInt64 >>> ((30 : Int32) &&& 0x3f).toInt64.toUInt64).toInt64)) * (-4658895280553007687 : Int64)).toUInt64 >>> ((27 : Int32) &&& 0x3f).toInt64.toUInt64).toInt64)) * (-7723592293110705685 : Int64)))])) _
    refine XS.lstoreN X5.here hx rfl (hb hby d3_38) rfl (l' := #[.val (.ref a), .val (.long (((((u + (-7046029254386353131 : Int64)) ^^^ (((u + (-7046029254386353131 : Int64)).toUInt64 >>> ((30 : Int32) &&& 0x3f).toInt64.toUInt64).toInt64)) * (-4658895280553007687 : Int64)) ^^^ (((((u + (-7046029254386353131 : Int64)) ^^^ (((u + (-7046029254386353131 : Int64)).toUInt64 >>> ((30 : Int32) &&& 0x3f).toInt64.toUInt64).toInt64)) * (-4658895280553007687 : Int64)).toUInt64 >>> ((27 : Int32) &&& 0x3f).toInt64.toUInt64).toInt64)) * (-7723592293110705685 : Int64))), .second]) rfl ?_
    show Steps p.tables e below (T5.setTop (mkF m 39 #[.val (.ref a), .val (.long (((((u + (-7046029254386353131 : Int64)) ^^^ (((u + (-7046029254386353131 : Int64)).toUInt64 >>> ((30 : Int32) &&& 0x3f).toInt64.toUInt64).toInt64)) * (-4658895280553007687 : Int64)) ^^^ (((((u + (-7046029254386353131 : Int64)) ^^^ (((u + (-7046029254386353131 : Int64)).toUInt64 >>> ((30 : Int32) &&& 0x3f).toInt64.toUInt64).toInt64)) * (-4658895280553007687 : Int64)).toUInt64 >>> ((27 : Int32) &&& 0x3f).toInt64.toUInt64).toInt64)) * (-7723592293110705685 : Int64))), .second] [])) _
    refine XS.lloadN X5.here hx rfl (hb hby d3_39) rfl ?_
    show Steps p.tables e below (T5.setTop (mkF m 40 #[.val (.ref a), .val (.long (((((u + (-7046029254386353131 : Int64)) ^^^ (((u + (-7046029254386353131 : Int64)).toUInt64 >>> ((30 : Int32) &&& 0x3f).toInt64.toUInt64).toInt64)) * (-4658895280553007687 : Int64)) ^^^ (((((u + (-7046029254386353131 : Int64)) ^^^ (((u + (-7046029254386353131 : Int64)).toUInt64 >>> ((30 : Int32) &&& 0x3f).toInt64.toUInt64).toInt64)) * (-4658895280553007687 : Int64)).toUInt64 >>> ((27 : Int32) &&& 0x3f).toInt64.toUInt64).toInt64)) * (-7723592293110705685 : Int64))), .second] [(.long (((((u + (-7046029254386353131 : Int64)) ^^^ (((u + (-7046029254386353131 : Int64)).toUInt64 >>> ((30 : Int32) &&& 0x3f).toInt64.toUInt64).toInt64)) * (-4658895280553007687 : Int64)) ^^^ (((((u + (-7046029254386353131 : Int64)) ^^^ (((u + (-7046029254386353131 : Int64)).toUInt64 >>> ((30 : Int32) &&& 0x3f).toInt64.toUInt64).toInt64)) * (-4658895280553007687 : Int64)).toUInt64 >>> ((27 : Int32) &&& 0x3f).toInt64.toUInt64).toInt64)) * (-7723592293110705685 : Int64)))])) _
    refine XS.lloadN X5.here hx rfl (hb hby d3_40) rfl ?_
    show Steps p.tables e below (T5.setTop (mkF m 41 #[.val (.ref a), .val (.long (((((u + (-7046029254386353131 : Int64)) ^^^ (((u + (-7046029254386353131 : Int64)).toUInt64 >>> ((30 : Int32) &&& 0x3f).toInt64.toUInt64).toInt64)) * (-4658895280553007687 : Int64)) ^^^ (((((u + (-7046029254386353131 : Int64)) ^^^ (((u + (-7046029254386353131 : Int64)).toUInt64 >>> ((30 : Int32) &&& 0x3f).toInt64.toUInt64).toInt64)) * (-4658895280553007687 : Int64)).toUInt64 >>> ((27 : Int32) &&& 0x3f).toInt64.toUInt64).toInt64)) * (-7723592293110705685 : Int64))), .second] [(.long (((((u + (-7046029254386353131 : Int64)) ^^^ (((u + (-7046029254386353131 : Int64)).toUInt64 >>> ((30 : Int32) &&& 0x3f).toInt64.toUInt64).toInt64)) * (-4658895280553007687 : Int64)) ^^^ (((((u + (-7046029254386353131 : Int64)) ^^^ (((u + (-7046029254386353131 : Int64)).toUInt64 >>> ((30 : Int32) &&& 0x3f).toInt64.toUInt64).toInt64)) * (-4658895280553007687 : Int64)).toUInt64 >>> ((27 : Int32) &&& 0x3f).toInt64.toUInt64).toInt64)) * (-7723592293110705685 : Int64))), (.long (((((u + (-7046029254386353131 : Int64)) ^^^ (((u + (-7046029254386353131 : Int64)).toUInt64 >>> ((30 : Int32) &&& 0x3f).toInt64.toUInt64).toInt64)) * (-4658895280553007687 : Int64)) ^^^ (((((u + (-7046029254386353131 : Int64)) ^^^ (((u + (-7046029254386353131 : Int64)).toUInt64 >>> ((30 : Int32) &&& 0x3f).toInt64.toUInt64).toInt64)) * (-4658895280553007687 : Int64)).toUInt64 >>> ((27 : Int32) &&& 0x3f).toInt64.toUInt64).toInt64)) * (-7723592293110705685 : Int64)))])) _
    refine XS.bipush X5.here hx rfl (hb hby d3_41) ?_
    show Steps p.tables e below (T5.setTop (mkF m 43 #[.val (.ref a), .val (.long (((((u + (-7046029254386353131 : Int64)) ^^^ (((u + (-7046029254386353131 : Int64)).toUInt64 >>> ((30 : Int32) &&& 0x3f).toInt64.toUInt64).toInt64)) * (-4658895280553007687 : Int64)) ^^^ (((((u + (-7046029254386353131 : Int64)) ^^^ (((u + (-7046029254386353131 : Int64)).toUInt64 >>> ((30 : Int32) &&& 0x3f).toInt64.toUInt64).toInt64)) * (-4658895280553007687 : Int64)).toUInt64 >>> ((27 : Int32) &&& 0x3f).toInt64.toUInt64).toInt64)) * (-7723592293110705685 : Int64))), .second] [(.int (31 : Int32)), (.long (((((u + (-7046029254386353131 : Int64)) ^^^ (((u + (-7046029254386353131 : Int64)).toUInt64 >>> ((30 : Int32) &&& 0x3f).toInt64.toUInt64).toInt64)) * (-4658895280553007687 : Int64)) ^^^ (((((u + (-7046029254386353131 : Int64)) ^^^ (((u + (-7046029254386353131 : Int64)).toUInt64 >>> ((30 : Int32) &&& 0x3f).toInt64.toUInt64).toInt64)) * (-4658895280553007687 : Int64)).toUInt64 >>> ((27 : Int32) &&& 0x3f).toInt64.toUInt64).toInt64)) * (-7723592293110705685 : Int64))), (.long (((((u + (-7046029254386353131 : Int64)) ^^^ (((u + (-7046029254386353131 : Int64)).toUInt64 >>> ((30 : Int32) &&& 0x3f).toInt64.toUInt64).toInt64)) * (-4658895280553007687 : Int64)) ^^^ (((((u + (-7046029254386353131 : Int64)) ^^^ (((u + (-7046029254386353131 : Int64)).toUInt64 >>> ((30 : Int32) &&& 0x3f).toInt64.toUInt64).toInt64)) * (-4658895280553007687 : Int64)).toUInt64 >>> ((27 : Int32) &&& 0x3f).toInt64.toUInt64).toInt64)) * (-7723592293110705685 : Int64)))])) _
    refine XS.lushr X5.here hx rfl (hb hby d3_43) rfl ?_
    show Steps p.tables e below (T5.setTop (mkF m 44 #[.val (.ref a), .val (.long (((((u + (-7046029254386353131 : Int64)) ^^^ (((u + (-7046029254386353131 : Int64)).toUInt64 >>> ((30 : Int32) &&& 0x3f).toInt64.toUInt64).toInt64)) * (-4658895280553007687 : Int64)) ^^^ (((((u + (-7046029254386353131 : Int64)) ^^^ (((u + (-7046029254386353131 : Int64)).toUInt64 >>> ((30 : Int32) &&& 0x3f).toInt64.toUInt64).toInt64)) * (-4658895280553007687 : Int64)).toUInt64 >>> ((27 : Int32) &&& 0x3f).toInt64.toUInt64).toInt64)) * (-7723592293110705685 : Int64))), .second] [(.long (((((((u + (-7046029254386353131 : Int64)) ^^^ (((u + (-7046029254386353131 : Int64)).toUInt64 >>> ((30 : Int32) &&& 0x3f).toInt64.toUInt64).toInt64)) * (-4658895280553007687 : Int64)) ^^^ (((((u + (-7046029254386353131 : Int64)) ^^^ (((u + (-7046029254386353131 : Int64)).toUInt64 >>> ((30 : Int32) &&& 0x3f).toInt64.toUInt64).toInt64)) * (-4658895280553007687 : Int64)).toUInt64 >>> ((27 : Int32) &&& 0x3f).toInt64.toUInt64).toInt64)) * (-7723592293110705685 : Int64)).toUInt64 >>> ((31 : Int32) &&& 0x3f).toInt64.toUInt64).toInt64)), (.long (((((u + (-7046029254386353131 : Int64)) ^^^ (((u + (-7046029254386353131 : Int64)).toUInt64 >>> ((30 : Int32) &&& 0x3f).toInt64.toUInt64).toInt64)) * (-4658895280553007687 : Int64)) ^^^ (((((u + (-7046029254386353131 : Int64)) ^^^ (((u + (-7046029254386353131 : Int64)).toUInt64 >>> ((30 : Int32) &&& 0x3f).toInt64.toUInt64).toInt64)) * (-4658895280553007687 : Int64)).toUInt64 >>> ((27 : Int32) &&& 0x3f).toInt64.toUInt64).toInt64)) * (-7723592293110705685 : Int64)))])) _
    refine XS.lxor X5.here hx rfl (hb hby d3_44) rfl ?_
    exact kt
  refine Go.fin X5 (v := some (.long ((((((u + (-7046029254386353131 : Int64)) ^^^ (((u + (-7046029254386353131 : Int64)).toUInt64 >>> ((30 : Int32) &&& 0x3f).toInt64.toUInt64).toInt64)) * (-4658895280553007687 : Int64)) ^^^ (((((u + (-7046029254386353131 : Int64)) ^^^ (((u + (-7046029254386353131 : Int64)).toUInt64 >>> ((30 : Int32) &&& 0x3f).toInt64.toUInt64).toInt64)) * (-4658895280553007687 : Int64)).toUInt64 >>> ((27 : Int32) &&& 0x3f).toInt64.toUInt64).toInt64)) * (-7723592293110705685 : Int64)) ^^^ (((((((u + (-7046029254386353131 : Int64)) ^^^ (((u + (-7046029254386353131 : Int64)).toUInt64 >>> ((30 : Int32) &&& 0x3f).toInt64.toUInt64).toInt64)) * (-4658895280553007687 : Int64)) ^^^ (((((u + (-7046029254386353131 : Int64)) ^^^ (((u + (-7046029254386353131 : Int64)).toUInt64 >>> ((30 : Int32) &&& 0x3f).toInt64.toUInt64).toInt64)) * (-4658895280553007687 : Int64)).toUInt64 >>> ((27 : Int32) &&& 0x3f).toInt64.toUInt64).toInt64)) * (-7723592293110705685 : Int64)).toUInt64 >>> ((31 : Int32) &&& 0x3f).toInt64.toUInt64).toInt64)))) (fun h => by rw [Bd.returns] at h; cases h) Bd.notSynchronized ?_ (Nat.le_trans (Nat.le_refl 0) (by decide)) (Nat.le_trans (Nat.le_refl 0) (by decide)) (fun fs hr => X5.lreturnOut hx Bd.returns (hb hby d3_45) hr)
  · show QnextS Z a u RES h0 n0 _ T5.heap _
    rw [e5, hf]
    exact ⟨rfl, N2, K2, G4⟩
theorem d5_0 : decode method_2_code 0 = .ok (.lload_n 0, 1) := by decide +kernel
theorem d5_1 : decode method_2_code 1 = .ok (.lstore_n 2, 1) := by decide +kernel
theorem d5_2 : decode method_2_code 2 = .ok (.lload_n 2, 1) := by decide +kernel
theorem d5_3 : decode method_2_code 3 = .ok (.ldc2_w 7, 3) := by decide +kernel
theorem d5_6 : decode method_2_code 6 = .ok (.lload_n 0, 1) := by decide +kernel
theorem d5_7 : decode method_2_code 7 = .ok (.lload_n 2, 1) := by decide +kernel
theorem d5_8 : decode method_2_code 8 = .ok (.lmul, 1) := by decide +kernel
theorem d5_9 : decode method_2_code 9 = .ok (.lsub, 1) := by decide +kernel
theorem d5_10 : decode method_2_code 10 = .ok (.lmul, 1) := by decide +kernel
theorem d5_11 : decode method_2_code 11 = .ok (.lstore_n 2, 1) := by decide +kernel
theorem d5_12 : decode method_2_code 12 = .ok (.lload_n 2, 1) := by decide +kernel
theorem d5_13 : decode method_2_code 13 = .ok (.ldc2_w 7, 3) := by decide +kernel
theorem d5_16 : decode method_2_code 16 = .ok (.lload_n 0, 1) := by decide +kernel
theorem d5_17 : decode method_2_code 17 = .ok (.lload_n 2, 1) := by decide +kernel
theorem d5_18 : decode method_2_code 18 = .ok (.lmul, 1) := by decide +kernel
theorem d5_19 : decode method_2_code 19 = .ok (.lsub, 1) := by decide +kernel
theorem d5_20 : decode method_2_code 20 = .ok (.lmul, 1) := by decide +kernel
theorem d5_21 : decode method_2_code 21 = .ok (.lstore_n 2, 1) := by decide +kernel
theorem d5_22 : decode method_2_code 22 = .ok (.lload_n 2, 1) := by decide +kernel
theorem d5_23 : decode method_2_code 23 = .ok (.ldc2_w 7, 3) := by decide +kernel
theorem d5_26 : decode method_2_code 26 = .ok (.lload_n 0, 1) := by decide +kernel
theorem d5_27 : decode method_2_code 27 = .ok (.lload_n 2, 1) := by decide +kernel
theorem d5_28 : decode method_2_code 28 = .ok (.lmul, 1) := by decide +kernel
theorem d5_29 : decode method_2_code 29 = .ok (.lsub, 1) := by decide +kernel
theorem d5_30 : decode method_2_code 30 = .ok (.lmul, 1) := by decide +kernel
theorem d5_31 : decode method_2_code 31 = .ok (.lstore_n 2, 1) := by decide +kernel
theorem d5_32 : decode method_2_code 32 = .ok (.lload_n 2, 1) := by decide +kernel
theorem d5_33 : decode method_2_code 33 = .ok (.ldc2_w 7, 3) := by decide +kernel
theorem d5_36 : decode method_2_code 36 = .ok (.lload_n 0, 1) := by decide +kernel
theorem d5_37 : decode method_2_code 37 = .ok (.lload_n 2, 1) := by decide +kernel
theorem d5_38 : decode method_2_code 38 = .ok (.lmul, 1) := by decide +kernel
theorem d5_39 : decode method_2_code 39 = .ok (.lsub, 1) := by decide +kernel
theorem d5_40 : decode method_2_code 40 = .ok (.lmul, 1) := by decide +kernel
theorem d5_41 : decode method_2_code 41 = .ok (.lstore_n 2, 1) := by decide +kernel
theorem d5_42 : decode method_2_code 42 = .ok (.lload_n 2, 1) := by decide +kernel
theorem d5_43 : decode method_2_code 43 = .ok (.ldc2_w 7, 3) := by decide +kernel
theorem d5_46 : decode method_2_code 46 = .ok (.lload_n 0, 1) := by decide +kernel
theorem d5_47 : decode method_2_code 47 = .ok (.lload_n 2, 1) := by decide +kernel
theorem d5_48 : decode method_2_code 48 = .ok (.lmul, 1) := by decide +kernel
theorem d5_49 : decode method_2_code 49 = .ok (.lsub, 1) := by decide +kernel
theorem d5_50 : decode method_2_code 50 = .ok (.lmul, 1) := by decide +kernel
theorem d5_51 : decode method_2_code 51 = .ok (.lstore_n 2, 1) := by decide +kernel
theorem d5_52 : decode method_2_code 52 = .ok (.lload_n 2, 1) := by decide +kernel
theorem d5_53 : decode method_2_code 53 = .ok (.lreturn, 1) := by decide +kernel
theorem pn_1 : plainName "com/example/knotwise/knotwise/SplitMix64NextPinLaw" = true := by first | (simp [plainName, overriddenIn]; done) | decide +kernel
theorem ef_invJ (m : MethodId) (x0 : Int64) : entryFrame m #[(.long x0)] 4 = mkF m 0 #[.val (.long x0), .second, .unset, .unset] [] := by first | (simp [entryFrame, mkF, argsToLocals, Value.category]; done) | rfl
def invJ_52  (x2 : Int64) : Int64 := x2
def invJ_42 (p1 : Int64) (x2 : Int64) : Int64 := (invJ_52  (x2 * ((2 : Int64) - (p1 * x2))))
def invJ_32 (p1 : Int64) (x2 : Int64) : Int64 := (invJ_42 p1 (x2 * ((2 : Int64) - (p1 * x2))))
def invJ_22 (p1 : Int64) (x2 : Int64) : Int64 := (invJ_32 p1 (x2 * ((2 : Int64) - (p1 * x2))))
def invJ_12 (p1 : Int64) (x2 : Int64) : Int64 := (invJ_22 p1 (x2 * ((2 : Int64) - (p1 * x2))))
def invJ (p1 : Int64) : Int64 := (invJ_12 p1 (p1 * ((2 : Int64) - (p1 * p1))))
def QinvJ (RES : Int64) (h0 : Heap) (n0 : Nat) (v : Option Value) (h : Heap) (L : List Loc) : Prop := v = some (.long RES) ∧ Fr n0 L ∧ h = h0
set_option maxRecDepth 65536 in
set_option maxHeartbeats 40000000 in
theorem rm_invJ (l : Launch) (Z : State) (a0 : Array Value) (hw : ∀ d ∈ tables_1, d.before a0 Z = true) (ws : List Jvm.Cond) (p1 : Int64)  (h0 : Heap) (n0 : Nat) (Z0 : n0 ≤ h0.size) :
    MetFree l (⟨"com/example/knotwise/knotwise/SplitMix64NextPinLaw", "inverse", "(J)J"⟩ : MethodName) (head1 (Jvm.Cond.code (⟨"com/example/knotwise/knotwise/SplitMix64NextPinLaw", "inverse", "(J)J"⟩ : MethodName) method_2_code 4 (some .long) :: ws) ({ frames := 0, cells := 0, slots := 0, locals := 0 } : Room)) (fun A_ U => A_ = #[(.long p1)] ∧ Z.Warmed39 U.vm ∧ U.heap = h0) (fun _ _ _ _ _ => True) (fun _ U o U' => ∃ v L, o = .returned v ∧ QinvJ (invJ p1) h0 n0 v U'.heap L ∧ FrameEnd U o U' L ({ frames := 0, cells := 0, slots := 0, locals := 0 } : Room).cells ({ frames := 0, cells := 0, slots := 0, locals := 0 } : Room).slots) := by
  refine MetFree.of_bodySF (plainFor_of_name pn_1) hisR ?_
  intro p e s m args below meth c s₁ Bd hml0 hP hK
  obtain ⟨rfl, hZ, hh⟩ := hP
  have hx := Bd.exec
  have hby := Bd.bytes
  have hml : c.maxLocals = 4 := hml0
  have hown : s.vm.findClass "com/example/knotwise/knotwise/SplitMix64NextPinLaw" = some m.cls := findClass_of_methodNamed Bd.named
  have hnm := (name_of_methodNamed Bd.named Bd.method).1
  have X0 : Stand p l e ({ frames := 0, cells := 0, slots := 0, locals := 0 } : Room) s m #[(.long p1)] below meth c s₁ [] 0 0 := Stand.of_body Bd
  have e0 : s₁.heap = h0 := by rw [← hh, Bd.state]; rfl
  have N0 := Fr.nil n0
  obtain ⟨RES, hf⟩ : ∃ z, z = invJ p1 := ⟨_, rfl⟩
  rw [← hf]
  rw [invJ] at hf
  suffices HGO : Go p e below s (QinvJ RES h0 n0) ({ frames := 0, cells := 0, slots := 0, locals := 0 } : Room).cells ({ frames := 0, cells := 0, slots := 0, locals := 0 } : Room).slots s₁ (mkF m 0 #[.val (.long p1), .second, .unset, .unset] []) from Go.cast (ef_invJ m p1) HGO
  have S52 : ∀ (T : State) (locs : List Loc) (cells slots : Nat) (X : Stand p l e ({ frames := 0, cells := 0, slots := 0, locals := 0 } : Room) s m #[(.long p1)] below meth c T locs cells slots) (hcl : cells ≤ 0) (hsl : slots ≤ 0) (eT : T.heap = h0) (N : Fr n0 locs) (x2 : Int64)  (hf : RES = invJ_52  x2), Go p e below s (QinvJ RES h0 n0) ({ frames := 0, cells := 0, slots := 0, locals := 0 } : Room).cells ({ frames := 0, cells := 0, slots := 0, locals := 0 } : Room).slots T (mkF m 52 #[.val (.long p1), .second, .val (.long x2), .second] []) := by
    intro T locs cells slots X hcl hsl eT N x2 hf
    rw [invJ_52] at hf
    refine Go.step (T' := T) (f' := (mkF m 53 #[.val (.long p1), .second, .val (.long x2), .second] [(.long x2)])) (fun t kt => ?_) ?_
    · show Steps p.tables e below (T.setTop (mkF m 52 #[.val (.long p1), .second, .val (.long x2), .second] [])) _
      refine XS.lloadN X.here hx rfl (hb hby d5_52) rfl ?_
      exact kt
    refine Go.fin X (v := some (.long x2)) (fun h => by rw [Bd.returns] at h; cases h) Bd.notSynchronized ?_ (Nat.le_trans hcl (by decide)) (Nat.le_trans hsl (by decide)) (fun fs hr => X.lreturnOut hx Bd.returns (hb hby d5_53) hr)
    · exact ⟨by rw [hf], N, eT⟩
  have S42 : ∀ (T : State) (locs : List Loc) (cells slots : Nat) (X : Stand p l e ({ frames := 0, cells := 0, slots := 0, locals := 0 } : Room) s m #[(.long p1)] below meth c T locs cells slots) (hcl : cells ≤ 0) (hsl : slots ≤ 0) (eT : T.heap = h0) (N : Fr n0 locs) (x2 : Int64)  (hf : RES = invJ_42 p1 x2), Go p e below s (QinvJ RES h0 n0) ({ frames := 0, cells := 0, slots := 0, locals := 0 } : Room).cells ({ frames := 0, cells := 0, slots := 0, locals := 0 } : Room).slots T (mkF m 42 #[.val (.long p1), .second, .val (.long x2), .second] []) := by
    intro T locs cells slots X hcl hsl eT N x2 hf
    rw [invJ_42] at hf
    refine Go.step (T' := T) (f' := (mkF m 52 #[.val (.long p1), .second, .val (.long (x2 * ((2 : Int64) - (p1 * x2)))), .second] [])) (fun t kt => ?_) ?_
    · show Steps p.tables e below (T.setTop (mkF m 42 #[.val (.long p1), .second, .val (.long x2), .second] [])) _
      refine XS.lloadN X.here hx rfl (hb hby d5_42) rfl ?_
      show Steps p.tables e below (T.setTop (mkF m 43 #[.val (.long p1), .second, .val (.long x2), .second] [(.long x2)])) _
      refine X.ldc2Long hx hown (mvT hZ (hw _ (List.mem_of_getElem? (i := 28) rfl))) (g := (mkF m 43 #[.val (.long p1), .second, .val (.long x2), .second] [(.long x2)])) rfl (hb hby d5_43) _ ?_
      show Steps p.tables e below (T.setTop (mkF m 46 #[.val (.long p1), .second, .val (.long x2), .second] [(.long (2 : Int64)), (.long x2)])) _
      refine XS.lloadN X.here hx rfl (hb hby d5_46) rfl ?_
      show Steps p.tables e below (T.setTop (mkF m 47 #[.val (.long p1), .second, .val (.long x2), .second] [(.long p1), (.long (2 : Int64)), (.long x2)])) _
      refine XS.lloadN X.here hx rfl (hb hby d5_47) rfl ?_
      show Steps p.tables e below (T.setTop (mkF m 48 #[.val (.long p1), .second, .val (.long x2), .second] [(.long x2), (.long p1), (.long (2 : Int64)), (.long x2)])) _
      refine XS.lmul X.here hx rfl (hb hby d5_48) rfl ?_
      show Steps p.tables e below (T.setTop (mkF m 49 #[.val (.long p1), .second, .val (.long x2), .second] [(.long (p1 * x2)), (.long (2 : Int64)), (.long x2)])) _
      refine XS.lsub X.here hx rfl (hb hby d5_49) rfl ?_
      show Steps p.tables e below (T.setTop (mkF m 50 #[.val (.long p1), .second, .val (.long x2), .second] [(.long ((2 : Int64) - (p1 * x2))), (.long x2)])) _
      refine XS.lmul X.here hx rfl (hb hby d5_50) rfl ?_
      show Steps p.tables e below (T.setTop (mkF m 51 #[.val (.long p1), .second, .val (.long x2), .second] [(.long (x2 * ((2 : Int64) - (p1 * x2))))])) _
      refine XS.lstoreN X.here hx rfl (hb hby d5_51) rfl (l' := #[.val (.long p1), .second, .val (.long (x2 * ((2 : Int64) - (p1 * x2)))), .second]) rfl ?_
      exact kt
    exact S52 _ _ _ _ X (Nat.le_trans hcl (by decide)) (Nat.le_trans hsl (by decide)) eT N (x2 * ((2 : Int64) - (p1 * x2))) hf
  have S32 : ∀ (T : State) (locs : List Loc) (cells slots : Nat) (X : Stand p l e ({ frames := 0, cells := 0, slots := 0, locals := 0 } : Room) s m #[(.long p1)] below meth c T locs cells slots) (hcl : cells ≤ 0) (hsl : slots ≤ 0) (eT : T.heap = h0) (N : Fr n0 locs) (x2 : Int64)  (hf : RES = invJ_32 p1 x2), Go p e below s (QinvJ RES h0 n0) ({ frames := 0, cells := 0, slots := 0, locals := 0 } : Room).cells ({ frames := 0, cells := 0, slots := 0, locals := 0 } : Room).slots T (mkF m 32 #[.val (.long p1), .second, .val (.long x2), .second] []) := by
    intro T locs cells slots X hcl hsl eT N x2 hf
    rw [invJ_32] at hf
    refine Go.step (T' := T) (f' := (mkF m 42 #[.val (.long p1), .second, .val (.long (x2 * ((2 : Int64) - (p1 * x2)))), .second] [])) (fun t kt => ?_) ?_
    · show Steps p.tables e below (T.setTop (mkF m 32 #[.val (.long p1), .second, .val (.long x2), .second] [])) _
      refine XS.lloadN X.here hx rfl (hb hby d5_32) rfl ?_
      show Steps p.tables e below (T.setTop (mkF m 33 #[.val (.long p1), .second, .val (.long x2), .second] [(.long x2)])) _
      refine X.ldc2Long hx hown (mvT hZ (hw _ (List.mem_of_getElem? (i := 28) rfl))) (g := (mkF m 33 #[.val (.long p1), .second, .val (.long x2), .second] [(.long x2)])) rfl (hb hby d5_33) _ ?_
      show Steps p.tables e below (T.setTop (mkF m 36 #[.val (.long p1), .second, .val (.long x2), .second] [(.long (2 : Int64)), (.long x2)])) _
      refine XS.lloadN X.here hx rfl (hb hby d5_36) rfl ?_
      show Steps p.tables e below (T.setTop (mkF m 37 #[.val (.long p1), .second, .val (.long x2), .second] [(.long p1), (.long (2 : Int64)), (.long x2)])) _
      refine XS.lloadN X.here hx rfl (hb hby d5_37) rfl ?_
      show Steps p.tables e below (T.setTop (mkF m 38 #[.val (.long p1), .second, .val (.long x2), .second] [(.long x2), (.long p1), (.long (2 : Int64)), (.long x2)])) _
      refine XS.lmul X.here hx rfl (hb hby d5_38) rfl ?_
      show Steps p.tables e below (T.setTop (mkF m 39 #[.val (.long p1), .second, .val (.long x2), .second] [(.long (p1 * x2)), (.long (2 : Int64)), (.long x2)])) _
      refine XS.lsub X.here hx rfl (hb hby d5_39) rfl ?_
      show Steps p.tables e below (T.setTop (mkF m 40 #[.val (.long p1), .second, .val (.long x2), .second] [(.long ((2 : Int64) - (p1 * x2))), (.long x2)])) _
      refine XS.lmul X.here hx rfl (hb hby d5_40) rfl ?_
      show Steps p.tables e below (T.setTop (mkF m 41 #[.val (.long p1), .second, .val (.long x2), .second] [(.long (x2 * ((2 : Int64) - (p1 * x2))))])) _
      refine XS.lstoreN X.here hx rfl (hb hby d5_41) rfl (l' := #[.val (.long p1), .second, .val (.long (x2 * ((2 : Int64) - (p1 * x2)))), .second]) rfl ?_
      exact kt
    exact S42 _ _ _ _ X (Nat.le_trans hcl (by decide)) (Nat.le_trans hsl (by decide)) eT N (x2 * ((2 : Int64) - (p1 * x2))) hf
  have S22 : ∀ (T : State) (locs : List Loc) (cells slots : Nat) (X : Stand p l e ({ frames := 0, cells := 0, slots := 0, locals := 0 } : Room) s m #[(.long p1)] below meth c T locs cells slots) (hcl : cells ≤ 0) (hsl : slots ≤ 0) (eT : T.heap = h0) (N : Fr n0 locs) (x2 : Int64)  (hf : RES = invJ_22 p1 x2), Go p e below s (QinvJ RES h0 n0) ({ frames := 0, cells := 0, slots := 0, locals := 0 } : Room).cells ({ frames := 0, cells := 0, slots := 0, locals := 0 } : Room).slots T (mkF m 22 #[.val (.long p1), .second, .val (.long x2), .second] []) := by
    intro T locs cells slots X hcl hsl eT N x2 hf
    rw [invJ_22] at hf
    refine Go.step (T' := T) (f' := (mkF m 32 #[.val (.long p1), .second, .val (.long (x2 * ((2 : Int64) - (p1 * x2)))), .second] [])) (fun t kt => ?_) ?_
    · show Steps p.tables e below (T.setTop (mkF m 22 #[.val (.long p1), .second, .val (.long x2), .second] [])) _
      refine XS.lloadN X.here hx rfl (hb hby d5_22) rfl ?_
      show Steps p.tables e below (T.setTop (mkF m 23 #[.val (.long p1), .second, .val (.long x2), .second] [(.long x2)])) _
      refine X.ldc2Long hx hown (mvT hZ (hw _ (List.mem_of_getElem? (i := 28) rfl))) (g := (mkF m 23 #[.val (.long p1), .second, .val (.long x2), .second] [(.long x2)])) rfl (hb hby d5_23) _ ?_
      show Steps p.tables e below (T.setTop (mkF m 26 #[.val (.long p1), .second, .val (.long x2), .second] [(.long (2 : Int64)), (.long x2)])) _
      refine XS.lloadN X.here hx rfl (hb hby d5_26) rfl ?_
      show Steps p.tables e below (T.setTop (mkF m 27 #[.val (.long p1), .second, .val (.long x2), .second] [(.long p1), (.long (2 : Int64)), (.long x2)])) _
      refine XS.lloadN X.here hx rfl (hb hby d5_27) rfl ?_
      show Steps p.tables e below (T.setTop (mkF m 28 #[.val (.long p1), .second, .val (.long x2), .second] [(.long x2), (.long p1), (.long (2 : Int64)), (.long x2)])) _
      refine XS.lmul X.here hx rfl (hb hby d5_28) rfl ?_
      show Steps p.tables e below (T.setTop (mkF m 29 #[.val (.long p1), .second, .val (.long x2), .second] [(.long (p1 * x2)), (.long (2 : Int64)), (.long x2)])) _
      refine XS.lsub X.here hx rfl (hb hby d5_29) rfl ?_
      show Steps p.tables e below (T.setTop (mkF m 30 #[.val (.long p1), .second, .val (.long x2), .second] [(.long ((2 : Int64) - (p1 * x2))), (.long x2)])) _
      refine XS.lmul X.here hx rfl (hb hby d5_30) rfl ?_
      show Steps p.tables e below (T.setTop (mkF m 31 #[.val (.long p1), .second, .val (.long x2), .second] [(.long (x2 * ((2 : Int64) - (p1 * x2))))])) _
      refine XS.lstoreN X.here hx rfl (hb hby d5_31) rfl (l' := #[.val (.long p1), .second, .val (.long (x2 * ((2 : Int64) - (p1 * x2)))), .second]) rfl ?_
      exact kt
    exact S32 _ _ _ _ X (Nat.le_trans hcl (by decide)) (Nat.le_trans hsl (by decide)) eT N (x2 * ((2 : Int64) - (p1 * x2))) hf
  have S12 : ∀ (T : State) (locs : List Loc) (cells slots : Nat) (X : Stand p l e ({ frames := 0, cells := 0, slots := 0, locals := 0 } : Room) s m #[(.long p1)] below meth c T locs cells slots) (hcl : cells ≤ 0) (hsl : slots ≤ 0) (eT : T.heap = h0) (N : Fr n0 locs) (x2 : Int64)  (hf : RES = invJ_12 p1 x2), Go p e below s (QinvJ RES h0 n0) ({ frames := 0, cells := 0, slots := 0, locals := 0 } : Room).cells ({ frames := 0, cells := 0, slots := 0, locals := 0 } : Room).slots T (mkF m 12 #[.val (.long p1), .second, .val (.long x2), .second] []) := by
    intro T locs cells slots X hcl hsl eT N x2 hf
    rw [invJ_12] at hf
    refine Go.step (T' := T) (f' := (mkF m 22 #[.val (.long p1), .second, .val (.long (x2 * ((2 : Int64) - (p1 * x2)))), .second] [])) (fun t kt => ?_) ?_
    · show Steps p.tables e below (T.setTop (mkF m 12 #[.val (.long p1), .second, .val (.long x2), .second] [])) _
      refine XS.lloadN X.here hx rfl (hb hby d5_12) rfl ?_
      show Steps p.tables e below (T.setTop (mkF m 13 #[.val (.long p1), .second, .val (.long x2), .second] [(.long x2)])) _
      refine X.ldc2Long hx hown (mvT hZ (hw _ (List.mem_of_getElem? (i := 28) rfl))) (g := (mkF m 13 #[.val (.long p1), .second, .val (.long x2), .second] [(.long x2)])) rfl (hb hby d5_13) _ ?_
      show Steps p.tables e below (T.setTop (mkF m 16 #[.val (.long p1), .second, .val (.long x2), .second] [(.long (2 : Int64)), (.long x2)])) _
      refine XS.lloadN X.here hx rfl (hb hby d5_16) rfl ?_
      show Steps p.tables e below (T.setTop (mkF m 17 #[.val (.long p1), .second, .val (.long x2), .second] [(.long p1), (.long (2 : Int64)), (.long x2)])) _
      refine XS.lloadN X.here hx rfl (hb hby d5_17) rfl ?_
      show Steps p.tables e below (T.setTop (mkF m 18 #[.val (.long p1), .second, .val (.long x2), .second] [(.long x2), (.long p1), (.long (2 : Int64)), (.long x2)])) _
      refine XS.lmul X.here hx rfl (hb hby d5_18) rfl ?_
      show Steps p.tables e below (T.setTop (mkF m 19 #[.val (.long p1), .second, .val (.long x2), .second] [(.long (p1 * x2)), (.long (2 : Int64)), (.long x2)])) _
      refine XS.lsub X.here hx rfl (hb hby d5_19) rfl ?_
      show Steps p.tables e below (T.setTop (mkF m 20 #[.val (.long p1), .second, .val (.long x2), .second] [(.long ((2 : Int64) - (p1 * x2))), (.long x2)])) _
      refine XS.lmul X.here hx rfl (hb hby d5_20) rfl ?_
      show Steps p.tables e below (T.setTop (mkF m 21 #[.val (.long p1), .second, .val (.long x2), .second] [(.long (x2 * ((2 : Int64) - (p1 * x2))))])) _
      refine XS.lstoreN X.here hx rfl (hb hby d5_21) rfl (l' := #[.val (.long p1), .second, .val (.long (x2 * ((2 : Int64) - (p1 * x2)))), .second]) rfl ?_
      exact kt
    exact S22 _ _ _ _ X (Nat.le_trans hcl (by decide)) (Nat.le_trans hsl (by decide)) eT N (x2 * ((2 : Int64) - (p1 * x2))) hf
  refine Go.step (T' := s₁) (f' := (mkF m 12 #[.val (.long p1), .second, .val (.long (p1 * ((2 : Int64) - (p1 * p1)))), .second] [])) (fun t kt => ?_) ?_
  · show Steps p.tables e below (s₁.setTop (mkF m 0 #[.val (.long p1), .second, .unset, .unset] [])) _
    refine XS.lloadN X0.here hx rfl (hb hby d5_0) rfl ?_
    show Steps p.tables e below (s₁.setTop (mkF m 1 #[.val (.long p1), .second, .unset, .unset] [(.long p1)])) _
    refine XS.lstoreN X0.here hx rfl (hb hby d5_1) rfl (l' := #[.val (.long p1), .second, .val (.long p1), .second]) rfl ?_
    show Steps p.tables e below (s₁.setTop (mkF m 2 #[.val (.long p1), .second, .val (.long p1), .second] [])) _
    refine XS.lloadN X0.here hx rfl (hb hby d5_2) rfl ?_
    show Steps p.tables e below (s₁.setTop (mkF m 3 #[.val (.long p1), .second, .val (.long p1), .second] [(.long p1)])) _
    refine X0.ldc2Long hx hown (mvT hZ (hw _ (List.mem_of_getElem? (i := 28) rfl))) (g := (mkF m 3 #[.val (.long p1), .second, .val (.long p1), .second] [(.long p1)])) rfl (hb hby d5_3) _ ?_
    show Steps p.tables e below (s₁.setTop (mkF m 6 #[.val (.long p1), .second, .val (.long p1), .second] [(.long (2 : Int64)), (.long p1)])) _
    refine XS.lloadN X0.here hx rfl (hb hby d5_6) rfl ?_
    show Steps p.tables e below (s₁.setTop (mkF m 7 #[.val (.long p1), .second, .val (.long p1), .second] [(.long p1), (.long (2 : Int64)), (.long p1)])) _
    refine XS.lloadN X0.here hx rfl (hb hby d5_7) rfl ?_
    show Steps p.tables e below (s₁.setTop (mkF m 8 #[.val (.long p1), .second, .val (.long p1), .second] [(.long p1), (.long p1), (.long (2 : Int64)), (.long p1)])) _
    refine XS.lmul X0.here hx rfl (hb hby d5_8) rfl ?_
    show Steps p.tables e below (s₁.setTop (mkF m 9 #[.val (.long p1), .second, .val (.long p1), .second] [(.long (p1 * p1)), (.long (2 : Int64)), (.long p1)])) _
    refine XS.lsub X0.here hx rfl (hb hby d5_9) rfl ?_
    show Steps p.tables e below (s₁.setTop (mkF m 10 #[.val (.long p1), .second, .val (.long p1), .second] [(.long ((2 : Int64) - (p1 * p1))), (.long p1)])) _
    refine XS.lmul X0.here hx rfl (hb hby d5_10) rfl ?_
    show Steps p.tables e below (s₁.setTop (mkF m 11 #[.val (.long p1), .second, .val (.long p1), .second] [(.long (p1 * ((2 : Int64) - (p1 * p1))))])) _
    refine XS.lstoreN X0.here hx rfl (hb hby d5_11) rfl (l' := #[.val (.long p1), .second, .val (.long (p1 * ((2 : Int64) - (p1 * p1)))), .second]) rfl ?_
    exact kt
  exact S12 _ _ _ _ X0 (Nat.le_trans (Nat.le_refl 0) (by decide)) (Nat.le_trans (Nat.le_refl 0) (by decide)) e0 N0 (p1 * ((2 : Int64) - (p1 * p1))) hf
theorem pd_0 : parseMethodDescriptor "(J)J" = some ⟨[.long], some .long⟩ := by decide +kernel
theorem d4_0 : decode method_3_code 0 = .ok (.lload_n 0, 1) := by decide +kernel
theorem d4_1 : decode method_3_code 1 = .ok (.lload_n 0, 1) := by decide +kernel
theorem d4_2 : decode method_3_code 2 = .ok (.bipush 31, 2) := by decide +kernel
theorem d4_4 : decode method_3_code 4 = .ok (.lushr, 1) := by decide +kernel
theorem d4_5 : decode method_3_code 5 = .ok (.lxor, 1) := by decide +kernel
theorem d4_6 : decode method_3_code 6 = .ok (.lload_n 0, 1) := by decide +kernel
theorem d4_7 : decode method_3_code 7 = .ok (.bipush 62, 2) := by decide +kernel
theorem d4_9 : decode method_3_code 9 = .ok (.lushr, 1) := by decide +kernel
theorem d4_10 : decode method_3_code 10 = .ok (.lxor, 1) := by decide +kernel
theorem d4_11 : decode method_3_code 11 = .ok (.lstore_n 2, 1) := by decide +kernel
theorem d4_12 : decode method_3_code 12 = .ok (.lload_n 2, 1) := by decide +kernel
theorem d4_13 : decode method_3_code 13 = .ok (.ldc2_w 9, 3) := by decide +kernel
theorem d4_16 : decode method_3_code 16 = .ok (.invokestatic 11, 3) := by decide +kernel
theorem d4_19 : decode method_3_code 19 = .ok (.lmul, 1) := by decide +kernel
theorem d4_20 : decode method_3_code 20 = .ok (.lstore_n 2, 1) := by decide +kernel
theorem d4_21 : decode method_3_code 21 = .ok (.lload_n 2, 1) := by decide +kernel
theorem d4_22 : decode method_3_code 22 = .ok (.lload_n 2, 1) := by decide +kernel
theorem d4_23 : decode method_3_code 23 = .ok (.bipush 27, 2) := by decide +kernel
theorem d4_25 : decode method_3_code 25 = .ok (.lushr, 1) := by decide +kernel
theorem d4_26 : decode method_3_code 26 = .ok (.lxor, 1) := by decide +kernel
theorem d4_27 : decode method_3_code 27 = .ok (.lload_n 2, 1) := by decide +kernel
theorem d4_28 : decode method_3_code 28 = .ok (.bipush 54, 2) := by decide +kernel
theorem d4_30 : decode method_3_code 30 = .ok (.lushr, 1) := by decide +kernel
theorem d4_31 : decode method_3_code 31 = .ok (.lxor, 1) := by decide +kernel
theorem d4_32 : decode method_3_code 32 = .ok (.lstore_n 2, 1) := by decide +kernel
theorem d4_33 : decode method_3_code 33 = .ok (.lload_n 2, 1) := by decide +kernel
theorem d4_34 : decode method_3_code 34 = .ok (.ldc2_w 17, 3) := by decide +kernel
theorem d4_37 : decode method_3_code 37 = .ok (.invokestatic 11, 3) := by decide +kernel
theorem d4_40 : decode method_3_code 40 = .ok (.lmul, 1) := by decide +kernel
theorem d4_41 : decode method_3_code 41 = .ok (.lstore_n 2, 1) := by decide +kernel
theorem d4_42 : decode method_3_code 42 = .ok (.lload_n 2, 1) := by decide +kernel
theorem d4_43 : decode method_3_code 43 = .ok (.lload_n 2, 1) := by decide +kernel
theorem d4_44 : decode method_3_code 44 = .ok (.bipush 30, 2) := by decide +kernel
theorem d4_46 : decode method_3_code 46 = .ok (.lushr, 1) := by decide +kernel
theorem d4_47 : decode method_3_code 47 = .ok (.lxor, 1) := by decide +kernel
theorem d4_48 : decode method_3_code 48 = .ok (.lload_n 2, 1) := by decide +kernel
theorem d4_49 : decode method_3_code 49 = .ok (.bipush 60, 2) := by decide +kernel
theorem d4_51 : decode method_3_code 51 = .ok (.lushr, 1) := by decide +kernel
theorem d4_52 : decode method_3_code 52 = .ok (.lxor, 1) := by decide +kernel
theorem d4_53 : decode method_3_code 53 = .ok (.lstore_n 2, 1) := by decide +kernel
theorem d4_54 : decode method_3_code 54 = .ok (.lload_n 2, 1) := by decide +kernel
theorem d4_55 : decode method_3_code 55 = .ok (.lreturn, 1) := by decide +kernel
theorem ef_unmix (m : MethodId) (x0 : Int64) : entryFrame m #[(.long x0)] 4 = mkF m 0 #[.val (.long x0), .second, .unset, .unset] [] := by first | (simp [entryFrame, mkF, argsToLocals, Value.category]; done) | rfl
def unmix_42  (x2 : Int64) : Int64 := ((x2 ^^^ ((x2.toUInt64 >>> ((30 : Int32) &&& 0x3f).toInt64.toUInt64).toInt64)) ^^^ ((x2.toUInt64 >>> ((60 : Int32) &&& 0x3f).toInt64.toUInt64).toInt64))
def unmix_33  (x2 : Int64) : Int64 := (unmix_42  (x2 * (invJ (-4658895280553007687 : Int64))))
def unmix_21  (x2 : Int64) : Int64 := (unmix_33  ((x2 ^^^ ((x2.toUInt64 >>> ((27 : Int32) &&& 0x3f).toInt64.toUInt64).toInt64)) ^^^ ((x2.toUInt64 >>> ((54 : Int32) &&& 0x3f).toInt64.toUInt64).toInt64)))
def unmix_12  (x2 : Int64) : Int64 := (unmix_21  (x2 * (invJ (-7723592293110705685 : Int64))))
def unmix (p1 : Int64) : Int64 := (unmix_12  ((p1 ^^^ ((p1.toUInt64 >>> ((31 : Int32) &&& 0x3f).toInt64.toUInt64).toInt64)) ^^^ ((p1.toUInt64 >>> ((62 : Int32) &&& 0x3f).toInt64.toUInt64).toInt64)))
def Qunmix (RES : Int64) (h0 : Heap) (n0 : Nat) (v : Option Value) (h : Heap) (L : List Loc) : Prop := v = some (.long RES) ∧ Fr n0 L ∧ h = h0
set_option maxRecDepth 65536 in
set_option maxHeartbeats 40000000 in
theorem rm_unmix (l : Launch) (Z : State) (a0 : Array Value) (hw : ∀ d ∈ tables_1, d.before a0 Z = true) (ws : List Jvm.Cond) (p1 : Int64)  (h0 : Heap) (n0 : Nat) (Z0 : n0 ≤ h0.size) :
    MetFree l (⟨"com/example/knotwise/knotwise/SplitMix64NextPinLaw", "unmix", "(J)J"⟩ : MethodName) (head1 (Jvm.Cond.code (⟨"com/example/knotwise/knotwise/SplitMix64NextPinLaw", "unmix", "(J)J"⟩ : MethodName) method_3_code 4 (some .long) :: ws) ({ frames := 1, cells := 0, slots := 0, locals := 17 } : Room)) (fun A_ U => A_ = #[(.long p1)] ∧ Z.Warmed39 U.vm ∧ U.heap = h0) (fun _ _ _ _ _ => True) (fun _ U o U' => ∃ v L, o = .returned v ∧ Qunmix (unmix p1) h0 n0 v U'.heap L ∧ FrameEnd U o U' L ({ frames := 1, cells := 0, slots := 0, locals := 17 } : Room).cells ({ frames := 1, cells := 0, slots := 0, locals := 17 } : Room).slots) := by
  refine MetFree.of_bodySF (plainFor_of_name pn_1) hisR ?_
  intro p e s m args below meth c s₁ Bd hml0 hP hK
  obtain ⟨rfl, hZ, hh⟩ := hP
  have hx := Bd.exec
  have hby := Bd.bytes
  have hml : c.maxLocals = 4 := hml0
  have hown : s.vm.findClass "com/example/knotwise/knotwise/SplitMix64NextPinLaw" = some m.cls := findClass_of_methodNamed Bd.named
  have hnm := (name_of_methodNamed Bd.named Bd.method).1
  have X0 : Stand p l e ({ frames := 1, cells := 0, slots := 0, locals := 17 } : Room) s m #[(.long p1)] below meth c s₁ [] 0 0 := Stand.of_body Bd
  have e0 : s₁.heap = h0 := by rw [← hh, Bd.state]; rfl
  have N0 := Fr.nil n0
  obtain ⟨RES, hf⟩ : ∃ z, z = unmix p1 := ⟨_, rfl⟩
  rw [← hf]
  rw [unmix] at hf
  suffices HGO : Go p e below s (Qunmix RES h0 n0) ({ frames := 1, cells := 0, slots := 0, locals := 17 } : Room).cells ({ frames := 1, cells := 0, slots := 0, locals := 17 } : Room).slots s₁ (mkF m 0 #[.val (.long p1), .second, .unset, .unset] []) from Go.cast (ef_unmix m p1) HGO
  have S42 : ∀ (T : State) (locs : List Loc) (cells slots : Nat) (X : Stand p l e ({ frames := 1, cells := 0, slots := 0, locals := 17 } : Room) s m #[(.long p1)] below meth c T locs cells slots) (hcl : cells ≤ 0) (hsl : slots ≤ 0) (eT : T.heap = h0) (N : Fr n0 locs) (x2 : Int64)  (hf : RES = unmix_42  x2), Go p e below s (Qunmix RES h0 n0) ({ frames := 1, cells := 0, slots := 0, locals := 17 } : Room).cells ({ frames := 1, cells := 0, slots := 0, locals := 17 } : Room).slots T (mkF m 42 #[.val (.long p1), .second, .val (.long x2), .second] []) := by
    intro T locs cells slots X hcl hsl eT N x2 hf
    rw [unmix_42] at hf
    refine Go.step (T' := T) (f' := (mkF m 55 #[.val (.long p1), .second, .val (.long ((x2 ^^^ ((x2.toUInt64 >>> ((30 : Int32) &&& 0x3f).toInt64.toUInt64).toInt64)) ^^^ ((x2.toUInt64 >>> ((60 : Int32) &&& 0x3f).toInt64.toUInt64).toInt64))), .second] [(.long ((x2 ^^^ ((x2.toUInt64 >>> ((30 : Int32) &&& 0x3f).toInt64.toUInt64).toInt64)) ^^^ ((x2.toUInt64 >>> ((60 : Int32) &&& 0x3f).toInt64.toUInt64).toInt64)))])) (fun t kt => ?_) ?_
    · show Steps p.tables e below (T.setTop (mkF m 42 #[.val (.long p1), .second, .val (.long x2), .second] [])) _
      refine XS.lloadN X.here hx rfl (hb hby d4_42) rfl ?_
      show Steps p.tables e below (T.setTop (mkF m 43 #[.val (.long p1), .second, .val (.long x2), .second] [(.long x2)])) _
      refine XS.lloadN X.here hx rfl (hb hby d4_43) rfl ?_
      show Steps p.tables e below (T.setTop (mkF m 44 #[.val (.long p1), .second, .val (.long x2), .second] [(.long x2), (.long x2)])) _
      refine XS.bipush X.here hx rfl (hb hby d4_44) ?_
      show Steps p.tables e below (T.setTop (mkF m 46 #[.val (.long p1), .second, .val (.long x2), .second] [(.int (30 : Int32)), (.long x2), (.long x2)])) _
      refine XS.lushr X.here hx rfl (hb hby d4_46) rfl ?_
      show Steps p.tables e below (T.setTop (mkF m 47 #[.val (.long p1), .second, .val (.long x2), .second] [(.long ((x2.toUInt64 >>> ((30 : Int32) &&& 0x3f).toInt64.toUInt64).toInt64)), (.long x2)])) _
      refine XS.lxor X.here hx rfl (hb hby d4_47) rfl ?_
      show Steps p.tables e below (T.setTop (mkF m 48 #[.val (.long p1), .second, .val (.long x2), .second] [(.long (x2 ^^^ ((x2.toUInt64 >>> ((30 : Int32) &&& 0x3f).toInt64.toUInt64).toInt64)))])) _
      refine XS.lloadN X.here hx rfl (hb hby d4_48) rfl ?_
      show Steps p.tables e below (T.setTop (mkF m 49 #[.val (.long p1), .second, .val (.long x2), .second] [(.long x2), (.long (x2 ^^^ ((x2.toUInt64 >>> ((30 : Int32) &&& 0x3f).toInt64.toUInt64).toInt64)))])) _
      refine XS.bipush X.here hx rfl (hb hby d4_49) ?_
      show Steps p.tables e below (T.setTop (mkF m 51 #[.val (.long p1), .second, .val (.long x2), .second] [(.int (60 : Int32)), (.long x2), (.long (x2 ^^^ ((x2.toUInt64 >>> ((30 : Int32) &&& 0x3f).toInt64.toUInt64).toInt64)))])) _
      refine XS.lushr X.here hx rfl (hb hby d4_51) rfl ?_
      show Steps p.tables e below (T.setTop (mkF m 52 #[.val (.long p1), .second, .val (.long x2), .second] [(.long ((x2.toUInt64 >>> ((60 : Int32) &&& 0x3f).toInt64.toUInt64).toInt64)), (.long (x2 ^^^ ((x2.toUInt64 >>> ((30 : Int32) &&& 0x3f).toInt64.toUInt64).toInt64)))])) _
      refine XS.lxor X.here hx rfl (hb hby d4_52) rfl ?_
      show Steps p.tables e below (T.setTop (mkF m 53 #[.val (.long p1), .second, .val (.long x2), .second] [(.long ((x2 ^^^ ((x2.toUInt64 >>> ((30 : Int32) &&& 0x3f).toInt64.toUInt64).toInt64)) ^^^ ((x2.toUInt64 >>> ((60 : Int32) &&& 0x3f).toInt64.toUInt64).toInt64)))])) _
      refine XS.lstoreN X.here hx rfl (hb hby d4_53) rfl (l' := #[.val (.long p1), .second, .val (.long ((x2 ^^^ ((x2.toUInt64 >>> ((30 : Int32) &&& 0x3f).toInt64.toUInt64).toInt64)) ^^^ ((x2.toUInt64 >>> ((60 : Int32) &&& 0x3f).toInt64.toUInt64).toInt64))), .second]) rfl ?_
      show Steps p.tables e below (T.setTop (mkF m 54 #[.val (.long p1), .second, .val (.long ((x2 ^^^ ((x2.toUInt64 >>> ((30 : Int32) &&& 0x3f).toInt64.toUInt64).toInt64)) ^^^ ((x2.toUInt64 >>> ((60 : Int32) &&& 0x3f).toInt64.toUInt64).toInt64))), .second] [])) _
      refine XS.lloadN X.here hx rfl (hb hby d4_54) rfl ?_
      exact kt
    refine Go.fin X (v := some (.long ((x2 ^^^ ((x2.toUInt64 >>> ((30 : Int32) &&& 0x3f).toInt64.toUInt64).toInt64)) ^^^ ((x2.toUInt64 >>> ((60 : Int32) &&& 0x3f).toInt64.toUInt64).toInt64)))) (fun h => by rw [Bd.returns] at h; cases h) Bd.notSynchronized ?_ (Nat.le_trans hcl (by decide)) (Nat.le_trans hsl (by decide)) (fun fs hr => X.lreturnOut hx Bd.returns (hb hby d4_55) hr)
    · exact ⟨by rw [hf], N, eT⟩
  have S33 : ∀ (T : State) (locs : List Loc) (cells slots : Nat) (X : Stand p l e ({ frames := 1, cells := 0, slots := 0, locals := 17 } : Room) s m #[(.long p1)] below meth c T locs cells slots) (hcl : cells ≤ 0) (hsl : slots ≤ 0) (eT : T.heap = h0) (N : Fr n0 locs) (x2 : Int64)  (hf : RES = unmix_33  x2), Go p e below s (Qunmix RES h0 n0) ({ frames := 1, cells := 0, slots := 0, locals := 17 } : Room).cells ({ frames := 1, cells := 0, slots := 0, locals := 17 } : Room).slots T (mkF m 33 #[.val (.long p1), .second, .val (.long x2), .second] []) := by
    intro T locs cells slots X hcl hsl eT N x2 hf
    rw [unmix_33] at hf
    obtain ⟨_, _, ⟨T1, L1, k1, n1⟩, -, X1, ⟨Lc1, hQ1, l1, y1, z1⟩, st1⟩ := Jvm.LawKit.callS X hx (y := (⟨"com/example/knotwise/knotwise/SplitMix64NextPinLaw", "inverse", "(J)J"⟩ : MethodName)) hown (mvT hZ (hw _ (List.mem_of_getElem? (i := 25) rfl))) (mvT hZ (hw _ (List.mem_of_getElem? (i := 26) rfl))) (mvT hZ (hw _ (List.mem_of_getElem? (i := 22) rfl))) (mvT hZ (hw _ (List.mem_of_getElem? (i := 27) rfl))) (by decide) (backOf (W := 2) (rm_invJ l Z a0 hw [] (-4658895280553007687 : Int64)  h0 n0 Z0 ) hZ (hw _ (List.mem_of_getElem? (i := 27) rfl)) (hw _ (List.mem_of_getElem? (i := 22) rfl)) (by decide) (by decide)) (g := (mkF m 37 #[.val (.long p1), .second, .val (.long x2), .second] [(.long (-4658895280553007687 : Int64)), (.long x2)])) rfl (by rw [hml]; rfl) (argsL := [(.long (-4658895280553007687 : Int64))]) (rest := [(.long x2)]) (lenOf pd_0 rfl) rfl (by show 2 * 0 + _ ≤ _; exact Nat.le_of_eq rfl) (hb hby d4_37) (fun _ _ => ⟨rfl, eT, (Nat.le_trans (Nat.add_le_add_right hcl 0) (by decide)), (Nat.le_trans (Nat.add_le_add_right hsl 0) (by decide))⟩)
    dsimp only [Pt.U, Pt.locs, Pt.cells, Pt.slots] at X1 l1 y1 z1 st1 hQ1
    subst l1 y1 z1
    obtain ⟨rfl, N1q, e1⟩ := hQ1
    have N1 := Fr.app N N1q
    refine Go.step (T' := T1) (f' := (mkF m 42 #[.val (.long p1), .second, .val (.long (x2 * (invJ (-4658895280553007687 : Int64)))), .second] [])) (fun t kt => ?_) ?_
    · show Steps p.tables e below (T.setTop (mkF m 33 #[.val (.long p1), .second, .val (.long x2), .second] [])) _
      refine XS.lloadN X.here hx rfl (hb hby d4_33) rfl ?_
      show Steps p.tables e below (T.setTop (mkF m 34 #[.val (.long p1), .second, .val (.long x2), .second] [(.long x2)])) _
      refine X.ldc2Long hx hown (mvT hZ (hw _ (List.mem_of_getElem? (i := 29) rfl))) (g := (mkF m 34 #[.val (.long p1), .second, .val (.long x2), .second] [(.long x2)])) rfl (hb hby d4_34) _ ?_
      show Steps p.tables e below (T.setTop (mkF m 37 #[.val (.long p1), .second, .val (.long x2), .second] [(.long (-4658895280553007687 : Int64)), (.long x2)])) _
      refine st1 _ ?_
      show Steps p.tables e below (T1.setTop (mkF m 40 #[.val (.long p1), .second, .val (.long x2), .second] [(.long (invJ (-4658895280553007687 : Int64))), (.long x2)])) _
      refine XS.lmul X1.here hx rfl (hb hby d4_40) rfl ?_
      show Steps p.tables e below (T1.setTop (mkF m 41 #[.val (.long p1), .second, .val (.long x2), .second] [(.long (x2 * (invJ (-4658895280553007687 : Int64))))])) _
      refine XS.lstoreN X1.here hx rfl (hb hby d4_41) rfl (l' := #[.val (.long p1), .second, .val (.long (x2 * (invJ (-4658895280553007687 : Int64)))), .second]) rfl ?_
      exact kt
    exact S42 _ _ _ _ X1 (Nat.le_trans (Nat.add_le_add_right hcl 0) (by decide)) (Nat.le_trans (Nat.add_le_add_right hsl 0) (by decide)) e1 N1 (x2 * (invJ (-4658895280553007687 : Int64))) hf
  have S21 : ∀ (T : State) (locs : List Loc) (cells slots : Nat) (X : Stand p l e ({ frames := 1, cells := 0, slots := 0, locals := 17 } : Room) s m #[(.long p1)] below meth c T locs cells slots) (hcl : cells ≤ 0) (hsl : slots ≤ 0) (eT : T.heap = h0) (N : Fr n0 locs) (x2 : Int64)  (hf : RES = unmix_21  x2), Go p e below s (Qunmix RES h0 n0) ({ frames := 1, cells := 0, slots := 0, locals := 17 } : Room).cells ({ frames := 1, cells := 0, slots := 0, locals := 17 } : Room).slots T (mkF m 21 #[.val (.long p1), .second, .val (.long x2), .second] []) := by
    intro T locs cells slots X hcl hsl eT N x2 hf
    rw [unmix_21] at hf
    refine Go.step (T' := T) (f' := (mkF m 33 #[.val (.long p1), .second, .val (.long ((x2 ^^^ ((x2.toUInt64 >>> ((27 : Int32) &&& 0x3f).toInt64.toUInt64).toInt64)) ^^^ ((x2.toUInt64 >>> ((54 : Int32) &&& 0x3f).toInt64.toUInt64).toInt64))), .second] [])) (fun t kt => ?_) ?_
    · show Steps p.tables e below (T.setTop (mkF m 21 #[.val (.long p1), .second, .val (.long x2), .second] [])) _
      refine XS.lloadN X.here hx rfl (hb hby d4_21) rfl ?_
      show Steps p.tables e below (T.setTop (mkF m 22 #[.val (.long p1), .second, .val (.long x2), .second] [(.long x2)])) _
      refine XS.lloadN X.here hx rfl (hb hby d4_22) rfl ?_
      show Steps p.tables e below (T.setTop (mkF m 23 #[.val (.long p1), .second, .val (.long x2), .second] [(.long x2), (.long x2)])) _
      refine XS.bipush X.here hx rfl (hb hby d4_23) ?_
      show Steps p.tables e below (T.setTop (mkF m 25 #[.val (.long p1), .second, .val (.long x2), .second] [(.int (27 : Int32)), (.long x2), (.long x2)])) _
      refine XS.lushr X.here hx rfl (hb hby d4_25) rfl ?_
      show Steps p.tables e below (T.setTop (mkF m 26 #[.val (.long p1), .second, .val (.long x2), .second] [(.long ((x2.toUInt64 >>> ((27 : Int32) &&& 0x3f).toInt64.toUInt64).toInt64)), (.long x2)])) _
      refine XS.lxor X.here hx rfl (hb hby d4_26) rfl ?_
      show Steps p.tables e below (T.setTop (mkF m 27 #[.val (.long p1), .second, .val (.long x2), .second] [(.long (x2 ^^^ ((x2.toUInt64 >>> ((27 : Int32) &&& 0x3f).toInt64.toUInt64).toInt64)))])) _
      refine XS.lloadN X.here hx rfl (hb hby d4_27) rfl ?_
      show Steps p.tables e below (T.setTop (mkF m 28 #[.val (.long p1), .second, .val (.long x2), .second] [(.long x2), (.long (x2 ^^^ ((x2.toUInt64 >>> ((27 : Int32) &&& 0x3f).toInt64.toUInt64).toInt64)))])) _
      refine XS.bipush X.here hx rfl (hb hby d4_28) ?_
      show Steps p.tables e below (T.setTop (mkF m 30 #[.val (.long p1), .second, .val (.long x2), .second] [(.int (54 : Int32)), (.long x2), (.long (x2 ^^^ ((x2.toUInt64 >>> ((27 : Int32) &&& 0x3f).toInt64.toUInt64).toInt64)))])) _
      refine XS.lushr X.here hx rfl (hb hby d4_30) rfl ?_
      show Steps p.tables e below (T.setTop (mkF m 31 #[.val (.long p1), .second, .val (.long x2), .second] [(.long ((x2.toUInt64 >>> ((54 : Int32) &&& 0x3f).toInt64.toUInt64).toInt64)), (.long (x2 ^^^ ((x2.toUInt64 >>> ((27 : Int32) &&& 0x3f).toInt64.toUInt64).toInt64)))])) _
      refine XS.lxor X.here hx rfl (hb hby d4_31) rfl ?_
      show Steps p.tables e below (T.setTop (mkF m 32 #[.val (.long p1), .second, .val (.long x2), .second] [(.long ((x2 ^^^ ((x2.toUInt64 >>> ((27 : Int32) &&& 0x3f).toInt64.toUInt64).toInt64)) ^^^ ((x2.toUInt64 >>> ((54 : Int32) &&& 0x3f).toInt64.toUInt64).toInt64)))])) _
      refine XS.lstoreN X.here hx rfl (hb hby d4_32) rfl (l' := #[.val (.long p1), .second, .val (.long ((x2 ^^^ ((x2.toUInt64 >>> ((27 : Int32) &&& 0x3f).toInt64.toUInt64).toInt64)) ^^^ ((x2.toUInt64 >>> ((54 : Int32) &&& 0x3f).toInt64.toUInt64).toInt64))), .second]) rfl ?_
      exact kt
    exact S33 _ _ _ _ X (Nat.le_trans hcl (by decide)) (Nat.le_trans hsl (by decide)) eT N ((x2 ^^^ ((x2.toUInt64 >>> ((27 : Int32) &&& 0x3f).toInt64.toUInt64).toInt64)) ^^^ ((x2.toUInt64 >>> ((54 : Int32) &&& 0x3f).toInt64.toUInt64).toInt64)) hf
  have S12 : ∀ (T : State) (locs : List Loc) (cells slots : Nat) (X : Stand p l e ({ frames := 1, cells := 0, slots := 0, locals := 17 } : Room) s m #[(.long p1)] below meth c T locs cells slots) (hcl : cells ≤ 0) (hsl : slots ≤ 0) (eT : T.heap = h0) (N : Fr n0 locs) (x2 : Int64)  (hf : RES = unmix_12  x2), Go p e below s (Qunmix RES h0 n0) ({ frames := 1, cells := 0, slots := 0, locals := 17 } : Room).cells ({ frames := 1, cells := 0, slots := 0, locals := 17 } : Room).slots T (mkF m 12 #[.val (.long p1), .second, .val (.long x2), .second] []) := by
    intro T locs cells slots X hcl hsl eT N x2 hf
    rw [unmix_12] at hf
    obtain ⟨_, _, ⟨T2, L2, k2, n2⟩, -, X2, ⟨Lc2, hQ2, l2, y2, z2⟩, st2⟩ := Jvm.LawKit.callS X hx (y := (⟨"com/example/knotwise/knotwise/SplitMix64NextPinLaw", "inverse", "(J)J"⟩ : MethodName)) hown (mvT hZ (hw _ (List.mem_of_getElem? (i := 25) rfl))) (mvT hZ (hw _ (List.mem_of_getElem? (i := 26) rfl))) (mvT hZ (hw _ (List.mem_of_getElem? (i := 22) rfl))) (mvT hZ (hw _ (List.mem_of_getElem? (i := 27) rfl))) (by decide) (backOf (W := 2) (rm_invJ l Z a0 hw [] (-7723592293110705685 : Int64)  h0 n0 Z0 ) hZ (hw _ (List.mem_of_getElem? (i := 27) rfl)) (hw _ (List.mem_of_getElem? (i := 22) rfl)) (by decide) (by decide)) (g := (mkF m 16 #[.val (.long p1), .second, .val (.long x2), .second] [(.long (-7723592293110705685 : Int64)), (.long x2)])) rfl (by rw [hml]; rfl) (argsL := [(.long (-7723592293110705685 : Int64))]) (rest := [(.long x2)]) (lenOf pd_0 rfl) rfl (by show 2 * 0 + _ ≤ _; exact Nat.le_of_eq rfl) (hb hby d4_16) (fun _ _ => ⟨rfl, eT, (Nat.le_trans (Nat.add_le_add_right hcl 0) (by decide)), (Nat.le_trans (Nat.add_le_add_right hsl 0) (by decide))⟩)
    dsimp only [Pt.U, Pt.locs, Pt.cells, Pt.slots] at X2 l2 y2 z2 st2 hQ2
    subst l2 y2 z2
    obtain ⟨rfl, N2q, e2⟩ := hQ2
    have N2 := Fr.app N N2q
    refine Go.step (T' := T2) (f' := (mkF m 21 #[.val (.long p1), .second, .val (.long (x2 * (invJ (-7723592293110705685 : Int64)))), .second] [])) (fun t kt => ?_) ?_
    · show Steps p.tables e below (T.setTop (mkF m 12 #[.val (.long p1), .second, .val (.long x2), .second] [])) _
      refine XS.lloadN X.here hx rfl (hb hby d4_12) rfl ?_
      show Steps p.tables e below (T.setTop (mkF m 13 #[.val (.long p1), .second, .val (.long x2), .second] [(.long x2)])) _
      refine X.ldc2Long hx hown (mvT hZ (hw _ (List.mem_of_getElem? (i := 24) rfl))) (g := (mkF m 13 #[.val (.long p1), .second, .val (.long x2), .second] [(.long x2)])) rfl (hb hby d4_13) _ ?_
      show Steps p.tables e below (T.setTop (mkF m 16 #[.val (.long p1), .second, .val (.long x2), .second] [(.long (-7723592293110705685 : Int64)), (.long x2)])) _
      refine st2 _ ?_
      show Steps p.tables e below (T2.setTop (mkF m 19 #[.val (.long p1), .second, .val (.long x2), .second] [(.long (invJ (-7723592293110705685 : Int64))), (.long x2)])) _
      refine XS.lmul X2.here hx rfl (hb hby d4_19) rfl ?_
      show Steps p.tables e below (T2.setTop (mkF m 20 #[.val (.long p1), .second, .val (.long x2), .second] [(.long (x2 * (invJ (-7723592293110705685 : Int64))))])) _
      refine XS.lstoreN X2.here hx rfl (hb hby d4_20) rfl (l' := #[.val (.long p1), .second, .val (.long (x2 * (invJ (-7723592293110705685 : Int64)))), .second]) rfl ?_
      exact kt
    exact S21 _ _ _ _ X2 (Nat.le_trans (Nat.add_le_add_right hcl 0) (by decide)) (Nat.le_trans (Nat.add_le_add_right hsl 0) (by decide)) e2 N2 (x2 * (invJ (-7723592293110705685 : Int64))) hf
  refine Go.step (T' := s₁) (f' := (mkF m 12 #[.val (.long p1), .second, .val (.long ((p1 ^^^ ((p1.toUInt64 >>> ((31 : Int32) &&& 0x3f).toInt64.toUInt64).toInt64)) ^^^ ((p1.toUInt64 >>> ((62 : Int32) &&& 0x3f).toInt64.toUInt64).toInt64))), .second] [])) (fun t kt => ?_) ?_
  · show Steps p.tables e below (s₁.setTop (mkF m 0 #[.val (.long p1), .second, .unset, .unset] [])) _
    refine XS.lloadN X0.here hx rfl (hb hby d4_0) rfl ?_
    show Steps p.tables e below (s₁.setTop (mkF m 1 #[.val (.long p1), .second, .unset, .unset] [(.long p1)])) _
    refine XS.lloadN X0.here hx rfl (hb hby d4_1) rfl ?_
    show Steps p.tables e below (s₁.setTop (mkF m 2 #[.val (.long p1), .second, .unset, .unset] [(.long p1), (.long p1)])) _
    refine XS.bipush X0.here hx rfl (hb hby d4_2) ?_
    show Steps p.tables e below (s₁.setTop (mkF m 4 #[.val (.long p1), .second, .unset, .unset] [(.int (31 : Int32)), (.long p1), (.long p1)])) _
    refine XS.lushr X0.here hx rfl (hb hby d4_4) rfl ?_
    show Steps p.tables e below (s₁.setTop (mkF m 5 #[.val (.long p1), .second, .unset, .unset] [(.long ((p1.toUInt64 >>> ((31 : Int32) &&& 0x3f).toInt64.toUInt64).toInt64)), (.long p1)])) _
    refine XS.lxor X0.here hx rfl (hb hby d4_5) rfl ?_
    show Steps p.tables e below (s₁.setTop (mkF m 6 #[.val (.long p1), .second, .unset, .unset] [(.long (p1 ^^^ ((p1.toUInt64 >>> ((31 : Int32) &&& 0x3f).toInt64.toUInt64).toInt64)))])) _
    refine XS.lloadN X0.here hx rfl (hb hby d4_6) rfl ?_
    show Steps p.tables e below (s₁.setTop (mkF m 7 #[.val (.long p1), .second, .unset, .unset] [(.long p1), (.long (p1 ^^^ ((p1.toUInt64 >>> ((31 : Int32) &&& 0x3f).toInt64.toUInt64).toInt64)))])) _
    refine XS.bipush X0.here hx rfl (hb hby d4_7) ?_
    show Steps p.tables e below (s₁.setTop (mkF m 9 #[.val (.long p1), .second, .unset, .unset] [(.int (62 : Int32)), (.long p1), (.long (p1 ^^^ ((p1.toUInt64 >>> ((31 : Int32) &&& 0x3f).toInt64.toUInt64).toInt64)))])) _
    refine XS.lushr X0.here hx rfl (hb hby d4_9) rfl ?_
    show Steps p.tables e below (s₁.setTop (mkF m 10 #[.val (.long p1), .second, .unset, .unset] [(.long ((p1.toUInt64 >>> ((62 : Int32) &&& 0x3f).toInt64.toUInt64).toInt64)), (.long (p1 ^^^ ((p1.toUInt64 >>> ((31 : Int32) &&& 0x3f).toInt64.toUInt64).toInt64)))])) _
    refine XS.lxor X0.here hx rfl (hb hby d4_10) rfl ?_
    show Steps p.tables e below (s₁.setTop (mkF m 11 #[.val (.long p1), .second, .unset, .unset] [(.long ((p1 ^^^ ((p1.toUInt64 >>> ((31 : Int32) &&& 0x3f).toInt64.toUInt64).toInt64)) ^^^ ((p1.toUInt64 >>> ((62 : Int32) &&& 0x3f).toInt64.toUInt64).toInt64)))])) _
    refine XS.lstoreN X0.here hx rfl (hb hby d4_11) rfl (l' := #[.val (.long p1), .second, .val (.long ((p1 ^^^ ((p1.toUInt64 >>> ((31 : Int32) &&& 0x3f).toInt64.toUInt64).toInt64)) ^^^ ((p1.toUInt64 >>> ((62 : Int32) &&& 0x3f).toInt64.toUInt64).toInt64))), .second]) rfl ?_
    exact kt
  exact S12 _ _ _ _ X0 (Nat.le_trans (Nat.le_refl 0) (by decide)) (Nat.le_trans (Nat.le_refl 0) (by decide)) e0 N0 ((p1 ^^^ ((p1.toUInt64 >>> ((31 : Int32) &&& 0x3f).toInt64.toUInt64).toInt64)) ^^^ ((p1.toUInt64 >>> ((62 : Int32) &&& 0x3f).toInt64.toUInt64).toInt64)) hf
theorem pd_1 : parseMethodDescriptor "(J)V" = some ⟨[.long], none⟩ := by decide +kernel
theorem pd_2 : parseMethodDescriptor "()J" = some ⟨[], some .long⟩ := by decide +kernel
theorem ef_0 (m : MethodId) (x0 : Int64) : entryFrame m #[(.long x0)] maxLocals = mkF m 0 #[.val (.long x0), .second, .unset, .unset, .unset, .unset, .unset, .unset, .unset, .unset, .unset] [] := by first | (simp [entryFrame, mkF, argsToLocals, Value.category, maxLocals]; done) | rfl
def lawF (p1 : Int64) : Int32 := (if (unmix (nextS p1).1) = (p1 + (-7046029254386353131 : Int64)) then (if (unmix (nextS (nextS p1).2).1) = (p1 + (4354685564936845354 : Int64)) then (if (unmix (nextS (nextS (nextS p1).2).2).1) = (p1 + (-2691343689449507777 : Int64)) then (1 : Int32) else (0 : Int32)) else (0 : Int32)) else (0 : Int32))
def Q0 (Z : State) (p1 : Int64)  (RES : Int32) (h0 : Heap) (n0 : Nat) (v : Option Value) (h : Heap) (L : List Loc) : Prop := v = some (.int RES) ∧ Fr n0 L
set_option maxRecDepth 65536 in
set_option maxHeartbeats 40000000 in
theorem rm_0 (l : Launch) (Z : State) (a0 : Array Value) (hw : ∀ d ∈ tables_1, d.before a0 Z = true) (ws : List Jvm.Cond) (p1 : Int64)  (h0 : Heap) (n0 : Nat) (Z0 : n0 ≤ h0.size) :
    MetFree l x (head1 (Jvm.Cond.code x code maxLocals ret :: ws) room_1) (fun A_ U => A_ = #[(.long p1)] ∧ Z.Warmed39 U.vm ∧ U.heap = h0) (fun _ _ _ _ _ => True) (fun _ U o U' => ∃ v L, o = .returned v ∧ Q0 Z p1 (lawF p1) h0 n0 v U'.heap L ∧ FrameEnd U o U' L 16 128) := by
  refine MetFree.of_bodySF (plainFor_of_name pn_1) hisR ?_
  intro p e s m args below meth c s₁ Bd hml0 hP hK
  obtain ⟨rfl, hZ, hh⟩ := hP
  have hx := Bd.exec
  have hby := Bd.bytes
  have hml : c.maxLocals = 11 := hml0
  have hown : s.vm.findClass "com/example/knotwise/knotwise/SplitMix64NextPinLaw" = some m.cls := findClass_of_methodNamed Bd.named
  have hnm := (name_of_methodNamed Bd.named Bd.method).1
  have X0 : Stand p l e room_1 s m #[(.long p1)] below meth c s₁ [] 0 0 := Stand.of_body Bd
  have e0 : s₁.heap = h0 := by rw [← hh, Bd.state]; rfl
  have N0 := Fr.nil n0
  obtain ⟨RES, hf⟩ : ∃ z, z = lawF p1 := ⟨_, rfl⟩
  rw [← hf]
  rw [lawF] at hf
  suffices HGO : Go p e below s (Q0 Z p1 RES h0 n0) 16 128 s₁ (mkF m 0 #[.val (.long p1), .second, .unset, .unset, .unset, .unset, .unset, .unset, .unset, .unset, .unset] []) from Go.cast (ef_0 m p1) HGO
  obtain ⟨T1, h1, X1, e1, E1, A1, D1, -, st1⟩ := newO X0 hx hZ hown (hw _ (List.mem_of_getElem? (i := 1) rfl)) (hw _ (List.mem_of_getElem? (i := 2) rfl)) (hw _ (List.mem_of_getElem? (i := 3) rfl)) e0 (g := (mkF m 4 #[.val (.long p1), .second, .val (.long (-7046029254386353131 : Int64)), .second, .unset, .unset, .unset, .unset, .unset, .unset, .unset] [])) rfl (hb hby at_4) (Nat.le_trans (Nat.add_le_add_right (Nat.le_refl 0) 1) (by decide)) (Nat.le_trans (Nat.add_le_add_right (Nat.le_refl 0) 1) (by decide))
  obtain ⟨b1, g1⟩ : ∃ z, z = h0.size := ⟨_, rfl⟩
  rw [← g1] at A1 D1 st1
  have g_b1 : n0 ≤ b1 := Nat.le_trans Z0 (Nat.le_of_eq g1.symm)
  have sz_b1 : h0.size ≤ b1 := Nat.le_trans (Keep.refl h0 []).1 (Nat.le_of_eq g1.symm)
  have K1 : Keep h0 h1 [] := Keep.ext (Keep.refl h0 []) E1
  have Z1 : n0 ≤ h1.size := Nat.le_trans Z0 K1.1
  have G2 : Fld Z h1 b1 "com/example/knotwise/knotwise/SplitMix64" "state" "J" (.long (0 : Int64)) := D1 (Or.inl (hw _ (List.mem_of_getElem? (i := 11) rfl))) (ty := .long) (by decide)
  obtain ⟨_, _, ⟨T3, L3, k3, n3⟩, -, X3, ⟨Lc3, hQ3, l3, y3, z3⟩, st3⟩ := X1.specialBack hx (y := (⟨"com/example/knotwise/knotwise/SplitMix64", "<init>", "(J)V"⟩ : MethodName)) rfl hown (mvT hZ (hw _ (List.mem_of_getElem? (i := 4) rfl))) (mvT hZ (hw _ (List.mem_of_getElem? (i := 5) rfl))) (mvT hZ (hw _ (List.mem_of_getElem? (i := 6) rfl))) (by decide) (backOf (W := 1) (rm_iniS l Z a0 hw [] b1 p1 (0 : Int64) h1 n0 Z1 A1 G2 g_b1 ) hZ (hw _ (List.mem_of_getElem? (i := 6) rfl)) (hw _ (List.mem_of_getElem? (i := 3) rfl)) (by decide) (by decide)) (g := (mkF m 9 #[.val (.long p1), .second, .val (.long (-7046029254386353131 : Int64)), .second, .unset, .unset, .unset, .unset, .unset, .unset, .unset] [(.long p1), (.ref b1), (.ref b1)])) rfl (by rw [hml]; rfl) (Steps.refl _) (a := b1) (argsL := [(.long p1)]) (rest := [(.ref b1)]) (lenOf pd_1 rfl) rfl (by show 2 * 0 + _ ≤ _; exact Nat.le_of_eq rfl) (hb hby at_9) (fun _ _ => ⟨rfl, e1, (Nat.le_trans (Nat.add_le_add_right (Nat.add_le_add_right (Nat.le_refl 0) 1) 0) (by decide)), (Nat.le_trans (Nat.add_le_add_right (Nat.add_le_add_right (Nat.le_refl 0) 1) 0) (by decide))⟩)
  dsimp only [Pt.U, Pt.locs, Pt.cells, Pt.slots] at X3 l3 y3 z3 st3 hQ3
  subst l3 y3 z3
  obtain ⟨rfl, N3q, Kq3, pf3_0⟩ := hQ3
  have G4 : Exa Z T3.heap b1 "com/example/knotwise/knotwise/SplitMix64" := Exa.keep A1 Kq3
  have G5 : Fld Z T3.heap b1 "com/example/knotwise/knotwise/SplitMix64" "state" "J" (.long p1) := pf3_0
  have K3 : Keep h0 T3.heap [] := Keep.trans K1 Kq3 (allS (Or.inr sz_b1) all0)
  have Z3 : n0 ≤ T3.heap.size := Nat.le_trans Z0 K3.1
  have N3 := Fr.app N0 N3q
  obtain ⟨cq6, kq6, q6a, q6b, q6c⟩ := isOf hZ rfl (G4 : Exa Z T3.heap b1 "com/example/knotwise/knotwise/SplitMix64")
  obtain ⟨_, _, ⟨T6, L6, k6, n6⟩, -, X6, ⟨Lc6, hQ6, l6, y6, z6⟩, st6⟩ := X3.virtualBack hx (y := (⟨"com/example/knotwise/knotwise/SplitMix64", "next", "()J"⟩ : MethodName)) (z := (⟨"com/example/knotwise/knotwise/SplitMix64", "next", "()J"⟩ : MethodName)) hown (mvT hZ (hw _ (List.mem_of_getElem? (i := 12) rfl))) (mvT hZ (hw _ (List.mem_of_getElem? (i := 13) rfl))) (notFace_of_selects (args := #[]) (mvT hZ (hw _ (List.mem_of_getElem? (i := 15) rfl)))) (mvT hZ (hw _ (List.mem_of_getElem? (i := 15) rfl))) (mvT hZ (hw _ (List.mem_of_getElem? (i := 14) rfl))) (by decide) (backOf (W := 0) (rm_nextS l Z a0 hw [] b1 p1 T3.heap n0 Z3 G4 G5 g_b1 ) hZ (hw _ (List.mem_of_getElem? (i := 16) rfl)) (hw _ (List.mem_of_getElem? (i := 3) rfl)) (by decide) (by decide)) q6a q6c (g := (mkF m 16 #[.val (.long p1), .second, .val (.long (-7046029254386353131 : Int64)), .second, .val (.ref b1), .unset, .unset, .unset, .unset, .unset, .unset] [(.ref b1)])) rfl (by rw [hml]; rfl) (Steps.refl _) (argsL := []) (rest := []) (lenOf pd_2 rfl) rfl (by show 2 * 0 + _ ≤ _; exact Nat.le_of_eq rfl) (hb hby at_16) (fun _ _ => ⟨rfl, rfl, (Nat.le_trans (Nat.add_le_add_right (Nat.add_le_add_right (Nat.add_le_add_right (Nat.le_refl 0) 1) 0) 0) (by decide)), (Nat.le_trans (Nat.add_le_add_right (Nat.add_le_add_right (Nat.add_le_add_right (Nat.le_refl 0) 1) 0) 0) (by decide))⟩)
  dsimp only [Pt.U, Pt.locs, Pt.cells, Pt.slots] at X6 l6 y6 z6 st6 hQ6
  subst l6 y6 z6
  obtain ⟨rfl, N6q, Kq6, pf6_0⟩ := hQ6
  have G7 : Exa Z T6.heap b1 "com/example/knotwise/knotwise/SplitMix64" := Exa.keep G4 Kq6
  have K6 : Keep h0 T6.heap [] := Keep.trans K3 Kq6 (allS (Or.inr sz_b1) all0)
  have Z6 : n0 ≤ T6.heap.size := Nat.le_trans Z0 K6.1
  have N6 := Fr.app N3 N6q
  obtain ⟨cq8, kq8, q8a, q8b, q8c⟩ := isOf hZ rfl (G7 : Exa Z T6.heap b1 "com/example/knotwise/knotwise/SplitMix64")
  obtain ⟨_, _, ⟨T8, L8, k8, n8⟩, -, X8, ⟨Lc8, hQ8, l8, y8, z8⟩, st8⟩ := X6.virtualBack hx (y := (⟨"com/example/knotwise/knotwise/SplitMix64", "next", "()J"⟩ : MethodName)) (z := (⟨"com/example/knotwise/knotwise/SplitMix64", "next", "()J"⟩ : MethodName)) hown (mvT hZ (hw _ (List.mem_of_getElem? (i := 12) rfl))) (mvT hZ (hw _ (List.mem_of_getElem? (i := 13) rfl))) (notFace_of_selects (args := #[]) (mvT hZ (hw _ (List.mem_of_getElem? (i := 15) rfl)))) (mvT hZ (hw _ (List.mem_of_getElem? (i := 15) rfl))) (mvT hZ (hw _ (List.mem_of_getElem? (i := 14) rfl))) (by decide) (backOf (W := 0) (rm_nextS l Z a0 hw [] b1 (nextS p1).2 T6.heap n0 Z6 G7 pf6_0 g_b1 ) hZ (hw _ (List.mem_of_getElem? (i := 16) rfl)) (hw _ (List.mem_of_getElem? (i := 3) rfl)) (by decide) (by decide)) q8a q8c (g := (mkF m 23 #[.val (.long p1), .second, .val (.long (-7046029254386353131 : Int64)), .second, .val (.ref b1), .val (.long (nextS p1).1), .second, .unset, .unset, .unset, .unset] [(.ref b1)])) rfl (by rw [hml]; rfl) (Steps.refl _) (argsL := []) (rest := []) (lenOf pd_2 rfl) rfl (by show 2 * 0 + _ ≤ _; exact Nat.le_of_eq rfl) (hb hby at_23) (fun _ _ => ⟨rfl, rfl, (Nat.le_trans (Nat.add_le_add_right (Nat.add_le_add_right (Nat.add_le_add_right (Nat.add_le_add_right (Nat.le_refl 0) 1) 0) 0) 0) (by decide)), (Nat.le_trans (Nat.add_le_add_right (Nat.add_le_add_right (Nat.add_le_add_right (Nat.add_le_add_right (Nat.le_refl 0) 1) 0) 0) 0) (by decide))⟩)
  dsimp only [Pt.U, Pt.locs, Pt.cells, Pt.slots] at X8 l8 y8 z8 st8 hQ8
  subst l8 y8 z8
  obtain ⟨rfl, N8q, Kq8, pf8_0⟩ := hQ8
  have G9 : Exa Z T8.heap b1 "com/example/knotwise/knotwise/SplitMix64" := Exa.keep G7 Kq8
  have K8 : Keep h0 T8.heap [] := Keep.trans K6 Kq8 (allS (Or.inr sz_b1) all0)
  have Z8 : n0 ≤ T8.heap.size := Nat.le_trans Z0 K8.1
  have N8 := Fr.app N6 N8q
  obtain ⟨cq10, kq10, q10a, q10b, q10c⟩ := isOf hZ rfl (G9 : Exa Z T8.heap b1 "com/example/knotwise/knotwise/SplitMix64")
  obtain ⟨_, _, ⟨T10, L10, k10, n10⟩, -, X10, ⟨Lc10, hQ10, l10, y10, z10⟩, st10⟩ := X8.virtualBack hx (y := (⟨"com/example/knotwise/knotwise/SplitMix64", "next", "()J"⟩ : MethodName)) (z := (⟨"com/example/knotwise/knotwise/SplitMix64", "next", "()J"⟩ : MethodName)) hown (mvT hZ (hw _ (List.mem_of_getElem? (i := 12) rfl))) (mvT hZ (hw _ (List.mem_of_getElem? (i := 13) rfl))) (notFace_of_selects (args := #[]) (mvT hZ (hw _ (List.mem_of_getElem? (i := 15) rfl)))) (mvT hZ (hw _ (List.mem_of_getElem? (i := 15) rfl))) (mvT hZ (hw _ (List.mem_of_getElem? (i := 14) rfl))) (by decide) (backOf (W := 0) (rm_nextS l Z a0 hw [] b1 (nextS (nextS p1).2).2 T8.heap n0 Z8 G9 pf8_0 g_b1 ) hZ (hw _ (List.mem_of_getElem? (i := 16) rfl)) (hw _ (List.mem_of_getElem? (i := 3) rfl)) (by decide) (by decide)) q10a q10c (g := (mkF m 30 #[.val (.long p1), .second, .val (.long (-7046029254386353131 : Int64)), .second, .val (.ref b1), .val (.long (nextS p1).1), .second, .val (.long (nextS (nextS p1).2).1), .second, .unset, .unset] [(.ref b1)])) rfl (by rw [hml]; rfl) (Steps.refl _) (argsL := []) (rest := []) (lenOf pd_2 rfl) rfl (by show 2 * 0 + _ ≤ _; exact Nat.le_of_eq rfl) (hb hby at_30) (fun _ _ => ⟨rfl, rfl, (Nat.le_trans (Nat.add_le_add_right (Nat.add_le_add_right (Nat.add_le_add_right (Nat.add_le_add_right (Nat.add_le_add_right (Nat.le_refl 0) 1) 0) 0) 0) 0) (by decide)), (Nat.le_trans (Nat.add_le_add_right (Nat.add_le_add_right (Nat.add_le_add_right (Nat.add_le_add_right (Nat.add_le_add_right (Nat.le_refl 0) 1) 0) 0) 0) 0) (by decide))⟩)
  dsimp only [Pt.U, Pt.locs, Pt.cells, Pt.slots] at X10 l10 y10 z10 st10 hQ10
  subst l10 y10 z10
  obtain ⟨rfl, N10q, Kq10, pf10_0⟩ := hQ10
  have G11 : Exa Z T10.heap b1 "com/example/knotwise/knotwise/SplitMix64" := Exa.keep G9 Kq10
  have K10 : Keep h0 T10.heap [] := Keep.trans K8 Kq10 (allS (Or.inr sz_b1) all0)
  have Z10 : n0 ≤ T10.heap.size := Nat.le_trans Z0 K10.1
  have N10 := Fr.app N8 N10q
  obtain ⟨_, _, ⟨T12, L12, k12, n12⟩, -, X12, ⟨Lc12, hQ12, l12, y12, z12⟩, st12⟩ := Jvm.LawKit.callS X10 hx (y := (⟨"com/example/knotwise/knotwise/SplitMix64NextPinLaw", "unmix", "(J)J"⟩ : MethodName)) hown (mvT hZ (hw _ (List.mem_of_getElem? (i := 20) rfl))) (mvT hZ (hw _ (List.mem_of_getElem? (i := 21) rfl))) (mvT hZ (hw _ (List.mem_of_getElem? (i := 22) rfl))) (mvT hZ (hw _ (List.mem_of_getElem? (i := 23) rfl))) (by decide) (backOf (W := 0) (rm_unmix l Z a0 hw [] (nextS p1).1  T10.heap n0 Z10 ) hZ (hw _ (List.mem_of_getElem? (i := 23) rfl)) (hw _ (List.mem_of_getElem? (i := 22) rfl)) (by decide) (by decide)) (g := (mkF m 37 #[.val (.long p1), .second, .val (.long (-7046029254386353131 : Int64)), .second, .val (.ref b1), .val (.long (nextS p1).1), .second, .val (.long (nextS (nextS p1).2).1), .second, .val (.long (nextS (nextS (nextS p1).2).2).1), .second] [(.long (nextS p1).1)])) rfl (by rw [hml]; rfl) (argsL := [(.long (nextS p1).1)]) (rest := []) (lenOf pd_0 rfl) rfl (by show 2 * 0 + _ ≤ _; exact Nat.le_of_eq rfl) (hb hby at_37) (fun _ _ => ⟨rfl, rfl, (Nat.le_trans (Nat.add_le_add_right (Nat.add_le_add_right (Nat.add_le_add_right (Nat.add_le_add_right (Nat.add_le_add_right (Nat.add_le_add_right (Nat.le_refl 0) 1) 0) 0) 0) 0) 0) (by decide)), (Nat.le_trans (Nat.add_le_add_right (Nat.add_le_add_right (Nat.add_le_add_right (Nat.add_le_add_right (Nat.add_le_add_right (Nat.add_le_add_right (Nat.le_refl 0) 1) 0) 0) 0) 0) 0) (by decide))⟩)
  dsimp only [Pt.U, Pt.locs, Pt.cells, Pt.slots] at X12 l12 y12 z12 st12 hQ12
  subst l12 y12 z12
  obtain ⟨rfl, N12q, e12⟩ := hQ12
  have N12 := Fr.app N10 N12q
  refine Go.step (T' := T12) (f' := (mkF m 44 #[.val (.long p1), .second, .val (.long (-7046029254386353131 : Int64)), .second, .val (.ref b1), .val (.long (nextS p1).1), .second, .val (.long (nextS (nextS p1).2).1), .second, .val (.long (nextS (nextS (nextS p1).2).2).1), .second] [(.int (lcmpW (unmix (nextS p1).1) (p1 + (-7046029254386353131 : Int64))))])) (fun t kt => ?_) ?_
  · show Steps p.tables e below (s₁.setTop (mkF m 0 #[.val (.long p1), .second, .unset, .unset, .unset, .unset, .unset, .unset, .unset, .unset, .unset] [])) _
    refine X0.ldc2Long hx hown (mvT hZ (hw _ (List.mem_of_getElem? (i := 0) rfl))) (g := (mkF m 0 #[.val (.long p1), .second, .unset, .unset, .unset, .unset, .unset, .unset, .unset, .unset, .unset] [])) rfl (hb hby at_0) _ ?_
    show Steps p.tables e below (s₁.setTop (mkF m 3 #[.val (.long p1), .second, .unset, .unset, .unset, .unset, .unset, .unset, .unset, .unset, .unset] [(.long (-7046029254386353131 : Int64))])) _
    refine XS.lstoreN X0.here hx rfl (hb hby at_3) rfl (l' := #[.val (.long p1), .second, .val (.long (-7046029254386353131 : Int64)), .second, .unset, .unset, .unset, .unset, .unset, .unset, .unset]) rfl ?_
    show Steps p.tables e below (s₁.setTop (mkF m 4 #[.val (.long p1), .second, .val (.long (-7046029254386353131 : Int64)), .second, .unset, .unset, .unset, .unset, .unset, .unset, .unset] [])) _
    refine st1 _ ?_
    show Steps p.tables e below (T1.setTop (mkF m 7 #[.val (.long p1), .second, .val (.long (-7046029254386353131 : Int64)), .second, .unset, .unset, .unset, .unset, .unset, .unset, .unset] [(.ref b1)])) _
    refine XS.dup X1.here hx rfl (hb hby at_7) rfl rfl ?_
    show Steps p.tables e below (T1.setTop (mkF m 8 #[.val (.long p1), .second, .val (.long (-7046029254386353131 : Int64)), .second, .unset, .unset, .unset, .unset, .unset, .unset, .unset] [(.ref b1), (.ref b1)])) _
    refine XS.lloadN X1.here hx rfl (hb hby at_8) rfl ?_
    show Steps p.tables e below (T1.setTop (mkF m 9 #[.val (.long p1), .second, .val (.long (-7046029254386353131 : Int64)), .second, .unset, .unset, .unset, .unset, .unset, .unset, .unset] [(.long p1), (.ref b1), (.ref b1)])) _
    refine st3.trans ?_
    show Steps p.tables e below (T3.setTop (mkF m 12 #[.val (.long p1), .second, .val (.long (-7046029254386353131 : Int64)), .second, .unset, .unset, .unset, .unset, .unset, .unset, .unset] [(.ref b1)])) _
    refine XS.astore X3.here hx rfl (hb hby at_12) rfl rfl (l' := #[.val (.long p1), .second, .val (.long (-7046029254386353131 : Int64)), .second, .val (.ref b1), .unset, .unset, .unset, .unset, .unset, .unset]) rfl ?_
    show Steps p.tables e below (T3.setTop (mkF m 14 #[.val (.long p1), .second, .val (.long (-7046029254386353131 : Int64)), .second, .val (.ref b1), .unset, .unset, .unset, .unset, .unset, .unset] [])) _
    refine XS.aload X3.here hx rfl (hb hby at_14) rfl rfl ?_
    show Steps p.tables e below (T3.setTop (mkF m 16 #[.val (.long p1), .second, .val (.long (-7046029254386353131 : Int64)), .second, .val (.ref b1), .unset, .unset, .unset, .unset, .unset, .unset] [(.ref b1)])) _
    refine st6.trans ?_
    show Steps p.tables e below (T6.setTop (mkF m 19 #[.val (.long p1), .second, .val (.long (-7046029254386353131 : Int64)), .second, .val (.ref b1), .unset, .unset, .unset, .unset, .unset, .unset] [(.long (nextS p1).1)])) _
    refine XS.lstore X6.here hx rfl (hb hby at_19) rfl (l' := #[.val (.long p1), .second, .val (.long (-7046029254386353131 : Int64)), .second, .val (.ref b1), .val (.long (nextS p1).1), .second, .unset, .unset, .unset, .unset]) rfl ?_
    show Steps p.tables e below (T6.setTop (mkF m 21 #[.val (.long p1), .second, .val (.long (-7046029254386353131 : Int64)), .second, .val (.ref b1), .val (.long (nextS p1).1), .second, .unset, .unset, .unset, .unset] [])) _
    refine XS.aload X6.here hx rfl (hb hby at_21) rfl rfl ?_
    show Steps p.tables e below (T6.setTop (mkF m 23 #[.val (.long p1), .second, .val (.long (-7046029254386353131 : Int64)), .second, .val (.ref b1), .val (.long (nextS p1).1), .second, .unset, .unset, .unset, .unset] [(.ref b1)])) _
    refine st8.trans ?_
    show Steps p.tables e below (T8.setTop (mkF m 26 #[.val (.long p1), .second, .val (.long (-7046029254386353131 : Int64)), .second, .val (.ref b1), .val (.long (nextS p1).1), .second, .unset, .unset, .unset, .unset] [(.long (nextS (nextS p1).2).1)])) _
    refine XS.lstore X8.here hx rfl (hb hby at_26) rfl (l' := #[.val (.long p1), .second, .val (.long (-7046029254386353131 : Int64)), .second, .val (.ref b1), .val (.long (nextS p1).1), .second, .val (.long (nextS (nextS p1).2).1), .second, .unset, .unset]) rfl ?_
    show Steps p.tables e below (T8.setTop (mkF m 28 #[.val (.long p1), .second, .val (.long (-7046029254386353131 : Int64)), .second, .val (.ref b1), .val (.long (nextS p1).1), .second, .val (.long (nextS (nextS p1).2).1), .second, .unset, .unset] [])) _
    refine XS.aload X8.here hx rfl (hb hby at_28) rfl rfl ?_
    show Steps p.tables e below (T8.setTop (mkF m 30 #[.val (.long p1), .second, .val (.long (-7046029254386353131 : Int64)), .second, .val (.ref b1), .val (.long (nextS p1).1), .second, .val (.long (nextS (nextS p1).2).1), .second, .unset, .unset] [(.ref b1)])) _
    refine st10.trans ?_
    show Steps p.tables e below (T10.setTop (mkF m 33 #[.val (.long p1), .second, .val (.long (-7046029254386353131 : Int64)), .second, .val (.ref b1), .val (.long (nextS p1).1), .second, .val (.long (nextS (nextS p1).2).1), .second, .unset, .unset] [(.long (nextS (nextS (nextS p1).2).2).1)])) _
    refine XS.lstore X10.here hx rfl (hb hby at_33) rfl (l' := #[.val (.long p1), .second, .val (.long (-7046029254386353131 : Int64)), .second, .val (.ref b1), .val (.long (nextS p1).1), .second, .val (.long (nextS (nextS p1).2).1), .second, .val (.long (nextS (nextS (nextS p1).2).2).1), .second]) rfl ?_
    show Steps p.tables e below (T10.setTop (mkF m 35 #[.val (.long p1), .second, .val (.long (-7046029254386353131 : Int64)), .second, .val (.ref b1), .val (.long (nextS p1).1), .second, .val (.long (nextS (nextS p1).2).1), .second, .val (.long (nextS (nextS (nextS p1).2).2).1), .second] [])) _
    refine XS.lload X10.here hx rfl (hb hby at_35) rfl ?_
    show Steps p.tables e below (T10.setTop (mkF m 37 #[.val (.long p1), .second, .val (.long (-7046029254386353131 : Int64)), .second, .val (.ref b1), .val (.long (nextS p1).1), .second, .val (.long (nextS (nextS p1).2).1), .second, .val (.long (nextS (nextS (nextS p1).2).2).1), .second] [(.long (nextS p1).1)])) _
    refine st12 _ ?_
    show Steps p.tables e below (T12.setTop (mkF m 40 #[.val (.long p1), .second, .val (.long (-7046029254386353131 : Int64)), .second, .val (.ref b1), .val (.long (nextS p1).1), .second, .val (.long (nextS (nextS p1).2).1), .second, .val (.long (nextS (nextS (nextS p1).2).2).1), .second] [(.long (unmix (nextS p1).1))])) _
    refine XS.lloadN X12.here hx rfl (hb hby at_40) rfl ?_
    show Steps p.tables e below (T12.setTop (mkF m 41 #[.val (.long p1), .second, .val (.long (-7046029254386353131 : Int64)), .second, .val (.ref b1), .val (.long (nextS p1).1), .second, .val (.long (nextS (nextS p1).2).1), .second, .val (.long (nextS (nextS (nextS p1).2).2).1), .second] [(.long p1), (.long (unmix (nextS p1).1))])) _
    refine XS.lloadN X12.here hx rfl (hb hby at_41) rfl ?_
    show Steps p.tables e below (T12.setTop (mkF m 42 #[.val (.long p1), .second, .val (.long (-7046029254386353131 : Int64)), .second, .val (.ref b1), .val (.long (nextS p1).1), .second, .val (.long (nextS (nextS p1).2).1), .second, .val (.long (nextS (nextS (nextS p1).2).2).1), .second] [(.long (-7046029254386353131 : Int64)), (.long p1), (.long (unmix (nextS p1).1))])) _
    refine XS.ladd X12.here hx rfl (hb hby at_42) rfl ?_
    show Steps p.tables e below (T12.setTop (mkF m 43 #[.val (.long p1), .second, .val (.long (-7046029254386353131 : Int64)), .second, .val (.ref b1), .val (.long (nextS p1).1), .second, .val (.long (nextS (nextS p1).2).1), .second, .val (.long (nextS (nextS (nextS p1).2).2).1), .second] [(.long (p1 + (-7046029254386353131 : Int64))), (.long (unmix (nextS p1).1))])) _
    refine XS.lcmp X12.here hx rfl (hb hby at_43) rfl ?_
    exact kt
  by_cases hc13 : (unmix (nextS p1).1) = (p1 + (-7046029254386353131 : Int64))
  · rw [if_pos hc13] at hf
    refine Go.step (T' := T12) (f' := (mkF m 47 #[.val (.long p1), .second, .val (.long (-7046029254386353131 : Int64)), .second, .val (.ref b1), .val (.long (nextS p1).1), .second, .val (.long (nextS (nextS p1).2).1), .second, .val (.long (nextS (nextS (nextS p1).2).2).1), .second] [])) (fun t kt => ?_) ?_
    · show Steps p.tables e below (T12.setTop (mkF m 44 #[.val (.long p1), .second, .val (.long (-7046029254386353131 : Int64)), .second, .val (.ref b1), .val (.long (nextS p1).1), .second, .val (.long (nextS (nextS p1).2).1), .second, .val (.long (nextS (nextS (nextS p1).2).2).1), .second] [(.int (lcmpW (unmix (nextS p1).1) (p1 + (-7046029254386353131 : Int64))))])) _
      refine XS.ifNo X12.here hx rfl (hb hby at_44) rfl ((if0 _ _).trans (teq ((lw_eq _ _).mpr hc13)).2) ?_
      exact kt
    obtain ⟨_, _, ⟨T14, L14, k14, n14⟩, -, X14, ⟨Lc14, hQ14, l14, y14, z14⟩, st14⟩ := Jvm.LawKit.callS X12 hx (y := (⟨"com/example/knotwise/knotwise/SplitMix64NextPinLaw", "unmix", "(J)J"⟩ : MethodName)) hown (mvT hZ (hw _ (List.mem_of_getElem? (i := 20) rfl))) (mvT hZ (hw _ (List.mem_of_getElem? (i := 21) rfl))) (mvT hZ (hw _ (List.mem_of_getElem? (i := 22) rfl))) (mvT hZ (hw _ (List.mem_of_getElem? (i := 23) rfl))) (by decide) (backOf (W := 0) (rm_unmix l Z a0 hw [] (nextS (nextS p1).2).1  T10.heap n0 Z10 ) hZ (hw _ (List.mem_of_getElem? (i := 23) rfl)) (hw _ (List.mem_of_getElem? (i := 22) rfl)) (by decide) (by decide)) (g := (mkF m 49 #[.val (.long p1), .second, .val (.long (-7046029254386353131 : Int64)), .second, .val (.ref b1), .val (.long (nextS p1).1), .second, .val (.long (nextS (nextS p1).2).1), .second, .val (.long (nextS (nextS (nextS p1).2).2).1), .second] [(.long (nextS (nextS p1).2).1)])) rfl (by rw [hml]; rfl) (argsL := [(.long (nextS (nextS p1).2).1)]) (rest := []) (lenOf pd_0 rfl) rfl (by show 2 * 0 + _ ≤ _; exact Nat.le_of_eq rfl) (hb hby at_49) (fun _ _ => ⟨rfl, e12, (Nat.le_trans (Nat.add_le_add_right (Nat.add_le_add_right (Nat.add_le_add_right (Nat.add_le_add_right (Nat.add_le_add_right (Nat.add_le_add_right (Nat.add_le_add_right (Nat.le_refl 0) 1) 0) 0) 0) 0) 0) 0) (by decide)), (Nat.le_trans (Nat.add_le_add_right (Nat.add_le_add_right (Nat.add_le_add_right (Nat.add_le_add_right (Nat.add_le_add_right (Nat.add_le_add_right (Nat.add_le_add_right (Nat.le_refl 0) 1) 0) 0) 0) 0) 0) 0) (by decide))⟩)
    dsimp only [Pt.U, Pt.locs, Pt.cells, Pt.slots] at X14 l14 y14 z14 st14 hQ14
    subst l14 y14 z14
    obtain ⟨rfl, N14q, e14⟩ := hQ14
    have N14 := Fr.app N12 N14q
    refine Go.step (T' := T14) (f' := (mkF m 60 #[.val (.long p1), .second, .val (.long (-7046029254386353131 : Int64)), .second, .val (.ref b1), .val (.long (nextS p1).1), .second, .val (.long (nextS (nextS p1).2).1), .second, .val (.long (nextS (nextS (nextS p1).2).2).1), .second] [(.int (lcmpW (unmix (nextS (nextS p1).2).1) (p1 + (4354685564936845354 : Int64))))])) (fun t kt => ?_) ?_
    · show Steps p.tables e below (T12.setTop (mkF m 47 #[.val (.long p1), .second, .val (.long (-7046029254386353131 : Int64)), .second, .val (.ref b1), .val (.long (nextS p1).1), .second, .val (.long (nextS (nextS p1).2).1), .second, .val (.long (nextS (nextS (nextS p1).2).2).1), .second] [])) _
      refine XS.lload X12.here hx rfl (hb hby at_47) rfl ?_
      show Steps p.tables e below (T12.setTop (mkF m 49 #[.val (.long p1), .second, .val (.long (-7046029254386353131 : Int64)), .second, .val (.ref b1), .val (.long (nextS p1).1), .second, .val (.long (nextS (nextS p1).2).1), .second, .val (.long (nextS (nextS (nextS p1).2).2).1), .second] [(.long (nextS (nextS p1).2).1)])) _
      refine st14 _ ?_
      show Steps p.tables e below (T14.setTop (mkF m 52 #[.val (.long p1), .second, .val (.long (-7046029254386353131 : Int64)), .second, .val (.ref b1), .val (.long (nextS p1).1), .second, .val (.long (nextS (nextS p1).2).1), .second, .val (.long (nextS (nextS (nextS p1).2).2).1), .second] [(.long (unmix (nextS (nextS p1).2).1))])) _
      refine XS.lloadN X14.here hx rfl (hb hby at_52) rfl ?_
      show Steps p.tables e below (T14.setTop (mkF m 53 #[.val (.long p1), .second, .val (.long (-7046029254386353131 : Int64)), .second, .val (.ref b1), .val (.long (nextS p1).1), .second, .val (.long (nextS (nextS p1).2).1), .second, .val (.long (nextS (nextS (nextS p1).2).2).1), .second] [(.long p1), (.long (unmix (nextS (nextS p1).2).1))])) _
      refine X14.ldc2Long hx hown (mvT hZ (hw _ (List.mem_of_getElem? (i := 28) rfl))) (g := (mkF m 53 #[.val (.long p1), .second, .val (.long (-7046029254386353131 : Int64)), .second, .val (.ref b1), .val (.long (nextS p1).1), .second, .val (.long (nextS (nextS p1).2).1), .second, .val (.long (nextS (nextS (nextS p1).2).2).1), .second] [(.long p1), (.long (unmix (nextS (nextS p1).2).1))])) rfl (hb hby at_53) _ ?_
      show Steps p.tables e below (T14.setTop (mkF m 56 #[.val (.long p1), .second, .val (.long (-7046029254386353131 : Int64)), .second, .val (.ref b1), .val (.long (nextS p1).1), .second, .val (.long (nextS (nextS p1).2).1), .second, .val (.long (nextS (nextS (nextS p1).2).2).1), .second] [(.long (2 : Int64)), (.long p1), (.long (unmix (nextS (nextS p1).2).1))])) _
      refine XS.lloadN X14.here hx rfl (hb hby at_56) rfl ?_
      show Steps p.tables e below (T14.setTop (mkF m 57 #[.val (.long p1), .second, .val (.long (-7046029254386353131 : Int64)), .second, .val (.ref b1), .val (.long (nextS p1).1), .second, .val (.long (nextS (nextS p1).2).1), .second, .val (.long (nextS (nextS (nextS p1).2).2).1), .second] [(.long (-7046029254386353131 : Int64)), (.long (2 : Int64)), (.long p1), (.long (unmix (nextS (nextS p1).2).1))])) _
      refine XS.lmul X14.here hx rfl (hb hby at_57) rfl ?_
      show Steps p.tables e below (T14.setTop (mkF m 58 #[.val (.long p1), .second, .val (.long (-7046029254386353131 : Int64)), .second, .val (.ref b1), .val (.long (nextS p1).1), .second, .val (.long (nextS (nextS p1).2).1), .second, .val (.long (nextS (nextS (nextS p1).2).2).1), .second] [(.long (4354685564936845354 : Int64)), (.long p1), (.long (unmix (nextS (nextS p1).2).1))])) _
      refine XS.ladd X14.here hx rfl (hb hby at_58) rfl ?_
      show Steps p.tables e below (T14.setTop (mkF m 59 #[.val (.long p1), .second, .val (.long (-7046029254386353131 : Int64)), .second, .val (.ref b1), .val (.long (nextS p1).1), .second, .val (.long (nextS (nextS p1).2).1), .second, .val (.long (nextS (nextS (nextS p1).2).2).1), .second] [(.long (p1 + (4354685564936845354 : Int64))), (.long (unmix (nextS (nextS p1).2).1))])) _
      refine XS.lcmp X14.here hx rfl (hb hby at_59) rfl ?_
      exact kt
    by_cases hc15 : (unmix (nextS (nextS p1).2).1) = (p1 + (4354685564936845354 : Int64))
    · rw [if_pos hc15] at hf
      refine Go.step (T' := T14) (f' := (mkF m 63 #[.val (.long p1), .second, .val (.long (-7046029254386353131 : Int64)), .second, .val (.ref b1), .val (.long (nextS p1).1), .second, .val (.long (nextS (nextS p1).2).1), .second, .val (.long (nextS (nextS (nextS p1).2).2).1), .second] [])) (fun t kt => ?_) ?_
      · show Steps p.tables e below (T14.setTop (mkF m 60 #[.val (.long p1), .second, .val (.long (-7046029254386353131 : Int64)), .second, .val (.ref b1), .val (.long (nextS p1).1), .second, .val (.long (nextS (nextS p1).2).1), .second, .val (.long (nextS (nextS (nextS p1).2).2).1), .second] [(.int (lcmpW (unmix (nextS (nextS p1).2).1) (p1 + (4354685564936845354 : Int64))))])) _
        refine XS.ifNo X14.here hx rfl (hb hby at_60) rfl ((if0 _ _).trans (teq ((lw_eq _ _).mpr hc15)).2) ?_
        exact kt
      obtain ⟨_, _, ⟨T16, L16, k16, n16⟩, -, X16, ⟨Lc16, hQ16, l16, y16, z16⟩, st16⟩ := Jvm.LawKit.callS X14 hx (y := (⟨"com/example/knotwise/knotwise/SplitMix64NextPinLaw", "unmix", "(J)J"⟩ : MethodName)) hown (mvT hZ (hw _ (List.mem_of_getElem? (i := 20) rfl))) (mvT hZ (hw _ (List.mem_of_getElem? (i := 21) rfl))) (mvT hZ (hw _ (List.mem_of_getElem? (i := 22) rfl))) (mvT hZ (hw _ (List.mem_of_getElem? (i := 23) rfl))) (by decide) (backOf (W := 0) (rm_unmix l Z a0 hw [] (nextS (nextS (nextS p1).2).2).1  T10.heap n0 Z10 ) hZ (hw _ (List.mem_of_getElem? (i := 23) rfl)) (hw _ (List.mem_of_getElem? (i := 22) rfl)) (by decide) (by decide)) (g := (mkF m 65 #[.val (.long p1), .second, .val (.long (-7046029254386353131 : Int64)), .second, .val (.ref b1), .val (.long (nextS p1).1), .second, .val (.long (nextS (nextS p1).2).1), .second, .val (.long (nextS (nextS (nextS p1).2).2).1), .second] [(.long (nextS (nextS (nextS p1).2).2).1)])) rfl (by rw [hml]; rfl) (argsL := [(.long (nextS (nextS (nextS p1).2).2).1)]) (rest := []) (lenOf pd_0 rfl) rfl (by show 2 * 0 + _ ≤ _; exact Nat.le_of_eq rfl) (hb hby at_65) (fun _ _ => ⟨rfl, e14, (Nat.le_trans (Nat.add_le_add_right (Nat.add_le_add_right (Nat.add_le_add_right (Nat.add_le_add_right (Nat.add_le_add_right (Nat.add_le_add_right (Nat.add_le_add_right (Nat.add_le_add_right (Nat.le_refl 0) 1) 0) 0) 0) 0) 0) 0) 0) (by decide)), (Nat.le_trans (Nat.add_le_add_right (Nat.add_le_add_right (Nat.add_le_add_right (Nat.add_le_add_right (Nat.add_le_add_right (Nat.add_le_add_right (Nat.add_le_add_right (Nat.add_le_add_right (Nat.le_refl 0) 1) 0) 0) 0) 0) 0) 0) 0) (by decide))⟩)
      dsimp only [Pt.U, Pt.locs, Pt.cells, Pt.slots] at X16 l16 y16 z16 st16 hQ16
      subst l16 y16 z16
      obtain ⟨rfl, N16q, e16⟩ := hQ16
      have N16 := Fr.app N14 N16q
      refine Go.step (T' := T16) (f' := (mkF m 76 #[.val (.long p1), .second, .val (.long (-7046029254386353131 : Int64)), .second, .val (.ref b1), .val (.long (nextS p1).1), .second, .val (.long (nextS (nextS p1).2).1), .second, .val (.long (nextS (nextS (nextS p1).2).2).1), .second] [(.int (lcmpW (unmix (nextS (nextS (nextS p1).2).2).1) (p1 + (-2691343689449507777 : Int64))))])) (fun t kt => ?_) ?_
      · show Steps p.tables e below (T14.setTop (mkF m 63 #[.val (.long p1), .second, .val (.long (-7046029254386353131 : Int64)), .second, .val (.ref b1), .val (.long (nextS p1).1), .second, .val (.long (nextS (nextS p1).2).1), .second, .val (.long (nextS (nextS (nextS p1).2).2).1), .second] [])) _
        refine XS.lload X14.here hx rfl (hb hby at_63) rfl ?_
        show Steps p.tables e below (T14.setTop (mkF m 65 #[.val (.long p1), .second, .val (.long (-7046029254386353131 : Int64)), .second, .val (.ref b1), .val (.long (nextS p1).1), .second, .val (.long (nextS (nextS p1).2).1), .second, .val (.long (nextS (nextS (nextS p1).2).2).1), .second] [(.long (nextS (nextS (nextS p1).2).2).1)])) _
        refine st16 _ ?_
        show Steps p.tables e below (T16.setTop (mkF m 68 #[.val (.long p1), .second, .val (.long (-7046029254386353131 : Int64)), .second, .val (.ref b1), .val (.long (nextS p1).1), .second, .val (.long (nextS (nextS p1).2).1), .second, .val (.long (nextS (nextS (nextS p1).2).2).1), .second] [(.long (unmix (nextS (nextS (nextS p1).2).2).1))])) _
        refine XS.lloadN X16.here hx rfl (hb hby at_68) rfl ?_
        show Steps p.tables e below (T16.setTop (mkF m 69 #[.val (.long p1), .second, .val (.long (-7046029254386353131 : Int64)), .second, .val (.ref b1), .val (.long (nextS p1).1), .second, .val (.long (nextS (nextS p1).2).1), .second, .val (.long (nextS (nextS (nextS p1).2).2).1), .second] [(.long p1), (.long (unmix (nextS (nextS (nextS p1).2).2).1))])) _
        refine X16.ldc2Long hx hown (mvT hZ (hw _ (List.mem_of_getElem? (i := 30) rfl))) (g := (mkF m 69 #[.val (.long p1), .second, .val (.long (-7046029254386353131 : Int64)), .second, .val (.ref b1), .val (.long (nextS p1).1), .second, .val (.long (nextS (nextS p1).2).1), .second, .val (.long (nextS (nextS (nextS p1).2).2).1), .second] [(.long p1), (.long (unmix (nextS (nextS (nextS p1).2).2).1))])) rfl (hb hby at_69) _ ?_
        show Steps p.tables e below (T16.setTop (mkF m 72 #[.val (.long p1), .second, .val (.long (-7046029254386353131 : Int64)), .second, .val (.ref b1), .val (.long (nextS p1).1), .second, .val (.long (nextS (nextS p1).2).1), .second, .val (.long (nextS (nextS (nextS p1).2).2).1), .second] [(.long (3 : Int64)), (.long p1), (.long (unmix (nextS (nextS (nextS p1).2).2).1))])) _
        refine XS.lloadN X16.here hx rfl (hb hby at_72) rfl ?_
        show Steps p.tables e below (T16.setTop (mkF m 73 #[.val (.long p1), .second, .val (.long (-7046029254386353131 : Int64)), .second, .val (.ref b1), .val (.long (nextS p1).1), .second, .val (.long (nextS (nextS p1).2).1), .second, .val (.long (nextS (nextS (nextS p1).2).2).1), .second] [(.long (-7046029254386353131 : Int64)), (.long (3 : Int64)), (.long p1), (.long (unmix (nextS (nextS (nextS p1).2).2).1))])) _
        refine XS.lmul X16.here hx rfl (hb hby at_73) rfl ?_
        show Steps p.tables e below (T16.setTop (mkF m 74 #[.val (.long p1), .second, .val (.long (-7046029254386353131 : Int64)), .second, .val (.ref b1), .val (.long (nextS p1).1), .second, .val (.long (nextS (nextS p1).2).1), .second, .val (.long (nextS (nextS (nextS p1).2).2).1), .second] [(.long (-2691343689449507777 : Int64)), (.long p1), (.long (unmix (nextS (nextS (nextS p1).2).2).1))])) _
        refine XS.ladd X16.here hx rfl (hb hby at_74) rfl ?_
        show Steps p.tables e below (T16.setTop (mkF m 75 #[.val (.long p1), .second, .val (.long (-7046029254386353131 : Int64)), .second, .val (.ref b1), .val (.long (nextS p1).1), .second, .val (.long (nextS (nextS p1).2).1), .second, .val (.long (nextS (nextS (nextS p1).2).2).1), .second] [(.long (p1 + (-2691343689449507777 : Int64))), (.long (unmix (nextS (nextS (nextS p1).2).2).1))])) _
        refine XS.lcmp X16.here hx rfl (hb hby at_75) rfl ?_
        exact kt
      by_cases hc17 : (unmix (nextS (nextS (nextS p1).2).2).1) = (p1 + (-2691343689449507777 : Int64))
      · rw [if_pos hc17] at hf
        refine Go.step (T' := T16) (f' := (mkF m 79 #[.val (.long p1), .second, .val (.long (-7046029254386353131 : Int64)), .second, .val (.ref b1), .val (.long (nextS p1).1), .second, .val (.long (nextS (nextS p1).2).1), .second, .val (.long (nextS (nextS (nextS p1).2).2).1), .second] [])) (fun t kt => ?_) ?_
        · show Steps p.tables e below (T16.setTop (mkF m 76 #[.val (.long p1), .second, .val (.long (-7046029254386353131 : Int64)), .second, .val (.ref b1), .val (.long (nextS p1).1), .second, .val (.long (nextS (nextS p1).2).1), .second, .val (.long (nextS (nextS (nextS p1).2).2).1), .second] [(.int (lcmpW (unmix (nextS (nextS (nextS p1).2).2).1) (p1 + (-2691343689449507777 : Int64))))])) _
          refine XS.ifNo X16.here hx rfl (hb hby at_76) rfl ((if0 _ _).trans (teq ((lw_eq _ _).mpr hc17)).2) ?_
          exact kt
        refine Go.step (T' := T16) (f' := (mkF m 84 #[.val (.long p1), .second, .val (.long (-7046029254386353131 : Int64)), .second, .val (.ref b1), .val (.long (nextS p1).1), .second, .val (.long (nextS (nextS p1).2).1), .second, .val (.long (nextS (nextS (nextS p1).2).2).1), .second] [(.int (1 : Int32))])) (fun t kt => ?_) ?_
        · show Steps p.tables e below (T16.setTop (mkF m 79 #[.val (.long p1), .second, .val (.long (-7046029254386353131 : Int64)), .second, .val (.ref b1), .val (.long (nextS p1).1), .second, .val (.long (nextS (nextS p1).2).1), .second, .val (.long (nextS (nextS (nextS p1).2).2).1), .second] [])) _
          refine XS.iconst X16.here hx rfl (hb hby at_79) ?_
          show Steps p.tables e below (T16.setTop (mkF m 80 #[.val (.long p1), .second, .val (.long (-7046029254386353131 : Int64)), .second, .val (.ref b1), .val (.long (nextS p1).1), .second, .val (.long (nextS (nextS p1).2).1), .second, .val (.long (nextS (nextS (nextS p1).2).2).1), .second] [(.int (1 : Int32))])) _
          refine XS.goto X16.here hx rfl (pc0 := 80) (pc' := 84) rfl (hb hby at_80) (by decide) (by decide) ?_
          exact kt
        refine Go.fin X16 (v := some (.int (1 : Int32))) (fun h => by rw [Bd.returns] at h; cases h) Bd.notSynchronized ?_ (Nat.le_trans (Nat.add_le_add_right (Nat.add_le_add_right (Nat.add_le_add_right (Nat.add_le_add_right (Nat.add_le_add_right (Nat.add_le_add_right (Nat.add_le_add_right (Nat.add_le_add_right (Nat.le_refl 0) 1) 0) 0) 0) 0) 0) 0) 0) (by decide)) (Nat.le_trans (Nat.add_le_add_right (Nat.add_le_add_right (Nat.add_le_add_right (Nat.add_le_add_right (Nat.add_le_add_right (Nat.add_le_add_right (Nat.add_le_add_right (Nat.add_le_add_right (Nat.le_refl 0) 1) 0) 0) 0) 0) 0) 0) 0) (by decide)) (fun fs hr => retN X16 hx (t := .boolean) Bd.returns (by simp) (hb hby at_84) hr)
        · exact ⟨by rw [hf], N16⟩
      · rw [if_neg hc17] at hf
        refine Go.step (T' := T16) (f' := (mkF m 83 #[.val (.long p1), .second, .val (.long (-7046029254386353131 : Int64)), .second, .val (.ref b1), .val (.long (nextS p1).1), .second, .val (.long (nextS (nextS p1).2).1), .second, .val (.long (nextS (nextS (nextS p1).2).2).1), .second] [])) (fun t kt => ?_) ?_
        · show Steps p.tables e below (T16.setTop (mkF m 76 #[.val (.long p1), .second, .val (.long (-7046029254386353131 : Int64)), .second, .val (.ref b1), .val (.long (nextS p1).1), .second, .val (.long (nextS (nextS p1).2).1), .second, .val (.long (nextS (nextS (nextS p1).2).2).1), .second] [(.int (lcmpW (unmix (nextS (nextS (nextS p1).2).2).1) (p1 + (-2691343689449507777 : Int64))))])) _
          refine XS.ifYes X16.here hx rfl (pc0 := 76) (pc' := 83) rfl (hb hby at_76) rfl ((if0 _ _).trans (feq (fun q => hc17 ((lw_eq _ _).mp q))).2) (by decide) (by decide) ?_
          exact kt
        refine Go.step (T' := T16) (f' := (mkF m 84 #[.val (.long p1), .second, .val (.long (-7046029254386353131 : Int64)), .second, .val (.ref b1), .val (.long (nextS p1).1), .second, .val (.long (nextS (nextS p1).2).1), .second, .val (.long (nextS (nextS (nextS p1).2).2).1), .second] [(.int (0 : Int32))])) (fun t kt => ?_) ?_
        · show Steps p.tables e below (T16.setTop (mkF m 83 #[.val (.long p1), .second, .val (.long (-7046029254386353131 : Int64)), .second, .val (.ref b1), .val (.long (nextS p1).1), .second, .val (.long (nextS (nextS p1).2).1), .second, .val (.long (nextS (nextS (nextS p1).2).2).1), .second] [])) _
          refine XS.iconst X16.here hx rfl (hb hby at_83) ?_
          exact kt
        refine Go.fin X16 (v := some (.int (0 : Int32))) (fun h => by rw [Bd.returns] at h; cases h) Bd.notSynchronized ?_ (Nat.le_trans (Nat.add_le_add_right (Nat.add_le_add_right (Nat.add_le_add_right (Nat.add_le_add_right (Nat.add_le_add_right (Nat.add_le_add_right (Nat.add_le_add_right (Nat.add_le_add_right (Nat.le_refl 0) 1) 0) 0) 0) 0) 0) 0) 0) (by decide)) (Nat.le_trans (Nat.add_le_add_right (Nat.add_le_add_right (Nat.add_le_add_right (Nat.add_le_add_right (Nat.add_le_add_right (Nat.add_le_add_right (Nat.add_le_add_right (Nat.add_le_add_right (Nat.le_refl 0) 1) 0) 0) 0) 0) 0) 0) 0) (by decide)) (fun fs hr => retN X16 hx (t := .boolean) Bd.returns (by simp) (hb hby at_84) hr)
        · exact ⟨by rw [hf], N16⟩
    · rw [if_neg hc15] at hf
      refine Go.step (T' := T14) (f' := (mkF m 83 #[.val (.long p1), .second, .val (.long (-7046029254386353131 : Int64)), .second, .val (.ref b1), .val (.long (nextS p1).1), .second, .val (.long (nextS (nextS p1).2).1), .second, .val (.long (nextS (nextS (nextS p1).2).2).1), .second] [])) (fun t kt => ?_) ?_
      · show Steps p.tables e below (T14.setTop (mkF m 60 #[.val (.long p1), .second, .val (.long (-7046029254386353131 : Int64)), .second, .val (.ref b1), .val (.long (nextS p1).1), .second, .val (.long (nextS (nextS p1).2).1), .second, .val (.long (nextS (nextS (nextS p1).2).2).1), .second] [(.int (lcmpW (unmix (nextS (nextS p1).2).1) (p1 + (4354685564936845354 : Int64))))])) _
        refine XS.ifYes X14.here hx rfl (pc0 := 60) (pc' := 83) rfl (hb hby at_60) rfl ((if0 _ _).trans (feq (fun q => hc15 ((lw_eq _ _).mp q))).2) (by decide) (by decide) ?_
        exact kt
      refine Go.step (T' := T14) (f' := (mkF m 84 #[.val (.long p1), .second, .val (.long (-7046029254386353131 : Int64)), .second, .val (.ref b1), .val (.long (nextS p1).1), .second, .val (.long (nextS (nextS p1).2).1), .second, .val (.long (nextS (nextS (nextS p1).2).2).1), .second] [(.int (0 : Int32))])) (fun t kt => ?_) ?_
      · show Steps p.tables e below (T14.setTop (mkF m 83 #[.val (.long p1), .second, .val (.long (-7046029254386353131 : Int64)), .second, .val (.ref b1), .val (.long (nextS p1).1), .second, .val (.long (nextS (nextS p1).2).1), .second, .val (.long (nextS (nextS (nextS p1).2).2).1), .second] [])) _
        refine XS.iconst X14.here hx rfl (hb hby at_83) ?_
        exact kt
      refine Go.fin X14 (v := some (.int (0 : Int32))) (fun h => by rw [Bd.returns] at h; cases h) Bd.notSynchronized ?_ (Nat.le_trans (Nat.add_le_add_right (Nat.add_le_add_right (Nat.add_le_add_right (Nat.add_le_add_right (Nat.add_le_add_right (Nat.add_le_add_right (Nat.add_le_add_right (Nat.le_refl 0) 1) 0) 0) 0) 0) 0) 0) (by decide)) (Nat.le_trans (Nat.add_le_add_right (Nat.add_le_add_right (Nat.add_le_add_right (Nat.add_le_add_right (Nat.add_le_add_right (Nat.add_le_add_right (Nat.add_le_add_right (Nat.le_refl 0) 1) 0) 0) 0) 0) 0) 0) (by decide)) (fun fs hr => retN X14 hx (t := .boolean) Bd.returns (by simp) (hb hby at_84) hr)
      · exact ⟨by rw [hf], N14⟩
  · rw [if_neg hc13] at hf
    refine Go.step (T' := T12) (f' := (mkF m 83 #[.val (.long p1), .second, .val (.long (-7046029254386353131 : Int64)), .second, .val (.ref b1), .val (.long (nextS p1).1), .second, .val (.long (nextS (nextS p1).2).1), .second, .val (.long (nextS (nextS (nextS p1).2).2).1), .second] [])) (fun t kt => ?_) ?_
    · show Steps p.tables e below (T12.setTop (mkF m 44 #[.val (.long p1), .second, .val (.long (-7046029254386353131 : Int64)), .second, .val (.ref b1), .val (.long (nextS p1).1), .second, .val (.long (nextS (nextS p1).2).1), .second, .val (.long (nextS (nextS (nextS p1).2).2).1), .second] [(.int (lcmpW (unmix (nextS p1).1) (p1 + (-7046029254386353131 : Int64))))])) _
      refine XS.ifYes X12.here hx rfl (pc0 := 44) (pc' := 83) rfl (hb hby at_44) rfl ((if0 _ _).trans (feq (fun q => hc13 ((lw_eq _ _).mp q))).2) (by decide) (by decide) ?_
      exact kt
    refine Go.step (T' := T12) (f' := (mkF m 84 #[.val (.long p1), .second, .val (.long (-7046029254386353131 : Int64)), .second, .val (.ref b1), .val (.long (nextS p1).1), .second, .val (.long (nextS (nextS p1).2).1), .second, .val (.long (nextS (nextS (nextS p1).2).2).1), .second] [(.int (0 : Int32))])) (fun t kt => ?_) ?_
    · show Steps p.tables e below (T12.setTop (mkF m 83 #[.val (.long p1), .second, .val (.long (-7046029254386353131 : Int64)), .second, .val (.ref b1), .val (.long (nextS p1).1), .second, .val (.long (nextS (nextS p1).2).1), .second, .val (.long (nextS (nextS (nextS p1).2).2).1), .second] [])) _
      refine XS.iconst X12.here hx rfl (hb hby at_83) ?_
      exact kt
    refine Go.fin X12 (v := some (.int (0 : Int32))) (fun h => by rw [Bd.returns] at h; cases h) Bd.notSynchronized ?_ (Nat.le_trans (Nat.add_le_add_right (Nat.add_le_add_right (Nat.add_le_add_right (Nat.add_le_add_right (Nat.add_le_add_right (Nat.add_le_add_right (Nat.le_refl 0) 1) 0) 0) 0) 0) 0) (by decide)) (Nat.le_trans (Nat.add_le_add_right (Nat.add_le_add_right (Nat.add_le_add_right (Nat.add_le_add_right (Nat.add_le_add_right (Nat.add_le_add_right (Nat.le_refl 0) 1) 0) 0) 0) 0) 0) (by decide)) (fun fs hr => retN X12 hx (t := .boolean) Bd.returns (by simp) (hb hby at_84) hr)
    · exact ⟨by rw [hf], N12⟩
theorem own_bv (n : Nat) (hn : 0 < n) (h3 : 64 ≤ n + n + n) (z : BitVec 64) : (z ^^^ (z >>> n)) ^^^ ((z ^^^ (z >>> n)) >>> n) ^^^ ((z ^^^ (z >>> n)) >>> (n + n)) = z := by
  apply BitVec.eq_of_getLsbD_eq
  intro i hi
  have e : z.getLsbD (n + n + i + n) = false := BitVec.getLsbD_of_ge _ _ (by omega)
  have e1 : n + n + i + n = n + (n + n + i) := by omega
  simp only [BitVec.getLsbD_xor, BitVec.getLsbD_ushiftRight]
  have a1 : n + (n + i) = n + n + i := by omega
  rw [a1, ← e1, e]
  cases z.getLsbD i <;> cases z.getLsbD (n + i) <;> cases z.getLsbD (n + n + i) <;> rfl
theorem own_s30 (x : Int64) : ((x.toUInt64 >>> ((30 : Int32) &&& 0x3f).toInt64.toUInt64).toInt64).toBitVec = x.toBitVec >>> 30 := rfl
theorem own_s60 (x : Int64) : ((x.toUInt64 >>> ((60 : Int32) &&& 0x3f).toInt64.toUInt64).toInt64).toBitVec = x.toBitVec >>> (30 + 30) := rfl
theorem own_s27 (x : Int64) : ((x.toUInt64 >>> ((27 : Int32) &&& 0x3f).toInt64.toUInt64).toInt64).toBitVec = x.toBitVec >>> 27 := rfl
theorem own_s54 (x : Int64) : ((x.toUInt64 >>> ((54 : Int32) &&& 0x3f).toInt64.toUInt64).toInt64).toBitVec = x.toBitVec >>> (27 + 27) := rfl
theorem own_s31 (x : Int64) : ((x.toUInt64 >>> ((31 : Int32) &&& 0x3f).toInt64.toUInt64).toInt64).toBitVec = x.toBitVec >>> 31 := rfl
theorem own_s62 (x : Int64) : ((x.toUInt64 >>> ((62 : Int32) &&& 0x3f).toInt64.toUInt64).toInt64).toBitVec = x.toBitVec >>> (31 + 31) := rfl
def own_x30 (x : Int64) : Int64 := x ^^^ ((x.toUInt64 >>> ((30 : Int32) &&& 0x3f).toInt64.toUInt64).toInt64)
def own_x27 (x : Int64) : Int64 := x ^^^ ((x.toUInt64 >>> ((27 : Int32) &&& 0x3f).toInt64.toUInt64).toInt64)
def own_x31 (x : Int64) : Int64 := x ^^^ ((x.toUInt64 >>> ((31 : Int32) &&& 0x3f).toInt64.toUInt64).toInt64)
theorem own_i30 (z : Int64) : ((own_x30 z) ^^^ (((own_x30 z).toUInt64 >>> ((30 : Int32) &&& 0x3f).toInt64.toUInt64).toInt64)) ^^^ (((own_x30 z).toUInt64 >>> ((60 : Int32) &&& 0x3f).toInt64.toUInt64).toInt64) = z := by
  apply Int64.toBitVec_inj.mp
  rw [Int64.toBitVec_xor, Int64.toBitVec_xor, own_s30, own_s60, own_x30, Int64.toBitVec_xor, own_s30]
  exact own_bv 30 (by decide) (by decide) _
theorem own_i27 (z : Int64) : ((own_x27 z) ^^^ (((own_x27 z).toUInt64 >>> ((27 : Int32) &&& 0x3f).toInt64.toUInt64).toInt64)) ^^^ (((own_x27 z).toUInt64 >>> ((54 : Int32) &&& 0x3f).toInt64.toUInt64).toInt64) = z := by
  apply Int64.toBitVec_inj.mp
  rw [Int64.toBitVec_xor, Int64.toBitVec_xor, own_s27, own_s54, own_x27, Int64.toBitVec_xor, own_s27]
  exact own_bv 27 (by decide) (by decide) _
theorem own_i31 (z : Int64) : ((own_x31 z) ^^^ (((own_x31 z).toUInt64 >>> ((31 : Int32) &&& 0x3f).toInt64.toUInt64).toInt64)) ^^^ (((own_x31 z).toUInt64 >>> ((62 : Int32) &&& 0x3f).toInt64.toUInt64).toInt64) = z := by
  apply Int64.toBitVec_inj.mp
  rw [Int64.toBitVec_xor, Int64.toBitVec_xor, own_s31, own_s62, own_x31, Int64.toBitVec_xor, own_s31]
  exact own_bv 31 (by decide) (by decide) _
theorem own_c1 (y : Int64) : (y * (-4658895280553007687 : Int64)) * (invJ (-4658895280553007687 : Int64)) = y := by
  have : (-4658895280553007687 : Int64) * (invJ (-4658895280553007687 : Int64)) = 1 := by decide +kernel
  rw [Int64.mul_assoc, this, Int64.mul_one]
theorem own_c2 (y : Int64) : (y * (-7723592293110705685 : Int64)) * (invJ (-7723592293110705685 : Int64)) = y := by
  have : (-7723592293110705685 : Int64) * (invJ (-7723592293110705685 : Int64)) = 1 := by decide +kernel
  rw [Int64.mul_assoc, this, Int64.mul_one]
theorem own_nx (u : Int64) : (nextS u).1 = own_x31 ((own_x27 ((own_x30 (u + (-7046029254386353131 : Int64))) * (-4658895280553007687 : Int64))) * (-7723592293110705685 : Int64)) := rfl
theorem own_un (u : Int64) : unmix (nextS u).1 = u + (-7046029254386353131 : Int64) := by
  rw [own_nx]
  unfold unmix unmix_12 unmix_21 unmix_33 unmix_42
  rw [own_i31, own_c2, own_i27, own_c1, own_i30]
theorem own_n2 (u : Int64) : (nextS u).2 = u + (-7046029254386353131 : Int64) := rfl
theorem own_law (p : Int64) : lawF p = 1 := by
  unfold lawF
  have e2 : (4354685564936845354 : Int64) = (-7046029254386353131 : Int64) + (-7046029254386353131 : Int64) := by decide +kernel
  have e3 : (-2691343689449507777 : Int64) = (-7046029254386353131 : Int64) + ((-7046029254386353131 : Int64) + (-7046029254386353131 : Int64)) := by decide +kernel
  rw [own_un, own_un, own_un, own_n2, own_n2, e2, e3, if_pos rfl, if_pos (Int64.add_assoc ..), if_pos (by rw [Int64.add_assoc, Int64.add_assoc])]
set_option maxRecDepth 65536 in
set_option maxHeartbeats 40000000 in
theorem comes_1 {Post : Tables → Env → Array Value → State → Outcome → State → Prop} (hpost : ∀ tb e args s v u, (limb_1_1.after args s (.returned v) u = true ∧ limb_1_2.after args s (.returned v) u = true ∧ True) → FrameEnd s (.returned v) u (Jvm.fieldLocs frame_1_writes args s ++ Jvm.arrayLocs frame_1_arrays args s ++ Jvm.staticLocs frame_1_statics s) 16 128 → Post tb e args s (.returned v) u) :
    ArmFor flags0 classFile x code maxLocals ret World_1 tables_1 room_1 Calls_1 rest_1 Pre_1 Post := by
  intro l hfl _ _ p e ha hc hk s m args below hf hA hF happ hP
  obtain ⟨hcalls, hrest, hpre⟩ := hP
  obtain ⟨-, -, -, hnamed, -, -, -, hat⟩ := (Spec.applies_iff hf).mp happ
  obtain ⟨hg, hn⟩ := and_e (Cond.before_iff.mp (show (Jvm.Cond.and given_1 narrow_1).before args s = true from hpre))
  obtain ⟨g1, g2⟩ := and_e hg
  obtain ⟨w0, rfl⟩ : ∃ w0 : Value, args = #[w0] := by
    have hs : args.size = 1 := by simpa [Cond.value, given_1] using g1
    obtain ⟨L⟩ := args
    match L, hs with
    | [w0], _ => exact ⟨w0, rfl⟩
  have hw := fun d (hd : d ∈ tables_1) => atoms_spec (ws := Jvm.Cond.code x code maxLocals ret :: tables_1) hat d (List.mem_cons_of_mem _ hd)
  obtain ⟨i0, ei0⟩ := isL_v g2
  obtain rfl : w0 = (.long i0) := Option.some.inj ei0
  obtain ⟨n, o, h1, h2, h3, _, L, rfl, ⟨hv, N⟩, hq⟩ := rm_0 l s _ hw tables_1 i0  s.heap s.heap.size (Nat.le_refl _)  p e ha hc hk s m _ below hf ((Spec.applies_iff_loose hf).mp happ).1 ⟨rfl, State.Warmed39.refl s, rfl⟩ trivial
  rw [own_law] at hv
  subst hv
  refine ⟨n, _, h1, h2, h3, hpost _ _ _ _ _ _ ⟨Cond.after_iff.mpr rfl, Cond.after_iff.mpr (eq_i res_at (Term.int_eval (1)) rfl), trivial⟩ ⟨hq.1, hq.2.1, (hq.2.2.sift fun y hy => Or.inr (N y hy)).mono (by decide) (by decide)⟩⟩
theorem main_1_1 : Claimed_1_1 := comes_1 fun _ _ _ _ _ _ h hF => ⟨h.1, hF⟩
theorem main_1_2 : Claimed_1_2 := comes_1 fun _ _ _ _ _ _ h hF => ⟨h.2.1, hF⟩
end Jvm.Pilot.@@N@@
namespace Jvm.Pilot.@@N@@
open Jvm Jvm.ClassFile Sem Op Lib Jvm.Free Jvm.Stand Jvm.Pilot.@@N@@.Jvm.D
/-! MADE BY PROGRAM (witnessworld.py) out of the Statement's table words and the real class files: 9 classes; the members and pool entries that the words name. The judged class is class 1, her method 3. -/
namespace start1
open Jvm.ClassFile
def u (s : String) : CpInfo := .utf8 (stringToUtf16 s)
/-- a pool by its gaps: so many unusable entries, then the entry; so many at the end -/
def gap : Nat → List CpInfo → List CpInfo
  | 0, r => r
  | n + 1, r => .unusable :: gap n r
def poolList (es : List (Nat × CpInfo)) (last : Nat) : List CpInfo := es.foldr (fun e r => gap e.1 (e.2 :: r)) (gap last [])
def pool (es : List (Nat × CpInfo)) (last : Nat) : Array CpInfo := ⟨poolList es last⟩
def fileOf (pool : Array CpInfo) (this : Nat) (attrs : Array Attribute := #[]) (ms : Array MethodInfo := #[]) (fl : Nat := 33) (sup : Nat := 0) (ifs : Array Nat := #[]) (fds : Array FieldInfo := #[]) : ClassFile where
  minorVersion := 0
  majorVersion := 65
  constantPool := pool
  accessFlags := fl
  thisClass := this
  superClass := sup
  interfaces := ifs
  fields := fds
  methods := ms
  attributes := attrs
def plain (name : String) (sup : Option ClassId) : Class where
  name := name
  kind := .ordinary
  loader := none
  accessFlags := 33
  super := sup
  interfaces := #[]
  cf := none
  fields := #[]
  methods := #[]
  instanceTypes := #[]
  staticTypes := #[]
  resolved := #[]
  callSites := []
  init := .initialized
  statics := none
  mirror := none

def pool0 : Array CpInfo := pool [(5, u "<init>"), (0, u "()V"), (1, .class_ 10), (1, u "java/lang/Object")] 113

def k0c0 : Code := { maxStack := 0, maxLocals := 1, code := object_method_1_code, exceptionTable := #[], attributes := #[] }
def k0m0 : Method := { name := "<init>", desc := "()V", sig := { parameters := [], returnType := none }, accessFlags := 1, code := some k0c0 }
/-- java/lang/Object -/
def k0 : Class := { plain "java/lang/Object" none with
  accessFlags := 33
  interfaces := #[]
  cf := some (fileOf pool0 8 #[] #[{ accessFlags := 1, nameIndex := 5, descriptorIndex := 6, attributes := #[] }] 33 0 #[] #[])
  fields := #[]
  methods := #[k0m0]
  instanceTypes := #[]
  staticTypes := #[]
  resolved := Array.replicate 124 none
  statics := none }

def pool1 : Array CpInfo := pool [(2, .class_ 4), (1, u "java/lang/Object"), (0, u "<init>"), (0, u "()V"), (0, .long 2), (1, .long 10723151780598845931), (1, .methodref 12 13), (0, .class_ 14), (0, .nameAndType 15 16), (0, u "com/example/knotwise/knotwise/SplitMix64NextPinLaw"), (0, u "inverse"), (0, u "(J)J"), (0, .long 13787848793156543929), (1, .long 11400714819323198485), (1, .class_ 22), (0, u "com/example/knotwise/knotwise/SplitMix64"), (0, .methodref 21 24), (0, .nameAndType 5 25), (0, u "(J)V"), (0, .methodref 21 27), (0, .nameAndType 28 29), (0, u "next"), (0, u "()J"), (0, .methodref 12 31), (0, .nameAndType 32 16), (0, u "unmix"), (0, .long 3), (3, u "law"), (0, u "(J)Z")] 3

def k1m0 : Method := { name := "<init>", desc := "()V", sig := { parameters := [], returnType := none }, accessFlags := 1, code := none }
def k1c1 : Code := { maxStack := 8, maxLocals := 4, code := method_2_code, exceptionTable := #[], attributes := #[] }
def k1m1 : Method := { name := "inverse", desc := "(J)J", sig := { parameters := [.long], returnType := some .long }, accessFlags := 10, code := some k1c1 }
def k1c2 : Code := { maxStack := 5, maxLocals := 4, code := method_3_code, exceptionTable := #[], attributes := #[] }
def k1m2 : Method := { name := "unmix", desc := "(J)J", sig := { parameters := [.long], returnType := some .long }, accessFlags := 10, code := some k1c2 }
def k1c3 : Code := { maxStack := 8, maxLocals := 11, code := code, exceptionTable := #[], attributes := #[] }
def k1m3 : Method := { name := "law", desc := "(J)Z", sig := { parameters := [.long], returnType := some .boolean }, accessFlags := 9, code := some k1c3 }
/-- com/example/knotwise/knotwise/SplitMix64NextPinLaw -/
def k1 : Class := { plain "com/example/knotwise/knotwise/SplitMix64NextPinLaw" (some 0) with
  accessFlags := 49
  interfaces := #[]
  cf := some (fileOf pool1 12 #[] #[{ accessFlags := 1, nameIndex := 5, descriptorIndex := 6, attributes := #[] }, { accessFlags := 10, nameIndex := 15, descriptorIndex := 16, attributes := #[] }, { accessFlags := 10, nameIndex := 32, descriptorIndex := 16, attributes := #[] }, { accessFlags := 9, nameIndex := 37, descriptorIndex := 38, attributes := #[] }] 49 2 #[] #[])
  fields := #[]
  methods := #[k1m0, k1m1, k1m2, k1m3]
  instanceTypes := #[]
  staticTypes := #[]
  resolved := Array.replicate 42 none
  statics := none }

def pool2 : Array CpInfo := pool [(1, .methodref 2 3), (0, .class_ 4), (0, .nameAndType 5 6), (0, u "java/lang/Object"), (0, u "<init>"), (0, u "()V"), (0, .fieldref 8 9), (0, .class_ 10), (0, .nameAndType 11 12), (0, u "com/example/knotwise/knotwise/SplitMix64"), (0, u "state"), (0, u "J"), (0, .long 11400714819323198485), (1, .long 13787848793156543929), (1, .long 10723151780598845931), (3, u "next"), (0, u "()J"), (12, u "GAMMA"), (1, u "UNIT"), (0, u "D"), (0, u "(J)V")] 9

def k2c0 : Code := { maxStack := 3, maxLocals := 3, code := prog_16_method_1_code, exceptionTable := #[], attributes := #[] }
def k2m0 : Method := { name := "<init>", desc := "(J)V", sig := { parameters := [.long], returnType := none }, accessFlags := 0, code := some k2c0 }
def k2c1 : Code := { maxStack := 5, maxLocals := 3, code := prog_16_method_2_code, exceptionTable := #[], attributes := #[] }
def k2m1 : Method := { name := "next", desc := "()J", sig := { parameters := [], returnType := some .long }, accessFlags := 0, code := some k2c1 }
/-- com/example/knotwise/knotwise/SplitMix64 -/
def k2 : Class := { plain "com/example/knotwise/knotwise/SplitMix64" (some 0) with
  accessFlags := 48
  interfaces := #[]
  cf := some (fileOf pool2 8 #[] #[{ accessFlags := 0, nameIndex := 5, descriptorIndex := 39, attributes := #[] }, { accessFlags := 0, nameIndex := 21, descriptorIndex := 22, attributes := #[] }] 48 2 #[] #[{ accessFlags := 26, nameIndex := 35, descriptorIndex := 12, attributes := #[] }, { accessFlags := 26, nameIndex := 37, descriptorIndex := 38, attributes := #[] }, { accessFlags := 2, nameIndex := 11, descriptorIndex := 12, attributes := #[] }])
  fields := #[{ name := "GAMMA", type := .long, accessFlags := 26, slot := 0, constantValue := 0 }, { name := "UNIT", type := .double, accessFlags := 26, slot := 1, constantValue := 0 }, { name := "state", type := .long, accessFlags := 2, slot := 0, constantValue := 0 }]
  methods := #[k2m0, k2m1]
  instanceTypes := #[.long]
  staticTypes := #[.long, .double]
  resolved := Array.replicate 49 none
  statics := none }

def pool3 : Array CpInfo := pool [(1, u "java/lang/Cloneable"), (0, .class_ 1), (0, u "java/lang/Object"), (0, .class_ 3)] 3

/-- java/lang/Cloneable -/
def k3 : Class := { plain "java/lang/Cloneable" (some 0) with
  accessFlags := 1537
  interfaces := #[]
  cf := some (fileOf pool3 2 #[] #[] 1537 4 #[] #[])
  fields := #[]
  methods := #[]
  instanceTypes := #[]
  staticTypes := #[]
  resolved := Array.replicate 8 none
  statics := none }

def pool4 : Array CpInfo := pool [(1, u "java/io/Serializable"), (0, .class_ 1), (0, u "java/lang/Object"), (0, .class_ 3)] 3

/-- java/io/Serializable -/
def k4 : Class := { plain "java/io/Serializable" (some 0) with
  accessFlags := 1537
  interfaces := #[]
  cf := some (fileOf pool4 2 #[] #[] 1537 4 #[] #[])
  fields := #[]
  methods := #[]
  instanceTypes := #[]
  staticTypes := #[]
  resolved := Array.replicate 8 none
  statics := none }

/-- the primitive byte -/
def k5 : Class := { plain "byte" none with kind := .primitive 'B', accessFlags := 0x411 }
/-- [B -/
def k6 : Class := { plain "[B" (some 0) with kind := .array 5 .byte, interfaces := #[3, 4], accessFlags := 1041 }

/-- the primitive int -/
def k7 : Class := { plain "int" none with kind := .primitive 'I', accessFlags := 0x411 }
/-- [I -/
def k8 : Class := { plain "[I" (some 0) with kind := .array 7 .int, interfaces := #[3, 4], accessFlags := 1041 }

def heap : Heap := #[]
def classes : Array Class := #[k0, k1, k2, k3, k4, k5, k6, k7, k8]
def interned : List (Array UInt16 × Addr) := []
def slotsUsed : Nat := 0
def theMethod : MethodId := ⟨1, 3⟩
def args0 : Array Value := #[.long 5]
def aboutOver (below : List Frame) : State where
  vm := { classes := classes, interned := interned.toArray }
  heap := heap
  slotsUsed := slotsUsed
  threads := #[{ frames := .invoking theMethod args0 :: below }]
def below0 : List Frame := [.native { method := ⟨0, 0⟩, args := #[] }]
def about1 : State := aboutOver below0
def p0 : Program := .bare "" "" ""
def e0 : Env := launch0.env 0 0 0
theorem w_frames : about1.frames = Frame.invoking theMethod args0 :: below0 := rfl
set_option maxRecDepth 65536 in
theorem w_args : argsFit about1.vm theMethod args0 = true := by decide +kernel
set_option maxRecDepth 65536 in
theorem w_heap : heapFits about1 = true := by decide +kernel
set_option maxRecDepth 65536 in
theorem w_runnable : about1.curStatus? = some .runnable := by decide +kernel
set_option maxRecDepth 65536 in
theorem w_alone : about1.alone = true := by decide +kernel
set_option maxRecDepth 65536 in
theorem w_named : about1.methodNamed? x = some theMethod := by decide +kernel
set_option maxRecDepth 65536 in
theorem w_hears : about1.hears theMethod below0 = true := by decide +kernel
set_option maxRecDepth 65536 in
theorem w_ripe : about1.ripe theMethod args0 below0 = true := by decide +kernel
theorem w_running : about1.status = .running := rfl
set_option maxRecDepth 65536 in
theorem w_room : about1.hasRoom e0.platform room_1 = true :=
  launch0.hasRoom_least _ room_1 (by decide +kernel) (by decide +kernel) (by decide +kernel) (by decide +kernel) (by decide +kernel) (by decide +kernel)
theorem allAtoms_all (ts : List Jvm.Cond) (a : Array Jvm.Value) (st : Jvm.State) : (allAtoms ts).before a st = ts.all (fun c => c.before a st) := by
  induction ts with
  | nil => rfl
  | cons c t ih =>
    show (Jvm.Cond.and c (allAtoms t)).before a st = _
    rw [Jvm.Cond.before_and, ih, List.all_cons]
def words1 : List Jvm.Cond := Jvm.Cond.code x code maxLocals ret :: tables_1
/-- a 'code' word, met by the world's own term for the bytes: nothing is compared byte by byte -/
theorem code_word {y : MethodName} {bytes : ByteArray} {mx : Nat} {rt : Option FieldType} {a : Array Value} {s : State} {m : MethodId} {meth : Method} {c : Code} (h1 : s.methodNamed? y = some m) (h2 : s.vm.method? m = some meth) (h3 : meth.code = some c) (h4 : c.code = bytes)
    (h5 : (c.maxLocals == mx && c.exceptionTable.isEmpty && decide (c.maxStack ≤ mostOperands) && decide (meth.sig.returnType = rt) && !meth.locks && decide (parseMethodDescriptor y.desc = some meth.sig)) = true) : (Jvm.Cond.code y bytes mx rt).before a s = true := by
  simp only [Bool.and_eq_true, beq_iff_eq, Bool.not_eq_true', decide_eq_true_eq] at h5
  obtain ⟨⟨⟨⟨⟨g1, g2⟩, g3⟩, g4⟩, g5⟩, g6⟩ := h5
  simp [Cond.before, Cond.holds, Cond.value, h1, h2, h3, h4, g1, g2, g3, g4, g5, g6]
def isCode : Jvm.Cond → Bool
  | .code _ _ _ _ => true
  | _ => false
theorem all_split {L : List Jvm.Cond} {P : Jvm.Cond → Bool} (h1 : L.all (fun c => isCode c || P c) = true) (h2 : ∀ c ∈ L.filter isCode, P c = true) : L.all P = true := by
  refine List.all_eq_true.mpr fun c hc => ?_
  have h := List.all_eq_true.mp h1 c hc
  rcases Bool.eq_false_or_eq_true (isCode c) with hi | hi
  · exact h2 c (List.mem_filter.mpr ⟨hc, hi⟩)
  · simpa [hi] using h
set_option maxRecDepth 65536 in
theorem w_c0 : (Jvm.Cond.code x code maxLocals ret).before args0 about1 = true := code_word (m := ⟨1, 3⟩) (meth := k1m3) (c := k1c3) (by decide +kernel) rfl rfl rfl (by decide +kernel)
set_option maxRecDepth 65536 in
theorem w_c1 : (Jvm.Cond.code ({ cls := "com/example/knotwise/knotwise/SplitMix64", name := "<init>", desc := "(J)V" } : Jvm.MethodName) prog_16_method_1_code (3 : Nat) (Option.none : Option Jvm.ClassFile.FieldType)).before args0 about1 = true := code_word (m := ⟨2, 0⟩) (meth := k2m0) (c := k2c0) (by decide +kernel) rfl rfl rfl (by decide +kernel)
set_option maxRecDepth 65536 in
theorem w_c2 : (Jvm.Cond.code ({ cls := "java/lang/Object", name := "<init>", desc := "()V" } : Jvm.MethodName) object_method_1_code (1 : Nat) (Option.none : Option Jvm.ClassFile.FieldType)).before args0 about1 = true := code_word (m := ⟨0, 0⟩) (meth := k0m0) (c := k0c0) (by decide +kernel) rfl rfl rfl (by decide +kernel)
set_option maxRecDepth 65536 in
theorem w_c3 : (Jvm.Cond.code ({ cls := "com/example/knotwise/knotwise/SplitMix64", name := "next", desc := "()J" } : Jvm.MethodName) prog_16_method_2_code (3 : Nat) (Option.some Jvm.ClassFile.FieldType.long)).before args0 about1 = true := code_word (m := ⟨2, 1⟩) (meth := k2m1) (c := k2c1) (by decide +kernel) rfl rfl rfl (by decide +kernel)
set_option maxRecDepth 65536 in
theorem w_c4 : (Jvm.Cond.code ({ cls := "com/example/knotwise/knotwise/SplitMix64NextPinLaw", name := "unmix", desc := "(J)J" } : Jvm.MethodName) method_3_code (4 : Nat) (Option.some Jvm.ClassFile.FieldType.long)).before args0 about1 = true := code_word (m := ⟨1, 2⟩) (meth := k1m2) (c := k1c2) (by decide +kernel) rfl rfl rfl (by decide +kernel)
set_option maxRecDepth 65536 in
theorem w_c5 : (Jvm.Cond.code ({ cls := "com/example/knotwise/knotwise/SplitMix64NextPinLaw", name := "inverse", desc := "(J)J" } : Jvm.MethodName) method_2_code (4 : Nat) (Option.some Jvm.ClassFile.FieldType.long)).before args0 about1 = true := code_word (m := ⟨1, 1⟩) (meth := k1m1) (c := k1c1) (by decide +kernel) rfl rfl rfl (by decide +kernel)
def codes1 : List Jvm.Cond := [Jvm.Cond.code x code maxLocals ret, Jvm.Cond.code ({ cls := "com/example/knotwise/knotwise/SplitMix64", name := "<init>", desc := "(J)V" } : Jvm.MethodName) prog_16_method_1_code (3 : Nat) (Option.none : Option Jvm.ClassFile.FieldType), Jvm.Cond.code ({ cls := "java/lang/Object", name := "<init>", desc := "()V" } : Jvm.MethodName) object_method_1_code (1 : Nat) (Option.none : Option Jvm.ClassFile.FieldType), Jvm.Cond.code ({ cls := "com/example/knotwise/knotwise/SplitMix64", name := "next", desc := "()J" } : Jvm.MethodName) prog_16_method_2_code (3 : Nat) (Option.some Jvm.ClassFile.FieldType.long), Jvm.Cond.code ({ cls := "com/example/knotwise/knotwise/SplitMix64NextPinLaw", name := "unmix", desc := "(J)J" } : Jvm.MethodName) method_3_code (4 : Nat) (Option.some Jvm.ClassFile.FieldType.long), Jvm.Cond.code ({ cls := "com/example/knotwise/knotwise/SplitMix64NextPinLaw", name := "inverse", desc := "(J)J" } : Jvm.MethodName) method_2_code (4 : Nat) (Option.some Jvm.ClassFile.FieldType.long)]
set_option maxRecDepth 65536 in
theorem codes_eq : words1.filter isCode = codes1 := rfl
theorem w_codes : ∀ c ∈ words1.filter isCode, c.before args0 about1 = true := by
  rw [codes_eq]
  intro c hc
  simp only [codes1, List.mem_cons, List.not_mem_nil, or_false] at hc
  rcases hc with rfl | rfl | rfl | rfl | rfl | rfl
  · exact w_c0
  · exact w_c1
  · exact w_c2
  · exact w_c3
  · exact w_c4
  · exact w_c5
set_option maxRecDepth 65536 in
theorem w_t1 : (words1.take 24).all (fun c => isCode c || c.before args0 about1) = true := by decide +kernel
set_option maxRecDepth 65536 in
theorem w_t2 : (words1.drop 24).all (fun c => isCode c || c.before args0 about1) = true := by decide +kernel
theorem w_tables : (allAtoms (Jvm.Cond.code x code maxLocals ret :: tables_1)).before args0 about1 = true := by
  rw [allAtoms_all]
  show words1.all (fun c => c.before args0 about1) = true
  refine all_split ?_ w_codes
  rw [← List.take_append_drop 24 words1, List.all_append, w_t1, w_t2]
  rfl
set_option maxRecDepth 65536 in
theorem w_case : (Jvm.Cond.and given_1 narrow_1).before args0 about1 = true := by decide +kernel
theorem w_applies : (headSpec (Jvm.Cond.code x code maxLocals ret :: tables_1) room_1).applies x e0.platform about1 = true :=
  (Spec.applies_iff w_frames).mpr ⟨w_running, w_runnable, w_alone, w_named, w_hears, w_ripe, w_room, w_tables⟩
theorem atStart : AtStart classFile x code maxLocals ret World_1 tables_1 room_1 Calls_1 rest_1 Pre_1 launch0 p0 e0 about1 theMethod args0 below0 :=
  ⟨lists_1, trivial, launch0.admits_env _ _ _, launch0.least_env, fairChoices_fair.cas, fairChoices_fair.clock, w_frames, w_args, w_heap, w_applies, trivial, trivial, w_case⟩
end start1
theorem witness_1 : WitnessClaimed_1 := ⟨start1.p0, start1.e0, start1.about1, start1.theMethod, start1.args0, start1.below0, start1.atStart⟩
end Jvm.Pilot.@@N@@
