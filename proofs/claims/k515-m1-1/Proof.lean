import JvmDerived
import JvmDerived.Pilot.@@N@@Statement
import JvmDerived.Pilot.@@N@@Code
set_option linter.unusedVariables false
set_option linter.unusedSimpArgs false
namespace Jvm.RoadKit
open Sem ClassFile Op Lib Jvm.Stand Jvm.Free Jvm.LawKit
section New
variable {p : Program} {l : Launch} {e : Env} {R : Room} {s : State} {m : MethodId} {args : Array Value} {below : List Frame} {meth : Method} {c : Code} {T : State} {locs : List Loc} {cells slots : Nat}
theorem retI (X : Stand p l e R s m args below meth c T locs cells slots) (hx : p.tables.exec = Jvm.exec) {pc : Nat} {Ls : Array Slot} {z : Int32} {rest : List Value} (hret : meth.sig.returnType = some .int) (hd : decode c.code pc = .ok (.ireturn, 1)) {fs : List Frame}
    (hl : ∀ (f : JFrame) (acts : List Action), f.method = m → f.locked = none → f.entered = [] → (doReturn e (T.setTop f) acts (some (.int z))).1 = T.setFrames fs) : Steps p.tables e below (T.setTop (mkF m pc Ls (.int z :: rest))) (T.setFrames fs) := by
  have hm' : T.vm.method? m = some meth := X.method'
  have hn : narrow .int (.int z) = .int z := rfl
  show Steps p.tables e below (T.setTop { method := m, pc := pc, locals := Ls, stack := _ :: rest, locked := none }) _
  jvm_step X.here [X.here.top, hx, hd, hm', hret, hn]
  first | (intro acts; rw [hl _ acts rfl rfl rfl]) | rw [hl _ _ rfl rfl rfl]
  exact Steps.refl _
/-- from here the walk comes to a good end -/
def Go (p : Program) (e : Env) (below : List Frame) (s : State) (Q : Option Value → Heap → List Loc → Prop) (C S : Nat) (T : State) (f : JFrame) : Prop :=
  ∃ s₂ o, Steps p.tables e below (T.setTop f) s₂ ∧ s₂.status = .running ∧ Ended s₂ below o ∧ ∃ v L, o = .returned v ∧ Q v s₂.heap L ∧ FrameEnd s o s₂ L C S
theorem Go.step {Q : Option Value → Heap → List Loc → Prop} {C S : Nat} {T' : State} {f f' : JFrame} (k : ∀ t, Steps p.tables e below (T'.setTop f') t → Steps p.tables e below (T.setTop f) t) (h : Go p e below s Q C S T' f') : Go p e below s Q C S T f := by
  obtain ⟨s₂, o, h1, h2⟩ := h
  exact ⟨s₂, o, k _ h1, h2⟩
theorem Go.cast {Q : Option Value → Heap → List Loc → Prop} {C S : Nat} {f f' : JFrame} (q : f = f') (h : Go p e below s Q C S T f') : Go p e below s Q C S T f := q ▸ h
theorem Go.fin (X : Stand p l e R s m args below meth c T locs cells slots) {Q : Option Value → Heap → List Loc → Prop} {C S : Nat} {f : JFrame} {v : Option Value} (hv : meth.sig.returnType = none → v = none) (hl : meth.locks = false) (hQ : Q v T.heap locs) (hc : cells ≤ C) (hs : slots ≤ S)
    (k : ∀ fs, (∀ (f : JFrame) (acts : List Action), f.method = m → f.locked = none → f.entered = [] → (doReturn e (T.setTop f) acts v).1 = T.setFrames fs) → Steps p.tables e below (T.setTop f) (T.setFrames fs)) : Go p e below s Q C S T f := by
  obtain ⟨fs, hr, hrun, hended, hW, hsame⟩ := X.leave (v := v) hv hl
  exact ⟨_, _, k fs hr, hrun, hended, v, locs, rfl, hQ, ⟨_, rfl⟩, hW, hsame.mono hc hs⟩
theorem own_lrem (x y : Int64) : x - (x / y) * y = x % y := lrem_mod x y
theorem own_irem (x y : Int32) : x - (x / y) * y = x % y := by
  apply Int32.toInt_inj.mp
  have h1 := Int32.le_toInt (x % y)
  have h2 := Int32.toInt_lt (x % y)
  rw [Int32.toInt_sub, Int32.toInt_mul, Int32.toInt_div, Int.bmod_mul_bmod, Int.sub_bmod_bmod, Int.mul_comm (x.toInt.tdiv y.toInt), ← Int.tmod_def, ← Int32.toInt_mod]
  exact Int.bmod_eq_of_le_mul_two (by omega) (by omega)
theorem own_fin {x : Int32} {n : Nat} (h0 : 0 ≤ x.toInt) (h1 : x.toInt < n) (h2 : n ≤ 2147483648) : ∃ k : Fin n, x = Int32.ofNat k.val := by
  refine ⟨⟨x.toInt.toNat, by omega⟩, Int32.toInt_inj.mp ?_⟩
  have q : (x.toInt.toNat).toInt32.toInt = x.toInt.toNat := len_toInt (by omega)
  show x.toInt = (x.toInt.toNat).toInt32.toInt
  rw [q]; omega
theorem own_i2c {x : Int32} (h0 : 0 ≤ x.toInt) (h1 : x.toInt < 65536) : x.toUInt32.toUInt16.toUInt32.toInt32 = x := Int32.toInt_inj.mp (by have := c_i2c x; omega)
theorem own_rem (x y : Int32) (h0 : 0 ≤ x.toInt) : (x % y).toInt = x.toInt % y.toInt := by rw [Int32.toInt_mod, (tr _ _).1 h0]
theorem own_remL (x y : Int64) (h0 : 0 ≤ x.toInt) : (x % y).toInt = x.toInt % y.toInt := by rw [Int64.toInt_mod, (tr _ _).1 h0]
theorem own_div (x y : Int32) (h0 : 0 ≤ x.toInt) (h1 : 0 < y.toInt) : (x / y).toInt = x.toInt / y.toInt := (c_idiv x y _ rfl (fun q => by rw [q] at h1; exact absurd h1 (by decide))).1 h0
theorem own_add {x y : Int32} (h0 : -2147483648 ≤ x.toInt + y.toInt) (h1 : x.toInt + y.toInt < 2147483648) : (x + y).toInt = x.toInt + y.toInt := by have := c_iadd x y; have := rng32 (x + y); omega
theorem own_sub {x y : Int32} (h0 : -2147483648 ≤ x.toInt - y.toInt) (h1 : x.toInt - y.toInt < 2147483648) : (x - y).toInt = x.toInt - y.toInt := by have := c_isub x y; have := rng32 (x - y); omega
theorem own_mul {x y : Int32} (h0 : -2147483648 ≤ x.toInt * y.toInt) (h1 : x.toInt * y.toInt < 2147483648) : (x * y).toInt = x.toInt * y.toInt := by have := c_imul x y; have := rng32 (x * y); omega
theorem own_nat {j : Int32} (h0 : 0 ≤ j.toInt) : (j.toNatClampNeg : Int) = j.toInt := by simp only [Int32.toNatClampNeg]; omega
section Heaps
variable {Z : State} {h h' : Heap} {a b : Addr} {ty : FieldType} {vs : List Value} {sl : Nat} {v : Value} {ws : List Addr}
/-- an array and all that lies in it -/
def VA (Z : State) (h : Heap) (a : Addr) (ty : FieldType) (vs : List Value) : Prop := ∃ c : Cell, Arr Z h a c ty ∧ c.slots.toList = vs ∧ vs.length < 2 ^ 31
theorem VA.lt (F : VA Z h a ty vs) : a < h.size := by obtain ⟨c, A, -⟩ := F; exact A.lt
theorem VA.len (F : VA Z h a ty vs) : vs.length < 2 ^ 31 := by obtain ⟨c, A, -, r⟩ := F; exact r
theorem VA.ext (F : VA Z h a ty vs) (E : Ext h h') : VA Z h' a ty vs := by obtain ⟨c, A, r⟩ := F; exact ⟨c, A.ext E, r⟩
theorem VA.other (F : VA Z h b ty vs) (W : Wr h h' a sl v) (q : b ≠ a) : VA Z h' b ty vs := by obtain ⟨c, A, r⟩ := F; exact ⟨c, A.other W q, r⟩
theorem VA.keep (F : VA Z h a ty vs) (K : Keep h h' ws) (q : a ∉ ws) : VA Z h' a ty vs := by obtain ⟨c, A, r⟩ := F; exact ⟨c, ⟨K.2.1 a c A.1 q, A.2⟩, r⟩
theorem VA.new {k : ClassId} {n : Int32} (A : Arr Z h a (newA k ty n) ty) (q : ¬ n < 0) : VA Z h a ty (List.replicate n.toNatClampNeg (defaultValue ty)) :=
  ⟨_, A, by simp [newA], by rw [List.length_replicate]; exact (back32 q).2⟩
theorem VA.inb (F : VA Z h a ty vs) {j : Int32} (h0 : 0 ≤ j.toInt) (h1 : j.toInt < vs.length) : ∃ c : Cell, Arr Z h a c ty ∧ ¬ (j < 0 ∨ c.slots.size ≤ j.toNatClampNeg) ∧ c.slots[j.toNatClampNeg]? = vs[j.toNatClampNeg]? ∧ ∀ h' v, Wr h h' a j.toNatClampNeg v → VA Z h' a ty (vs.set j.toNatClampNeg v) := by
  obtain ⟨c, A, rfl, r⟩ := F
  have hj := own_nat h0
  rw [Array.length_toList] at h1
  refine ⟨c, A, ?_, (Array.getElem?_toList ..).symm, fun h' v W => ⟨_, A.same W, ?_, ?_⟩⟩
  · rw [Int32.lt_iff_toInt_lt]
    have k0 : (0 : Int32).toInt = 0 := rfl
    omega
  · simp [Cell.setSlot]
  · rw [List.length_set]; exact r
theorem VA.ne_exa {C : String} {a0 : Array Value} {k : Nat} (F : VA Z h b ty vs) (G : Exa Z h a C) (wi : (Cond.instantiable C k).before a0 Z = true) : a ≠ b := by obtain ⟨c, A, -⟩ := F; exact ne_arr G wi A
end Heaps
theorem own_cat1 {v : Value} (h : v.isRef = true) : v.category = 1 := by cases v <;> simp_all [Value.isRef, Value.category]
theorem own_psel {y : MethodName} {n : Nat} (wi : (Cond.instantiable y.cls n).before args s = true) (hpriv : s.PrivateAt y) (hinst : (Cond.instanceMethod y).before args s = true) (hy : y.cls ≠ "java/lang/invoke/MethodHandle" ∧ y.cls ≠ "java/lang/invoke/VarHandle") : (Cond.selects y.cls y y).before args s = true := by
  obtain ⟨c, k, h1, h2, -, h4, -, -⟩ := Cond.instantiable_spec wi
  exact selects_self_of_private h1 h2 (by cases q : k.isInterface; rfl; rw [q] at h4; simp at h4) hpriv hinst hy
section Steps2
variable {Z : State} {h : Heap} {a : Addr} {a0 : Array Value}
theorem ldI (X : Stand p l e R s m args below meth c T locs cells slots) (hx : p.tables.exec = Jvm.exec) (hZ : Z.Warmed39 s.vm) (eT : T.heap = h) {vs : List Int32} (F : VA Z h a .int (vs.map Value.int)) {j : Int32} (h0 : 0 ≤ j.toInt) (h1 : j.toInt < vs.length)
    {g : JFrame} (hg : g.method = m) {rest : List Value} (hs : g.stack = .int j :: .ref a :: rest) (hd : decode c.code g.pc = .ok (.iaload, 1)) (target : State)
    (k : Steps p.tables e below (T.setTop { g with pc := g.pc + 1, stack := .int (vs.getD j.toNatClampNeg 0) :: rest }) target) : Steps p.tables e below (T.setTop g) target := by
  obtain ⟨cl, A, q1, q2, -⟩ := F.inb h0 (by rw [List.length_map]; exact h1)
  have hj := own_nat h0
  refine X.iaload hx (j := j) (v := .int (vs.getD j.toNatClampNeg 0)) (by rw [eT]; exact A.1) (State.isArrayOf_alike hZ.alike A.2.1) A.2.2 q1 ?_ hg hs hd target k
  rw [q2, List.getElem?_map, List.getD_eq_getElem?_getD, List.getElem?_eq_getElem (by omega)]; rfl
theorem ldJ (X : Stand p l e R s m args below meth c T locs cells slots) (hx : p.tables.exec = Jvm.exec) (hZ : Z.Warmed39 s.vm) (eT : T.heap = h) {vs : List Int64} (F : VA Z h a .long (vs.map Value.long)) {j : Int32} (h0 : 0 ≤ j.toInt) (h1 : j.toInt < vs.length)
    {g : JFrame} (hg : g.method = m) {rest : List Value} (hs : g.stack = .int j :: .ref a :: rest) (hd : decode c.code g.pc = .ok (.laload, 1)) (target : State)
    (k : Steps p.tables e below (T.setTop { g with pc := g.pc + 1, stack := .long (vs.getD j.toNatClampNeg 0) :: rest }) target) : Steps p.tables e below (T.setTop g) target := by
  obtain ⟨cl, A, q1, q2, -⟩ := F.inb h0 (by rw [List.length_map]; exact h1)
  have hj := own_nat h0
  refine X.laload hx (j := j) (v := .long (vs.getD j.toNatClampNeg 0)) (by rw [eT]; exact A.1) (State.isArrayOf_alike hZ.alike A.2.1) A.2.2 q1 ?_ hg hs hd target k
  rw [q2, List.getElem?_map, List.getD_eq_getElem?_getD, List.getElem?_eq_getElem (by omega)]; rfl
theorem ldB (X : Stand p l e R s m args below meth c T locs cells slots) (hx : p.tables.exec = Jvm.exec) (hZ : Z.Warmed39 s.vm) (eT : T.heap = h) {vs : List Int32} (F : VA Z h a .byte (vs.map Value.int)) {j : Int32} (h0 : 0 ≤ j.toInt) (h1 : j.toInt < vs.length)
    {g : JFrame} (hg : g.method = m) {rest : List Value} (hs : g.stack = .int j :: .ref a :: rest) (hd : decode c.code g.pc = .ok (.baload, 1)) (target : State)
    (k : Steps p.tables e below (T.setTop { g with pc := g.pc + 1, stack := .int (vs.getD j.toNatClampNeg 0) :: rest }) target) : Steps p.tables e below (T.setTop g) target := by
  obtain ⟨cl, A, q1, q2, -⟩ := F.inb h0 (by rw [List.length_map]; exact h1)
  have hj := own_nat h0
  refine X.baloadBytes hx (j := j) (v := .int (vs.getD j.toNatClampNeg 0)) (by rw [eT]; exact A.1) (State.isArrayOf_alike hZ.alike A.2.1) A.2.2 q1 ?_ hg hs hd target k
  rw [q2, List.getElem?_map, List.getD_eq_getElem?_getD, List.getElem?_eq_getElem (by omega)]; rfl
theorem ldR (X : Stand p l e R s m args below meth c T locs cells slots) (hx : p.tables.exec = Jvm.exec) (hZ : Z.Warmed39 s.vm) (eT : T.heap = h) {ty : FieldType} {vs : List Addr} (F : VA Z h a ty (vs.map Value.ref)) (hty : ty.isReference = true) {j : Int32} (h0 : 0 ≤ j.toInt) (h1 : j.toInt < vs.length)
    {g : JFrame} (hg : g.method = m) {rest : List Value} (hs : g.stack = .int j :: .ref a :: rest) (hd : decode c.code g.pc = .ok (.aaload, 1)) (target : State)
    (k : Steps p.tables e below (T.setTop { g with pc := g.pc + 1, stack := .ref (vs.getD j.toNatClampNeg 0) :: rest }) target) : Steps p.tables e below (T.setTop g) target := by
  obtain ⟨cl, A, q1, q2, -⟩ := F.inb h0 (by rw [List.length_map]; exact h1)
  have hj := own_nat h0
  refine X.aaload hx (j := j) (v := .ref (vs.getD j.toNatClampNeg 0)) (by rw [eT]; exact A.1) (State.isArrayOf_alike hZ.alike A.2.1) hty A.2.2 q1 ?_ hg hs hd target k
  rw [q2, List.getElem?_map, List.getD_eq_getElem?_getD, List.getElem?_eq_getElem (by omega)]; rfl
theorem lenA (X : Stand p l e R s m args below meth c T locs cells slots) (hx : p.tables.exec = Jvm.exec) (hZ : Z.Warmed39 s.vm) (eT : T.heap = h) {ty : FieldType} {vs : List Value} (F : VA Z h a ty vs) {n : Int32} (hn : (vs.length : Int) = n.toInt)
    {g : JFrame} (hg : g.method = m) {rest : List Value} (hs : g.stack = .ref a :: rest) (hd : decode c.code g.pc = .ok (.arraylength, 1)) (target : State)
    (k : Steps p.tables e below (T.setTop { g with pc := g.pc + 1, stack := .int n :: rest }) target) : Steps p.tables e below (T.setTop g) target := by
  obtain ⟨cl, A, rfl, r⟩ := F
  refine X.arraylength hx (by rw [eT]; exact A.1) (State.isArrayOf_alike hZ.alike A.2.1) hg hs hd target ?_
  have e : cl.slots.size.toInt32 = n := Int32.toInt_inj.mp (by rw [len_toInt (by rw [← Array.length_toList]; exact r), ← hn, Array.length_toList])
  rw [e]; exact k
theorem putI (X : Stand p l e R s m args below meth c T locs cells slots) (hx : p.tables.exec = Jvm.exec) (hZ : Z.Warmed39 s.vm) (eT : T.heap = h) {vs : List Int32} (F : VA Z h a .int (vs.map Value.int)) {j x : Int32} (h0 : 0 ≤ j.toInt) (h1 : j.toInt < vs.length)
    {g : JFrame} (hg : g.method = m) {rest : List Value} (hs : g.stack = .int x :: .int j :: .ref a :: rest) (hd : decode c.code g.pc = .ok (.iastore, 1)) :
    ∃ T' h', Stand p l e R s m args below meth c T' (locs ++ [⟨a, j.toNatClampNeg⟩]) cells slots ∧ T'.heap = h' ∧ Wr h h' a j.toNatClampNeg (.int x) ∧ VA Z h' a .int ((vs.set j.toNatClampNeg x).map Value.int) ∧ ∀ target, Steps p.tables e below (T'.setTop { g with pc := g.pc + 1, stack := rest }) target → Steps p.tables e below (T.setTop g) target := by
  obtain ⟨cl, A, q1, q2, q3⟩ := F.inb h0 (by rw [List.length_map]; exact h1)
  obtain ⟨T', h', X', e', W, st⟩ := stI X hx hZ eT A q1 hg hs hd
  exact ⟨T', h', X', e', W, by rw [List.map_set]; exact q3 _ _ W, st⟩
theorem putJ (X : Stand p l e R s m args below meth c T locs cells slots) (hx : p.tables.exec = Jvm.exec) (hZ : Z.Warmed39 s.vm) (eT : T.heap = h) {vs : List Int64} (F : VA Z h a .long (vs.map Value.long)) {j : Int32} {x : Int64} (h0 : 0 ≤ j.toInt) (h1 : j.toInt < vs.length)
    {g : JFrame} (hg : g.method = m) {rest : List Value} (hs : g.stack = .long x :: .int j :: .ref a :: rest) (hd : decode c.code g.pc = .ok (.lastore, 1)) :
    ∃ T' h', Stand p l e R s m args below meth c T' (locs ++ [⟨a, j.toNatClampNeg⟩]) cells slots ∧ T'.heap = h' ∧ Wr h h' a j.toNatClampNeg (.long x) ∧ VA Z h' a .long ((vs.set j.toNatClampNeg x).map Value.long) ∧ ∀ target, Steps p.tables e below (T'.setTop { g with pc := g.pc + 1, stack := rest }) target → Steps p.tables e below (T.setTop g) target := by
  obtain ⟨cl, A, q1, q2, q3⟩ := F.inb h0 (by rw [List.length_map]; exact h1)
  obtain ⟨T', h', X', e', W, st⟩ := stJ X hx hZ eT A q1 hg hs hd
  exact ⟨T', h', X', e', W, by rw [List.map_set]; exact q3 _ _ W, st⟩
theorem putB (X : Stand p l e R s m args below meth c T locs cells slots) (hx : p.tables.exec = Jvm.exec) (hZ : Z.Warmed39 s.vm) (eT : T.heap = h) {vs : List Int32} (F : VA Z h a .byte (vs.map Value.int)) {j x : Int32} (h0 : 0 ≤ j.toInt) (h1 : j.toInt < vs.length)
    {g : JFrame} (hg : g.method = m) {rest : List Value} (hs : g.stack = .int x :: .int j :: .ref a :: rest) (hd : decode c.code g.pc = .ok (.bastore, 1)) :
    ∃ T' h', Stand p l e R s m args below meth c T' (locs ++ [⟨a, j.toNatClampNeg⟩]) cells slots ∧ T'.heap = h' ∧ Wr h h' a j.toNatClampNeg (.int (nar .byte x)) ∧ VA Z h' a .byte ((vs.set j.toNatClampNeg (nar .byte x)).map Value.int) ∧ ∀ target, Steps p.tables e below (T'.setTop { g with pc := g.pc + 1, stack := rest }) target → Steps p.tables e below (T.setTop g) target := by
  obtain ⟨cl, A, q1, q2, q3⟩ := F.inb h0 (by rw [List.length_map]; exact h1)
  obtain ⟨T', h', X', e', W, st⟩ := stB X hx hZ eT A q1 hg hs hd
  exact ⟨T', h', X', e', W, by rw [List.map_set]; exact q3 _ _ W, st⟩
theorem newI (X : Stand p l e R s m args below meth c T locs cells slots) (hx : p.tables.exec = Jvm.exec) (hZ : Z.Warmed39 s.vm) (w : (Cond.arrayClass .int).before a0 Z = true) (eT : T.heap = h) {g : JFrame} (hg : g.method = m) (hd : decode c.code g.pc = .ok (.newarray .int, 2)) {n : Int32} {rest : List Value} (hs : g.stack = .int n :: rest)
    (hn : 0 ≤ n.toInt) {cap : Nat} (hcap : n.toInt ≤ cap) (hb : cap * 8 ≤ 536870912) (hc : cells + 1 ≤ R.cells) (hl : slots + cap ≤ R.slots) :
    ∃ T' h', Stand p l e R s m args below meth c T' locs (cells + 1) (slots + cap) ∧ T'.heap = h' ∧ Ext h h' ∧ VA Z h' h.size .int ((List.replicate n.toInt.toNat (0 : Int32)).map Value.int) ∧
      ∀ target, Steps p.tables e below (T'.setTop { g with pc := g.pc + 2, stack := .ref h.size :: rest }) target → Steps p.tables e below (T.setTop g) target := by
  have q : ¬ n < 0 := by rw [Int32.lt_iff_toInt_lt]; have k0 : (0 : Int32).toInt = 0 := rfl; omega
  have en : n.toNatClampNeg = n.toInt.toNat := rfl
  obtain ⟨T', h', cA, X', e', E, A, st⟩ := newP X hx hZ (aty := .int) w eT hg hd hs q (cap := cap) (by rw [en]; omega) hb hc hl
  have V1 : VA Z h' h.size .int (List.replicate n.toNatClampNeg (Value.int (0 : Int32))) := VA.new A q
  rw [en] at V1
  refine ⟨T', h', X', e', E, ?_, st⟩
  rw [List.map_replicate]
  exact V1
theorem newJ (X : Stand p l e R s m args below meth c T locs cells slots) (hx : p.tables.exec = Jvm.exec) (hZ : Z.Warmed39 s.vm) (w : (Cond.arrayClass .long).before a0 Z = true) (eT : T.heap = h) {g : JFrame} (hg : g.method = m) (hd : decode c.code g.pc = .ok (.newarray .long, 2)) {n : Int32} {rest : List Value} (hs : g.stack = .int n :: rest)
    (hn : 0 ≤ n.toInt) {cap : Nat} (hcap : n.toInt ≤ cap) (hb : cap * 8 ≤ 536870912) (hc : cells + 1 ≤ R.cells) (hl : slots + cap ≤ R.slots) :
    ∃ T' h', Stand p l e R s m args below meth c T' locs (cells + 1) (slots + cap) ∧ T'.heap = h' ∧ Ext h h' ∧ VA Z h' h.size .long ((List.replicate n.toInt.toNat (0 : Int64)).map Value.long) ∧
      ∀ target, Steps p.tables e below (T'.setTop { g with pc := g.pc + 2, stack := .ref h.size :: rest }) target → Steps p.tables e below (T.setTop g) target := by
  have q : ¬ n < 0 := by rw [Int32.lt_iff_toInt_lt]; have k0 : (0 : Int32).toInt = 0 := rfl; omega
  have en : n.toNatClampNeg = n.toInt.toNat := rfl
  obtain ⟨T', h', cA, X', e', E, A, st⟩ := newP X hx hZ (aty := .long) w eT hg hd hs q (cap := cap) (by rw [en]; omega) hb hc hl
  have V1 : VA Z h' h.size .long (List.replicate n.toNatClampNeg (Value.long (0 : Int64))) := VA.new A q
  rw [en] at V1
  refine ⟨T', h', X', e', E, ?_, st⟩
  rw [List.map_replicate]
  exact V1
theorem newB (X : Stand p l e R s m args below meth c T locs cells slots) (hx : p.tables.exec = Jvm.exec) (hZ : Z.Warmed39 s.vm) (w : (Cond.arrayClass .byte).before a0 Z = true) (eT : T.heap = h) {g : JFrame} (hg : g.method = m) (hd : decode c.code g.pc = .ok (.newarray .byte, 2)) {n : Int32} {rest : List Value} (hs : g.stack = .int n :: rest)
    (hn : 0 ≤ n.toInt) {cap : Nat} (hcap : n.toInt ≤ cap) (hb : cap * 8 ≤ 536870912) (hc : cells + 1 ≤ R.cells) (hl : slots + cap ≤ R.slots) :
    ∃ T' h', Stand p l e R s m args below meth c T' locs (cells + 1) (slots + cap) ∧ T'.heap = h' ∧ Ext h h' ∧ VA Z h' h.size .byte ((List.replicate n.toInt.toNat (0 : Int32)).map Value.int) ∧
      ∀ target, Steps p.tables e below (T'.setTop { g with pc := g.pc + 2, stack := .ref h.size :: rest }) target → Steps p.tables e below (T.setTop g) target := by
  have q : ¬ n < 0 := by rw [Int32.lt_iff_toInt_lt]; have k0 : (0 : Int32).toInt = 0 := rfl; omega
  have en : n.toNatClampNeg = n.toInt.toNat := rfl
  obtain ⟨T', h', cA, X', e', E, A, st⟩ := newP X hx hZ (aty := .byte) w eT hg hd hs q (cap := cap) (by rw [en]; omega) hb hc hl
  have V1 : VA Z h' h.size .byte (List.replicate n.toNatClampNeg (Value.int (0 : Int32))) := VA.new A q
  rw [en] at V1
  refine ⟨T', h', X', e', E, ?_, st⟩
  rw [List.map_replicate]
  exact V1
theorem ldZ (X : Stand p l e R s m args below meth c T locs cells slots) (hx : p.tables.exec = Jvm.exec) (hZ : Z.Warmed39 s.vm) (eT : T.heap = h) {vs : List Int32} (F : VA Z h a .boolean (vs.map Value.int)) {j : Int32} (h0 : 0 ≤ j.toInt) (h1 : j.toInt < vs.length)
    {g : JFrame} (hg : g.method = m) {rest : List Value} (hs : g.stack = .int j :: .ref a :: rest) (hd : decode c.code g.pc = .ok (.baload, 1)) (target : State)
    (k : Steps p.tables e below (T.setTop { g with pc := g.pc + 1, stack := .int (vs.getD j.toNatClampNeg 0) :: rest }) target) : Steps p.tables e below (T.setTop g) target := by
  obtain ⟨cl, A, q1, q2, -⟩ := F.inb h0 (by rw [List.length_map]; exact h1)
  have hj := own_nat h0
  refine X.baloadBooleans hx (j := j) (v := .int (vs.getD j.toNatClampNeg 0)) (by rw [eT]; exact A.1) (State.isArrayOf_alike hZ.alike A.2.1) A.2.2 q1 ?_ hg hs hd target k
  rw [q2, List.getElem?_map, List.getD_eq_getElem?_getD, List.getElem?_eq_getElem (by omega)]; rfl
theorem putZ (X : Stand p l e R s m args below meth c T locs cells slots) (hx : p.tables.exec = Jvm.exec) (hZ : Z.Warmed39 s.vm) (eT : T.heap = h) {vs : List Int32} (F : VA Z h a .boolean (vs.map Value.int)) {j x : Int32} (h0 : 0 ≤ j.toInt) (h1 : j.toInt < vs.length)
    {g : JFrame} (hg : g.method = m) {rest : List Value} (hs : g.stack = .int x :: .int j :: .ref a :: rest) (hd : decode c.code g.pc = .ok (.bastore, 1)) :
    ∃ T' h', Stand p l e R s m args below meth c T' (locs ++ [⟨a, j.toNatClampNeg⟩]) cells slots ∧ T'.heap = h' ∧ Wr h h' a j.toNatClampNeg (.int (nar .boolean x)) ∧ VA Z h' a .boolean ((vs.set j.toNatClampNeg (nar .boolean x)).map Value.int) ∧ ∀ target, Steps p.tables e below (T'.setTop { g with pc := g.pc + 1, stack := rest }) target → Steps p.tables e below (T.setTop g) target := by
  obtain ⟨cl, A, q1, q2, q3⟩ := F.inb h0 (by rw [List.length_map]; exact h1)
  obtain ⟨T', h', X', e', W, st⟩ := stZ X hx hZ eT A q1 hg hs hd
  exact ⟨T', h', X', e', W, by rw [List.map_set]; exact q3 _ _ W, st⟩
theorem newZ (X : Stand p l e R s m args below meth c T locs cells slots) (hx : p.tables.exec = Jvm.exec) (hZ : Z.Warmed39 s.vm) (w : (Cond.arrayClass .boolean).before a0 Z = true) (eT : T.heap = h) {g : JFrame} (hg : g.method = m) (hd : decode c.code g.pc = .ok (.newarray .boolean, 2)) {n : Int32} {rest : List Value} (hs : g.stack = .int n :: rest)
    (hn : 0 ≤ n.toInt) {cap : Nat} (hcap : n.toInt ≤ cap) (hb : cap * 8 ≤ 536870912) (hc : cells + 1 ≤ R.cells) (hl : slots + cap ≤ R.slots) :
    ∃ T' h', Stand p l e R s m args below meth c T' locs (cells + 1) (slots + cap) ∧ T'.heap = h' ∧ Ext h h' ∧ VA Z h' h.size .boolean ((List.replicate n.toInt.toNat (0 : Int32)).map Value.int) ∧
      ∀ target, Steps p.tables e below (T'.setTop { g with pc := g.pc + 2, stack := .ref h.size :: rest }) target → Steps p.tables e below (T.setTop g) target := by
  have q : ¬ n < 0 := by rw [Int32.lt_iff_toInt_lt]; have k0 : (0 : Int32).toInt = 0 := rfl; omega
  have en : n.toNatClampNeg = n.toInt.toNat := rfl
  obtain ⟨T', h', cA, X', e', E, A, st⟩ := newP X hx hZ (aty := .boolean) w eT hg hd hs q (cap := cap) (by rw [en]; omega) hb hc hl
  have V1 : VA Z h' h.size .boolean (List.replicate n.toNatClampNeg (Value.int (0 : Int32))) := VA.new A q
  rw [en] at V1
  refine ⟨T', h', X', e', E, ?_, st⟩
  rw [List.map_replicate]
  exact V1
end Steps2
end New
end Jvm.RoadKit
namespace Jvm.Pilot.@@N@@
open Jvm Jvm.ClassFile Sem Op Lib Jvm.Free Jvm.Stand Jvm.LawKit Jvm.RoadKit Bundle Jvm.Pilot.@@N@@.Jvm.D
theorem d1_0 : decode prog_12_method_6_code 0 = .ok (.aconst_null, 1) := by decide +kernel
theorem d1_1 : decode prog_12_method_6_code 1 = .ok (.astore_n 1, 1) := by decide +kernel
theorem d1_2 : decode prog_12_method_6_code 2 = .ok (.getstatic 60, 3) := by decide +kernel
theorem d1_5 : decode prog_12_method_6_code 5 = .ok (.astore_n 2, 1) := by decide +kernel
theorem d1_6 : decode prog_12_method_6_code 6 = .ok (.aload_n 2, 1) := by decide +kernel
theorem d1_7 : decode prog_12_method_6_code 7 = .ok (.arraylength, 1) := by decide +kernel
theorem d1_8 : decode prog_12_method_6_code 8 = .ok (.istore_n 3, 1) := by decide +kernel
theorem d1_9 : decode prog_12_method_6_code 9 = .ok (.iconst 0, 1) := by decide +kernel
theorem d1_10 : decode prog_12_method_6_code 10 = .ok (.istore 4, 2) := by decide +kernel
theorem d1_12 : decode prog_12_method_6_code 12 = .ok (.iload 4, 2) := by decide +kernel
theorem d1_14 : decode prog_12_method_6_code 14 = .ok (.iload_n 3, 1) := by decide +kernel
theorem d1_15 : decode prog_12_method_6_code 15 = .ok (.if_icmp .ge 30, 3) := by decide +kernel
theorem d1_18 : decode prog_12_method_6_code 18 = .ok (.aload_n 2, 1) := by decide +kernel
theorem d1_19 : decode prog_12_method_6_code 19 = .ok (.iload 4, 2) := by decide +kernel
theorem d1_21 : decode prog_12_method_6_code 21 = .ok (.aaload, 1) := by decide +kernel
theorem d1_22 : decode prog_12_method_6_code 22 = .ok (.astore 5, 2) := by decide +kernel
theorem d1_24 : decode prog_12_method_6_code 24 = .ok (.aload 5, 2) := by decide +kernel
theorem d1_26 : decode prog_12_method_6_code 26 = .ok (.getfield 52, 3) := by decide +kernel
theorem d1_29 : decode prog_12_method_6_code 29 = .ok (.iload_n 0, 1) := by decide +kernel
theorem d1_30 : decode prog_12_method_6_code 30 = .ok (.if_icmp .ne 9, 3) := by decide +kernel
theorem d1_33 : decode prog_12_method_6_code 33 = .ok (.aload 5, 2) := by decide +kernel
theorem d1_35 : decode prog_12_method_6_code 35 = .ok (.astore_n 1, 1) := by decide +kernel
theorem d1_36 : decode prog_12_method_6_code 36 = .ok (.goto 9, 3) := by decide +kernel
theorem d1_39 : decode prog_12_method_6_code 39 = .ok (.iinc 4 1, 3) := by decide +kernel
theorem d1_42 : decode prog_12_method_6_code 42 = .ok (.goto (-30), 3) := by decide +kernel
theorem d1_45 : decode prog_12_method_6_code 45 = .ok (.aload_n 1, 1) := by decide +kernel
theorem d1_46 : decode prog_12_method_6_code 46 = .ok (.areturn, 1) := by decide +kernel
theorem pn_0 : plainName "com/example/talthybius/talthybius/FrameType" = true := by first | (simp [plainName, overriddenIn]; done) | decide +kernel
theorem ef_froF (m : MethodId) (x0 : Int32) : entryFrame m #[(.int x0)] 6 = mkF m 0 #[.val (.int x0), .unset, .unset, .unset, .unset, .unset] [] := by first | (simp [entryFrame, mkF, argsToLocals, Value.category]; done) | rfl
def froF (p1 : Int32) (aT : Addr) (d0 : Addr) (d1 : Addr) (d2 : Addr) (d3 : Addr) (d4 : Addr) (d5 : Addr) (d6 : Addr) (d7 : Addr) (d8 : Addr) : Value := (if (0 : Int32) = p1 then (.ref d0) else (if (1 : Int32) = p1 then (.ref d1) else (if (2 : Int32) = p1 then (.ref d2) else (if (3 : Int32) = p1 then (.ref d3) else (if (4 : Int32) = p1 then (.ref d4) else (if (5 : Int32) = p1 then (.ref d5) else (if (6 : Int32) = p1 then (.ref d6) else (if (7 : Int32) = p1 then (.ref d7) else (if (8 : Int32) = p1 then (.ref d8) else .null)))))))))
def QfroF (Z : State) (p1 : Int32) (aT : Addr) (d0 : Addr) (d1 : Addr) (d2 : Addr) (d3 : Addr) (d4 : Addr) (d5 : Addr) (d6 : Addr) (d7 : Addr) (d8 : Addr) (RES : Value) (h0 : Heap) (n0 : Nat) (v : Option Value) (h : Heap) (L : List Loc) : Prop := v = some RES ∧ Fr n0 L ∧ h = h0
set_option maxRecDepth 65536 in
set_option maxHeartbeats 40000000 in
theorem rm_froF (l : Launch) (Z : State) (a0 : Array Value) (hw : ∀ d ∈ tables_1, d.before a0 Z = true) (ws : List Jvm.Cond) (p1 : Int32) (aT : Addr) (d0 : Addr) (d1 : Addr) (d2 : Addr) (d3 : Addr) (d4 : Addr) (d5 : Addr) (d6 : Addr) (d7 : Addr) (d8 : Addr) (h0 : Heap) (n0 : Nat) (Z0 : n0 ≤ h0.size) (F0 : Sta Z h0 "com/example/talthybius/talthybius/FrameType" "TYPES" "[Lcom/example/talthybius/talthybius/FrameType;" (.ref aT)) (F1 : VA Z h0 aT (.object "com/example/talthybius/talthybius/FrameType") ([d0, d1, d2, d3, d4, d5, d6, d7, d8].map Value.ref)) (F2 : Fld Z h0 d0 "com/example/talthybius/talthybius/FrameType" "code" "I" (.int (0 : Int32))) (F3 : Fld Z h0 d1 "com/example/talthybius/talthybius/FrameType" "code" "I" (.int (1 : Int32))) (F4 : Fld Z h0 d2 "com/example/talthybius/talthybius/FrameType" "code" "I" (.int (2 : Int32))) (F5 : Fld Z h0 d3 "com/example/talthybius/talthybius/FrameType" "code" "I" (.int (3 : Int32))) (F6 : Fld Z h0 d4 "com/example/talthybius/talthybius/FrameType" "code" "I" (.int (4 : Int32))) (F7 : Fld Z h0 d5 "com/example/talthybius/talthybius/FrameType" "code" "I" (.int (5 : Int32))) (F8 : Fld Z h0 d6 "com/example/talthybius/talthybius/FrameType" "code" "I" (.int (6 : Int32))) (F9 : Fld Z h0 d7 "com/example/talthybius/talthybius/FrameType" "code" "I" (.int (7 : Int32))) (F10 : Fld Z h0 d8 "com/example/talthybius/talthybius/FrameType" "code" "I" (.int (8 : Int32))) :
    MetFree l (⟨"com/example/talthybius/talthybius/FrameType", "fromCode", "(I)Lcom/example/talthybius/talthybius/FrameType;"⟩ : MethodName) (head1 (Jvm.Cond.code (⟨"com/example/talthybius/talthybius/FrameType", "fromCode", "(I)Lcom/example/talthybius/talthybius/FrameType;"⟩ : MethodName) prog_12_method_6_code 6 (some (.object "com/example/talthybius/talthybius/FrameType")) :: ws) ({ frames := 0, cells := 0, slots := 0, locals := 0 } : Room)) (fun A_ U => A_ = #[(.int p1)] ∧ Z.Warmed39 U.vm ∧ U.heap = h0) (fun _ _ _ _ _ => True) (fun _ U o U' => ∃ v L, o = .returned v ∧ QfroF Z p1 aT d0 d1 d2 d3 d4 d5 d6 d7 d8 (froF p1 aT d0 d1 d2 d3 d4 d5 d6 d7 d8) h0 n0 v U'.heap L ∧ FrameEnd U o U' L ({ frames := 0, cells := 0, slots := 0, locals := 0 } : Room).cells ({ frames := 0, cells := 0, slots := 0, locals := 0 } : Room).slots) := by
  refine MetFree.of_bodySF (plainFor_of_name pn_0) hisR ?_
  intro p e s m args below meth c s₁ Bd hml0 hP hK
  obtain ⟨rfl, hZ, hh⟩ := hP
  have hx := Bd.exec
  have hby := Bd.bytes
  have hml : c.maxLocals = 6 := hml0
  have hown : s.vm.findClass "com/example/talthybius/talthybius/FrameType" = some m.cls := findClass_of_methodNamed Bd.named
  have hnm := (name_of_methodNamed Bd.named Bd.method).1
  have X0 : Stand p l e ({ frames := 0, cells := 0, slots := 0, locals := 0 } : Room) s m #[(.int p1)] below meth c s₁ [] 0 0 := Stand.of_body Bd
  have e0 : s₁.heap = h0 := by rw [← hh, Bd.state]; rfl
  have N0 := Fr.nil n0
  obtain ⟨RES, hf⟩ : ∃ z, z = froF p1 aT d0 d1 d2 d3 d4 d5 d6 d7 d8 := ⟨_, rfl⟩
  rw [← hf]
  rw [froF] at hf
  suffices HGO : Go p e below s (QfroF Z p1 aT d0 d1 d2 d3 d4 d5 d6 d7 d8 RES h0 n0) ({ frames := 0, cells := 0, slots := 0, locals := 0 } : Room).cells ({ frames := 0, cells := 0, slots := 0, locals := 0 } : Room).slots s₁ (mkF m 0 #[.val (.int p1), .unset, .unset, .unset, .unset, .unset] []) from Go.cast (ef_froF m p1) HGO
  obtain ⟨T1, X1, e1, st1⟩ := getS2 X0 hx hZ hown (host := "") (Or.inl (hw _ (List.mem_of_getElem? (i := 4) rfl))) Via.refl e0 F0 (g := (mkF m 2 #[.val (.int p1), .val .null, .unset, .unset, .unset, .unset] [])) rfl (hb hby d1_2)
  have ln2 : (([d0, d1, d2, d3, d4, d5, d6, d7, d8].map Value.ref).length : Int) = ((9 : Int32)).toInt := (by rfl)
  have ix3 : 0 ≤ ((0 : Int32)).toInt ∧ ((0 : Int32)).toInt < (([d0, d1, d2, d3, d4, d5, d6, d7, d8]).length : Int) := by constructor <;> first | decide | (simp; done)
  obtain ⟨T4, X4, e4, st4⟩ := getF X1 hx hZ hown (host := "") (Or.inl (hw _ (List.mem_of_getElem? (i := 7) rfl))) Via.refl e1 F2 (g := (mkF m 26 #[.val (.int p1), .val .null, .val (.ref aT), .val (.int (9 : Int32)), .val (.int (0 : Int32)), .val (.ref d0)] [(.ref d0)])) rfl rfl (hb hby d1_26)
  refine Go.step (T' := T4) (f' := (mkF m 30 #[.val (.int p1), .val .null, .val (.ref aT), .val (.int (9 : Int32)), .val (.int (0 : Int32)), .val (.ref d0)] [(.int p1), (.int (0 : Int32))])) (fun t kt => ?_) ?_
  · show Steps p.tables e below (s₁.setTop (mkF m 0 #[.val (.int p1), .unset, .unset, .unset, .unset, .unset] [])) _
    refine XS.aconstNull X0.here hx rfl (hb hby d1_0) ?_
    show Steps p.tables e below (s₁.setTop (mkF m 1 #[.val (.int p1), .unset, .unset, .unset, .unset, .unset] [.null])) _
    refine XS.astoreN X0.here hx rfl (hb hby d1_1) rfl rfl (l' := #[.val (.int p1), .val .null, .unset, .unset, .unset, .unset]) rfl ?_
    show Steps p.tables e below (s₁.setTop (mkF m 2 #[.val (.int p1), .val .null, .unset, .unset, .unset, .unset] [])) _
    refine st1 _ ?_
    show Steps p.tables e below (T1.setTop (mkF m 5 #[.val (.int p1), .val .null, .unset, .unset, .unset, .unset] [(.ref aT)])) _
    refine XS.astoreN X1.here hx rfl (hb hby d1_5) rfl rfl (l' := #[.val (.int p1), .val .null, .val (.ref aT), .unset, .unset, .unset]) rfl ?_
    show Steps p.tables e below (T1.setTop (mkF m 6 #[.val (.int p1), .val .null, .val (.ref aT), .unset, .unset, .unset] [])) _
    refine XS.aloadN X1.here hx rfl (hb hby d1_6) rfl rfl ?_
    show Steps p.tables e below (T1.setTop (mkF m 7 #[.val (.int p1), .val .null, .val (.ref aT), .unset, .unset, .unset] [(.ref aT)])) _
    refine lenA X1 hx hZ e1 F1 (n := (9 : Int32)) ln2 (g := (mkF m 7 #[.val (.int p1), .val .null, .val (.ref aT), .unset, .unset, .unset] [(.ref aT)])) rfl rfl (hb hby d1_7) _ ?_
    show Steps p.tables e below (T1.setTop (mkF m 8 #[.val (.int p1), .val .null, .val (.ref aT), .unset, .unset, .unset] [(.int (9 : Int32))])) _
    refine XS.istoreN X1.here hx rfl (hb hby d1_8) rfl (l' := #[.val (.int p1), .val .null, .val (.ref aT), .val (.int (9 : Int32)), .unset, .unset]) rfl ?_
    show Steps p.tables e below (T1.setTop (mkF m 9 #[.val (.int p1), .val .null, .val (.ref aT), .val (.int (9 : Int32)), .unset, .unset] [])) _
    refine XS.iconst X1.here hx rfl (hb hby d1_9) ?_
    show Steps p.tables e below (T1.setTop (mkF m 10 #[.val (.int p1), .val .null, .val (.ref aT), .val (.int (9 : Int32)), .unset, .unset] [(.int (0 : Int32))])) _
    refine XS.istore X1.here hx rfl (hb hby d1_10) rfl (l' := #[.val (.int p1), .val .null, .val (.ref aT), .val (.int (9 : Int32)), .val (.int (0 : Int32)), .unset]) rfl ?_
    show Steps p.tables e below (T1.setTop (mkF m 12 #[.val (.int p1), .val .null, .val (.ref aT), .val (.int (9 : Int32)), .val (.int (0 : Int32)), .unset] [])) _
    refine XS.iload X1.here hx rfl (hb hby d1_12) rfl ?_
    show Steps p.tables e below (T1.setTop (mkF m 14 #[.val (.int p1), .val .null, .val (.ref aT), .val (.int (9 : Int32)), .val (.int (0 : Int32)), .unset] [(.int (0 : Int32))])) _
    refine XS.iloadN X1.here hx rfl (hb hby d1_14) rfl ?_
    show Steps p.tables e below (T1.setTop (mkF m 15 #[.val (.int p1), .val .null, .val (.ref aT), .val (.int (9 : Int32)), .val (.int (0 : Int32)), .unset] [(.int (9 : Int32)), (.int (0 : Int32))])) _
    refine XS.icmpNo X1.here hx rfl (hb hby d1_15) rfl (tlt (by decide : ((0 : Int32) < (9 : Int32)))).2.1 ?_
    show Steps p.tables e below (T1.setTop (mkF m 18 #[.val (.int p1), .val .null, .val (.ref aT), .val (.int (9 : Int32)), .val (.int (0 : Int32)), .unset] [])) _
    refine XS.aloadN X1.here hx rfl (hb hby d1_18) rfl rfl ?_
    show Steps p.tables e below (T1.setTop (mkF m 19 #[.val (.int p1), .val .null, .val (.ref aT), .val (.int (9 : Int32)), .val (.int (0 : Int32)), .unset] [(.ref aT)])) _
    refine XS.iload X1.here hx rfl (hb hby d1_19) rfl ?_
    show Steps p.tables e below (T1.setTop (mkF m 21 #[.val (.int p1), .val .null, .val (.ref aT), .val (.int (9 : Int32)), .val (.int (0 : Int32)), .unset] [(.int (0 : Int32)), (.ref aT)])) _
    refine ldR X1 hx hZ e1 F1 rfl ix3.1 ix3.2 (g := (mkF m 21 #[.val (.int p1), .val .null, .val (.ref aT), .val (.int (9 : Int32)), .val (.int (0 : Int32)), .unset] [(.int (0 : Int32)), (.ref aT)])) rfl rfl (hb hby d1_21) _ ?_
    show Steps p.tables e below (T1.setTop (mkF m 22 #[.val (.int p1), .val .null, .val (.ref aT), .val (.int (9 : Int32)), .val (.int (0 : Int32)), .unset] [(.ref d0)])) _
    refine XS.astore X1.here hx rfl (hb hby d1_22) rfl rfl (l' := #[.val (.int p1), .val .null, .val (.ref aT), .val (.int (9 : Int32)), .val (.int (0 : Int32)), .val (.ref d0)]) rfl ?_
    show Steps p.tables e below (T1.setTop (mkF m 24 #[.val (.int p1), .val .null, .val (.ref aT), .val (.int (9 : Int32)), .val (.int (0 : Int32)), .val (.ref d0)] [])) _
    refine XS.aload X1.here hx rfl (hb hby d1_24) rfl rfl ?_
    show Steps p.tables e below (T1.setTop (mkF m 26 #[.val (.int p1), .val .null, .val (.ref aT), .val (.int (9 : Int32)), .val (.int (0 : Int32)), .val (.ref d0)] [(.ref d0)])) _
    refine st4 _ ?_
    show Steps p.tables e below (T4.setTop (mkF m 29 #[.val (.int p1), .val .null, .val (.ref aT), .val (.int (9 : Int32)), .val (.int (0 : Int32)), .val (.ref d0)] [(.int (0 : Int32))])) _
    refine XS.iloadN X4.here hx rfl (hb hby d1_29) rfl ?_
    exact kt
  by_cases hc5 : (0 : Int32) = p1
  · rw [if_pos hc5] at hf
    refine Go.step (T' := T4) (f' := (mkF m 33 #[.val (.int p1), .val .null, .val (.ref aT), .val (.int (9 : Int32)), .val (.int (0 : Int32)), .val (.ref d0)] [])) (fun t kt => ?_) ?_
    · show Steps p.tables e below (T4.setTop (mkF m 30 #[.val (.int p1), .val .null, .val (.ref aT), .val (.int (9 : Int32)), .val (.int (0 : Int32)), .val (.ref d0)] [(.int p1), (.int (0 : Int32))])) _
      refine XS.icmpNo X4.here hx rfl (hb hby d1_30) rfl (teq hc5).2 ?_
      exact kt
    refine Go.step (T' := T4) (f' := (mkF m 46 #[.val (.int p1), .val (.ref d0), .val (.ref aT), .val (.int (9 : Int32)), .val (.int (0 : Int32)), .val (.ref d0)] [(.ref d0)])) (fun t kt => ?_) ?_
    · show Steps p.tables e below (T4.setTop (mkF m 33 #[.val (.int p1), .val .null, .val (.ref aT), .val (.int (9 : Int32)), .val (.int (0 : Int32)), .val (.ref d0)] [])) _
      refine XS.aload X4.here hx rfl (hb hby d1_33) rfl rfl ?_
      show Steps p.tables e below (T4.setTop (mkF m 35 #[.val (.int p1), .val .null, .val (.ref aT), .val (.int (9 : Int32)), .val (.int (0 : Int32)), .val (.ref d0)] [(.ref d0)])) _
      refine XS.astoreN X4.here hx rfl (hb hby d1_35) rfl rfl (l' := #[.val (.int p1), .val (.ref d0), .val (.ref aT), .val (.int (9 : Int32)), .val (.int (0 : Int32)), .val (.ref d0)]) rfl ?_
      show Steps p.tables e below (T4.setTop (mkF m 36 #[.val (.int p1), .val (.ref d0), .val (.ref aT), .val (.int (9 : Int32)), .val (.int (0 : Int32)), .val (.ref d0)] [])) _
      refine XS.goto X4.here hx rfl (pc0 := 36) (pc' := 45) rfl (hb hby d1_36) (by decide) (by decide) ?_
      show Steps p.tables e below (T4.setTop (mkF m 45 #[.val (.int p1), .val (.ref d0), .val (.ref aT), .val (.int (9 : Int32)), .val (.int (0 : Int32)), .val (.ref d0)] [])) _
      refine XS.aloadN X4.here hx rfl (hb hby d1_45) rfl rfl ?_
      exact kt
    refine Go.fin X4 (v := some (.ref d0)) (fun h => by rw [Bd.returns] at h; cases h) Bd.notSynchronized ?_ (Nat.le_trans (Nat.le_refl 0) (by decide)) (Nat.le_trans (Nat.le_refl 0) (by decide)) (fun fs hr => X4.areturnOut hx rfl Bd.returns rfl (hb hby d1_46) hr)
    · exact ⟨by rw [hf], N0, e4⟩
  · rw [if_neg hc5] at hf
    refine Go.step (T' := T4) (f' := (mkF m 39 #[.val (.int p1), .val .null, .val (.ref aT), .val (.int (9 : Int32)), .val (.int (0 : Int32)), .val (.ref d0)] [])) (fun t kt => ?_) ?_
    · show Steps p.tables e below (T4.setTop (mkF m 30 #[.val (.int p1), .val .null, .val (.ref aT), .val (.int (9 : Int32)), .val (.int (0 : Int32)), .val (.ref d0)] [(.int p1), (.int (0 : Int32))])) _
      refine XS.icmpYes X4.here hx rfl (pc0 := 30) (pc' := 39) rfl (hb hby d1_30) rfl (feq hc5).2 (by decide) (by decide) ?_
      exact kt
    have ix6 : 0 ≤ ((1 : Int32)).toInt ∧ ((1 : Int32)).toInt < (([d0, d1, d2, d3, d4, d5, d6, d7, d8]).length : Int) := by constructor <;> first | decide | (simp; done)
    obtain ⟨T7, X7, e7, st7⟩ := getF X4 hx hZ hown (host := "") (Or.inl (hw _ (List.mem_of_getElem? (i := 7) rfl))) Via.refl e4 F3 (g := (mkF m 26 #[.val (.int p1), .val .null, .val (.ref aT), .val (.int (9 : Int32)), .val (.int (1 : Int32)), .val (.ref d1)] [(.ref d1)])) rfl rfl (hb hby d1_26)
    refine Go.step (T' := T7) (f' := (mkF m 30 #[.val (.int p1), .val .null, .val (.ref aT), .val (.int (9 : Int32)), .val (.int (1 : Int32)), .val (.ref d1)] [(.int p1), (.int (1 : Int32))])) (fun t kt => ?_) ?_
    · show Steps p.tables e below (T4.setTop (mkF m 39 #[.val (.int p1), .val .null, .val (.ref aT), .val (.int (9 : Int32)), .val (.int (0 : Int32)), .val (.ref d0)] [])) _
      refine XS.iinc X4.here hx rfl (hb hby d1_39) rfl (l' := #[.val (.int p1), .val .null, .val (.ref aT), .val (.int (9 : Int32)), .val (.int (1 : Int32)), .val (.ref d0)]) rfl ?_
      show Steps p.tables e below (T4.setTop (mkF m 42 #[.val (.int p1), .val .null, .val (.ref aT), .val (.int (9 : Int32)), .val (.int (1 : Int32)), .val (.ref d0)] [])) _
      refine XS.goto X4.here hx rfl (pc0 := 42) (pc' := 12) rfl (hb hby d1_42) (by decide) (by decide) ?_
      show Steps p.tables e below (T4.setTop (mkF m 12 #[.val (.int p1), .val .null, .val (.ref aT), .val (.int (9 : Int32)), .val (.int (1 : Int32)), .val (.ref d0)] [])) _
      refine XS.iload X4.here hx rfl (hb hby d1_12) rfl ?_
      show Steps p.tables e below (T4.setTop (mkF m 14 #[.val (.int p1), .val .null, .val (.ref aT), .val (.int (9 : Int32)), .val (.int (1 : Int32)), .val (.ref d0)] [(.int (1 : Int32))])) _
      refine XS.iloadN X4.here hx rfl (hb hby d1_14) rfl ?_
      show Steps p.tables e below (T4.setTop (mkF m 15 #[.val (.int p1), .val .null, .val (.ref aT), .val (.int (9 : Int32)), .val (.int (1 : Int32)), .val (.ref d0)] [(.int (9 : Int32)), (.int (1 : Int32))])) _
      refine XS.icmpNo X4.here hx rfl (hb hby d1_15) rfl (tlt (by decide : ((1 : Int32) < (9 : Int32)))).2.1 ?_
      show Steps p.tables e below (T4.setTop (mkF m 18 #[.val (.int p1), .val .null, .val (.ref aT), .val (.int (9 : Int32)), .val (.int (1 : Int32)), .val (.ref d0)] [])) _
      refine XS.aloadN X4.here hx rfl (hb hby d1_18) rfl rfl ?_
      show Steps p.tables e below (T4.setTop (mkF m 19 #[.val (.int p1), .val .null, .val (.ref aT), .val (.int (9 : Int32)), .val (.int (1 : Int32)), .val (.ref d0)] [(.ref aT)])) _
      refine XS.iload X4.here hx rfl (hb hby d1_19) rfl ?_
      show Steps p.tables e below (T4.setTop (mkF m 21 #[.val (.int p1), .val .null, .val (.ref aT), .val (.int (9 : Int32)), .val (.int (1 : Int32)), .val (.ref d0)] [(.int (1 : Int32)), (.ref aT)])) _
      refine ldR X4 hx hZ e4 F1 rfl ix6.1 ix6.2 (g := (mkF m 21 #[.val (.int p1), .val .null, .val (.ref aT), .val (.int (9 : Int32)), .val (.int (1 : Int32)), .val (.ref d0)] [(.int (1 : Int32)), (.ref aT)])) rfl rfl (hb hby d1_21) _ ?_
      show Steps p.tables e below (T4.setTop (mkF m 22 #[.val (.int p1), .val .null, .val (.ref aT), .val (.int (9 : Int32)), .val (.int (1 : Int32)), .val (.ref d0)] [(.ref d1)])) _
      refine XS.astore X4.here hx rfl (hb hby d1_22) rfl rfl (l' := #[.val (.int p1), .val .null, .val (.ref aT), .val (.int (9 : Int32)), .val (.int (1 : Int32)), .val (.ref d1)]) rfl ?_
      show Steps p.tables e below (T4.setTop (mkF m 24 #[.val (.int p1), .val .null, .val (.ref aT), .val (.int (9 : Int32)), .val (.int (1 : Int32)), .val (.ref d1)] [])) _
      refine XS.aload X4.here hx rfl (hb hby d1_24) rfl rfl ?_
      show Steps p.tables e below (T4.setTop (mkF m 26 #[.val (.int p1), .val .null, .val (.ref aT), .val (.int (9 : Int32)), .val (.int (1 : Int32)), .val (.ref d1)] [(.ref d1)])) _
      refine st7 _ ?_
      show Steps p.tables e below (T7.setTop (mkF m 29 #[.val (.int p1), .val .null, .val (.ref aT), .val (.int (9 : Int32)), .val (.int (1 : Int32)), .val (.ref d1)] [(.int (1 : Int32))])) _
      refine XS.iloadN X7.here hx rfl (hb hby d1_29) rfl ?_
      exact kt
    by_cases hc8 : (1 : Int32) = p1
    · rw [if_pos hc8] at hf
      refine Go.step (T' := T7) (f' := (mkF m 33 #[.val (.int p1), .val .null, .val (.ref aT), .val (.int (9 : Int32)), .val (.int (1 : Int32)), .val (.ref d1)] [])) (fun t kt => ?_) ?_
      · show Steps p.tables e below (T7.setTop (mkF m 30 #[.val (.int p1), .val .null, .val (.ref aT), .val (.int (9 : Int32)), .val (.int (1 : Int32)), .val (.ref d1)] [(.int p1), (.int (1 : Int32))])) _
        refine XS.icmpNo X7.here hx rfl (hb hby d1_30) rfl (teq hc8).2 ?_
        exact kt
      refine Go.step (T' := T7) (f' := (mkF m 46 #[.val (.int p1), .val (.ref d1), .val (.ref aT), .val (.int (9 : Int32)), .val (.int (1 : Int32)), .val (.ref d1)] [(.ref d1)])) (fun t kt => ?_) ?_
      · show Steps p.tables e below (T7.setTop (mkF m 33 #[.val (.int p1), .val .null, .val (.ref aT), .val (.int (9 : Int32)), .val (.int (1 : Int32)), .val (.ref d1)] [])) _
        refine XS.aload X7.here hx rfl (hb hby d1_33) rfl rfl ?_
        show Steps p.tables e below (T7.setTop (mkF m 35 #[.val (.int p1), .val .null, .val (.ref aT), .val (.int (9 : Int32)), .val (.int (1 : Int32)), .val (.ref d1)] [(.ref d1)])) _
        refine XS.astoreN X7.here hx rfl (hb hby d1_35) rfl rfl (l' := #[.val (.int p1), .val (.ref d1), .val (.ref aT), .val (.int (9 : Int32)), .val (.int (1 : Int32)), .val (.ref d1)]) rfl ?_
        show Steps p.tables e below (T7.setTop (mkF m 36 #[.val (.int p1), .val (.ref d1), .val (.ref aT), .val (.int (9 : Int32)), .val (.int (1 : Int32)), .val (.ref d1)] [])) _
        refine XS.goto X7.here hx rfl (pc0 := 36) (pc' := 45) rfl (hb hby d1_36) (by decide) (by decide) ?_
        show Steps p.tables e below (T7.setTop (mkF m 45 #[.val (.int p1), .val (.ref d1), .val (.ref aT), .val (.int (9 : Int32)), .val (.int (1 : Int32)), .val (.ref d1)] [])) _
        refine XS.aloadN X7.here hx rfl (hb hby d1_45) rfl rfl ?_
        exact kt
      refine Go.fin X7 (v := some (.ref d1)) (fun h => by rw [Bd.returns] at h; cases h) Bd.notSynchronized ?_ (Nat.le_trans (Nat.le_refl 0) (by decide)) (Nat.le_trans (Nat.le_refl 0) (by decide)) (fun fs hr => X7.areturnOut hx rfl Bd.returns rfl (hb hby d1_46) hr)
      · exact ⟨by rw [hf], N0, e7⟩
    · rw [if_neg hc8] at hf
      refine Go.step (T' := T7) (f' := (mkF m 39 #[.val (.int p1), .val .null, .val (.ref aT), .val (.int (9 : Int32)), .val (.int (1 : Int32)), .val (.ref d1)] [])) (fun t kt => ?_) ?_
      · show Steps p.tables e below (T7.setTop (mkF m 30 #[.val (.int p1), .val .null, .val (.ref aT), .val (.int (9 : Int32)), .val (.int (1 : Int32)), .val (.ref d1)] [(.int p1), (.int (1 : Int32))])) _
        refine XS.icmpYes X7.here hx rfl (pc0 := 30) (pc' := 39) rfl (hb hby d1_30) rfl (feq hc8).2 (by decide) (by decide) ?_
        exact kt
      have ix9 : 0 ≤ ((2 : Int32)).toInt ∧ ((2 : Int32)).toInt < (([d0, d1, d2, d3, d4, d5, d6, d7, d8]).length : Int) := by constructor <;> first | decide | (simp; done)
      obtain ⟨T10, X10, e10, st10⟩ := getF X7 hx hZ hown (host := "") (Or.inl (hw _ (List.mem_of_getElem? (i := 7) rfl))) Via.refl e7 F4 (g := (mkF m 26 #[.val (.int p1), .val .null, .val (.ref aT), .val (.int (9 : Int32)), .val (.int (2 : Int32)), .val (.ref d2)] [(.ref d2)])) rfl rfl (hb hby d1_26)
      refine Go.step (T' := T10) (f' := (mkF m 30 #[.val (.int p1), .val .null, .val (.ref aT), .val (.int (9 : Int32)), .val (.int (2 : Int32)), .val (.ref d2)] [(.int p1), (.int (2 : Int32))])) (fun t kt => ?_) ?_
      · show Steps p.tables e below (T7.setTop (mkF m 39 #[.val (.int p1), .val .null, .val (.ref aT), .val (.int (9 : Int32)), .val (.int (1 : Int32)), .val (.ref d1)] [])) _
        refine XS.iinc X7.here hx rfl (hb hby d1_39) rfl (l' := #[.val (.int p1), .val .null, .val (.ref aT), .val (.int (9 : Int32)), .val (.int (2 : Int32)), .val (.ref d1)]) rfl ?_
        show Steps p.tables e below (T7.setTop (mkF m 42 #[.val (.int p1), .val .null, .val (.ref aT), .val (.int (9 : Int32)), .val (.int (2 : Int32)), .val (.ref d1)] [])) _
        refine XS.goto X7.here hx rfl (pc0 := 42) (pc' := 12) rfl (hb hby d1_42) (by decide) (by decide) ?_
        show Steps p.tables e below (T7.setTop (mkF m 12 #[.val (.int p1), .val .null, .val (.ref aT), .val (.int (9 : Int32)), .val (.int (2 : Int32)), .val (.ref d1)] [])) _
        refine XS.iload X7.here hx rfl (hb hby d1_12) rfl ?_
        show Steps p.tables e below (T7.setTop (mkF m 14 #[.val (.int p1), .val .null, .val (.ref aT), .val (.int (9 : Int32)), .val (.int (2 : Int32)), .val (.ref d1)] [(.int (2 : Int32))])) _
        refine XS.iloadN X7.here hx rfl (hb hby d1_14) rfl ?_
        show Steps p.tables e below (T7.setTop (mkF m 15 #[.val (.int p1), .val .null, .val (.ref aT), .val (.int (9 : Int32)), .val (.int (2 : Int32)), .val (.ref d1)] [(.int (9 : Int32)), (.int (2 : Int32))])) _
        refine XS.icmpNo X7.here hx rfl (hb hby d1_15) rfl (tlt (by decide : ((2 : Int32) < (9 : Int32)))).2.1 ?_
        show Steps p.tables e below (T7.setTop (mkF m 18 #[.val (.int p1), .val .null, .val (.ref aT), .val (.int (9 : Int32)), .val (.int (2 : Int32)), .val (.ref d1)] [])) _
        refine XS.aloadN X7.here hx rfl (hb hby d1_18) rfl rfl ?_
        show Steps p.tables e below (T7.setTop (mkF m 19 #[.val (.int p1), .val .null, .val (.ref aT), .val (.int (9 : Int32)), .val (.int (2 : Int32)), .val (.ref d1)] [(.ref aT)])) _
        refine XS.iload X7.here hx rfl (hb hby d1_19) rfl ?_
        show Steps p.tables e below (T7.setTop (mkF m 21 #[.val (.int p1), .val .null, .val (.ref aT), .val (.int (9 : Int32)), .val (.int (2 : Int32)), .val (.ref d1)] [(.int (2 : Int32)), (.ref aT)])) _
        refine ldR X7 hx hZ e7 F1 rfl ix9.1 ix9.2 (g := (mkF m 21 #[.val (.int p1), .val .null, .val (.ref aT), .val (.int (9 : Int32)), .val (.int (2 : Int32)), .val (.ref d1)] [(.int (2 : Int32)), (.ref aT)])) rfl rfl (hb hby d1_21) _ ?_
        show Steps p.tables e below (T7.setTop (mkF m 22 #[.val (.int p1), .val .null, .val (.ref aT), .val (.int (9 : Int32)), .val (.int (2 : Int32)), .val (.ref d1)] [(.ref d2)])) _
        refine XS.astore X7.here hx rfl (hb hby d1_22) rfl rfl (l' := #[.val (.int p1), .val .null, .val (.ref aT), .val (.int (9 : Int32)), .val (.int (2 : Int32)), .val (.ref d2)]) rfl ?_
        show Steps p.tables e below (T7.setTop (mkF m 24 #[.val (.int p1), .val .null, .val (.ref aT), .val (.int (9 : Int32)), .val (.int (2 : Int32)), .val (.ref d2)] [])) _
        refine XS.aload X7.here hx rfl (hb hby d1_24) rfl rfl ?_
        show Steps p.tables e below (T7.setTop (mkF m 26 #[.val (.int p1), .val .null, .val (.ref aT), .val (.int (9 : Int32)), .val (.int (2 : Int32)), .val (.ref d2)] [(.ref d2)])) _
        refine st10 _ ?_
        show Steps p.tables e below (T10.setTop (mkF m 29 #[.val (.int p1), .val .null, .val (.ref aT), .val (.int (9 : Int32)), .val (.int (2 : Int32)), .val (.ref d2)] [(.int (2 : Int32))])) _
        refine XS.iloadN X10.here hx rfl (hb hby d1_29) rfl ?_
        exact kt
      by_cases hc11 : (2 : Int32) = p1
      · rw [if_pos hc11] at hf
        refine Go.step (T' := T10) (f' := (mkF m 33 #[.val (.int p1), .val .null, .val (.ref aT), .val (.int (9 : Int32)), .val (.int (2 : Int32)), .val (.ref d2)] [])) (fun t kt => ?_) ?_
        · show Steps p.tables e below (T10.setTop (mkF m 30 #[.val (.int p1), .val .null, .val (.ref aT), .val (.int (9 : Int32)), .val (.int (2 : Int32)), .val (.ref d2)] [(.int p1), (.int (2 : Int32))])) _
          refine XS.icmpNo X10.here hx rfl (hb hby d1_30) rfl (teq hc11).2 ?_
          exact kt
        refine Go.step (T' := T10) (f' := (mkF m 46 #[.val (.int p1), .val (.ref d2), .val (.ref aT), .val (.int (9 : Int32)), .val (.int (2 : Int32)), .val (.ref d2)] [(.ref d2)])) (fun t kt => ?_) ?_
        · show Steps p.tables e below (T10.setTop (mkF m 33 #[.val (.int p1), .val .null, .val (.ref aT), .val (.int (9 : Int32)), .val (.int (2 : Int32)), .val (.ref d2)] [])) _
          refine XS.aload X10.here hx rfl (hb hby d1_33) rfl rfl ?_
          show Steps p.tables e below (T10.setTop (mkF m 35 #[.val (.int p1), .val .null, .val (.ref aT), .val (.int (9 : Int32)), .val (.int (2 : Int32)), .val (.ref d2)] [(.ref d2)])) _
          refine XS.astoreN X10.here hx rfl (hb hby d1_35) rfl rfl (l' := #[.val (.int p1), .val (.ref d2), .val (.ref aT), .val (.int (9 : Int32)), .val (.int (2 : Int32)), .val (.ref d2)]) rfl ?_
          show Steps p.tables e below (T10.setTop (mkF m 36 #[.val (.int p1), .val (.ref d2), .val (.ref aT), .val (.int (9 : Int32)), .val (.int (2 : Int32)), .val (.ref d2)] [])) _
          refine XS.goto X10.here hx rfl (pc0 := 36) (pc' := 45) rfl (hb hby d1_36) (by decide) (by decide) ?_
          show Steps p.tables e below (T10.setTop (mkF m 45 #[.val (.int p1), .val (.ref d2), .val (.ref aT), .val (.int (9 : Int32)), .val (.int (2 : Int32)), .val (.ref d2)] [])) _
          refine XS.aloadN X10.here hx rfl (hb hby d1_45) rfl rfl ?_
          exact kt
        refine Go.fin X10 (v := some (.ref d2)) (fun h => by rw [Bd.returns] at h; cases h) Bd.notSynchronized ?_ (Nat.le_trans (Nat.le_refl 0) (by decide)) (Nat.le_trans (Nat.le_refl 0) (by decide)) (fun fs hr => X10.areturnOut hx rfl Bd.returns rfl (hb hby d1_46) hr)
        · exact ⟨by rw [hf], N0, e10⟩
      · rw [if_neg hc11] at hf
        refine Go.step (T' := T10) (f' := (mkF m 39 #[.val (.int p1), .val .null, .val (.ref aT), .val (.int (9 : Int32)), .val (.int (2 : Int32)), .val (.ref d2)] [])) (fun t kt => ?_) ?_
        · show Steps p.tables e below (T10.setTop (mkF m 30 #[.val (.int p1), .val .null, .val (.ref aT), .val (.int (9 : Int32)), .val (.int (2 : Int32)), .val (.ref d2)] [(.int p1), (.int (2 : Int32))])) _
          refine XS.icmpYes X10.here hx rfl (pc0 := 30) (pc' := 39) rfl (hb hby d1_30) rfl (feq hc11).2 (by decide) (by decide) ?_
          exact kt
        have ix12 : 0 ≤ ((3 : Int32)).toInt ∧ ((3 : Int32)).toInt < (([d0, d1, d2, d3, d4, d5, d6, d7, d8]).length : Int) := by constructor <;> first | decide | (simp; done)
        obtain ⟨T13, X13, e13, st13⟩ := getF X10 hx hZ hown (host := "") (Or.inl (hw _ (List.mem_of_getElem? (i := 7) rfl))) Via.refl e10 F5 (g := (mkF m 26 #[.val (.int p1), .val .null, .val (.ref aT), .val (.int (9 : Int32)), .val (.int (3 : Int32)), .val (.ref d3)] [(.ref d3)])) rfl rfl (hb hby d1_26)
        refine Go.step (T' := T13) (f' := (mkF m 30 #[.val (.int p1), .val .null, .val (.ref aT), .val (.int (9 : Int32)), .val (.int (3 : Int32)), .val (.ref d3)] [(.int p1), (.int (3 : Int32))])) (fun t kt => ?_) ?_
        · show Steps p.tables e below (T10.setTop (mkF m 39 #[.val (.int p1), .val .null, .val (.ref aT), .val (.int (9 : Int32)), .val (.int (2 : Int32)), .val (.ref d2)] [])) _
          refine XS.iinc X10.here hx rfl (hb hby d1_39) rfl (l' := #[.val (.int p1), .val .null, .val (.ref aT), .val (.int (9 : Int32)), .val (.int (3 : Int32)), .val (.ref d2)]) rfl ?_
          show Steps p.tables e below (T10.setTop (mkF m 42 #[.val (.int p1), .val .null, .val (.ref aT), .val (.int (9 : Int32)), .val (.int (3 : Int32)), .val (.ref d2)] [])) _
          refine XS.goto X10.here hx rfl (pc0 := 42) (pc' := 12) rfl (hb hby d1_42) (by decide) (by decide) ?_
          show Steps p.tables e below (T10.setTop (mkF m 12 #[.val (.int p1), .val .null, .val (.ref aT), .val (.int (9 : Int32)), .val (.int (3 : Int32)), .val (.ref d2)] [])) _
          refine XS.iload X10.here hx rfl (hb hby d1_12) rfl ?_
          show Steps p.tables e below (T10.setTop (mkF m 14 #[.val (.int p1), .val .null, .val (.ref aT), .val (.int (9 : Int32)), .val (.int (3 : Int32)), .val (.ref d2)] [(.int (3 : Int32))])) _
          refine XS.iloadN X10.here hx rfl (hb hby d1_14) rfl ?_
          show Steps p.tables e below (T10.setTop (mkF m 15 #[.val (.int p1), .val .null, .val (.ref aT), .val (.int (9 : Int32)), .val (.int (3 : Int32)), .val (.ref d2)] [(.int (9 : Int32)), (.int (3 : Int32))])) _
          refine XS.icmpNo X10.here hx rfl (hb hby d1_15) rfl (tlt (by decide : ((3 : Int32) < (9 : Int32)))).2.1 ?_
          show Steps p.tables e below (T10.setTop (mkF m 18 #[.val (.int p1), .val .null, .val (.ref aT), .val (.int (9 : Int32)), .val (.int (3 : Int32)), .val (.ref d2)] [])) _
          refine XS.aloadN X10.here hx rfl (hb hby d1_18) rfl rfl ?_
          show Steps p.tables e below (T10.setTop (mkF m 19 #[.val (.int p1), .val .null, .val (.ref aT), .val (.int (9 : Int32)), .val (.int (3 : Int32)), .val (.ref d2)] [(.ref aT)])) _
          refine XS.iload X10.here hx rfl (hb hby d1_19) rfl ?_
          show Steps p.tables e below (T10.setTop (mkF m 21 #[.val (.int p1), .val .null, .val (.ref aT), .val (.int (9 : Int32)), .val (.int (3 : Int32)), .val (.ref d2)] [(.int (3 : Int32)), (.ref aT)])) _
          refine ldR X10 hx hZ e10 F1 rfl ix12.1 ix12.2 (g := (mkF m 21 #[.val (.int p1), .val .null, .val (.ref aT), .val (.int (9 : Int32)), .val (.int (3 : Int32)), .val (.ref d2)] [(.int (3 : Int32)), (.ref aT)])) rfl rfl (hb hby d1_21) _ ?_
          show Steps p.tables e below (T10.setTop (mkF m 22 #[.val (.int p1), .val .null, .val (.ref aT), .val (.int (9 : Int32)), .val (.int (3 : Int32)), .val (.ref d2)] [(.ref d3)])) _
          refine XS.astore X10.here hx rfl (hb hby d1_22) rfl rfl (l' := #[.val (.int p1), .val .null, .val (.ref aT), .val (.int (9 : Int32)), .val (.int (3 : Int32)), .val (.ref d3)]) rfl ?_
          show Steps p.tables e below (T10.setTop (mkF m 24 #[.val (.int p1), .val .null, .val (.ref aT), .val (.int (9 : Int32)), .val (.int (3 : Int32)), .val (.ref d3)] [])) _
          refine XS.aload X10.here hx rfl (hb hby d1_24) rfl rfl ?_
          show Steps p.tables e below (T10.setTop (mkF m 26 #[.val (.int p1), .val .null, .val (.ref aT), .val (.int (9 : Int32)), .val (.int (3 : Int32)), .val (.ref d3)] [(.ref d3)])) _
          refine st13 _ ?_
          show Steps p.tables e below (T13.setTop (mkF m 29 #[.val (.int p1), .val .null, .val (.ref aT), .val (.int (9 : Int32)), .val (.int (3 : Int32)), .val (.ref d3)] [(.int (3 : Int32))])) _
          refine XS.iloadN X13.here hx rfl (hb hby d1_29) rfl ?_
          exact kt
        by_cases hc14 : (3 : Int32) = p1
        · rw [if_pos hc14] at hf
          refine Go.step (T' := T13) (f' := (mkF m 33 #[.val (.int p1), .val .null, .val (.ref aT), .val (.int (9 : Int32)), .val (.int (3 : Int32)), .val (.ref d3)] [])) (fun t kt => ?_) ?_
          · show Steps p.tables e below (T13.setTop (mkF m 30 #[.val (.int p1), .val .null, .val (.ref aT), .val (.int (9 : Int32)), .val (.int (3 : Int32)), .val (.ref d3)] [(.int p1), (.int (3 : Int32))])) _
            refine XS.icmpNo X13.here hx rfl (hb hby d1_30) rfl (teq hc14).2 ?_
            exact kt
          refine Go.step (T' := T13) (f' := (mkF m 46 #[.val (.int p1), .val (.ref d3), .val (.ref aT), .val (.int (9 : Int32)), .val (.int (3 : Int32)), .val (.ref d3)] [(.ref d3)])) (fun t kt => ?_) ?_
          · show Steps p.tables e below (T13.setTop (mkF m 33 #[.val (.int p1), .val .null, .val (.ref aT), .val (.int (9 : Int32)), .val (.int (3 : Int32)), .val (.ref d3)] [])) _
            refine XS.aload X13.here hx rfl (hb hby d1_33) rfl rfl ?_
            show Steps p.tables e below (T13.setTop (mkF m 35 #[.val (.int p1), .val .null, .val (.ref aT), .val (.int (9 : Int32)), .val (.int (3 : Int32)), .val (.ref d3)] [(.ref d3)])) _
            refine XS.astoreN X13.here hx rfl (hb hby d1_35) rfl rfl (l' := #[.val (.int p1), .val (.ref d3), .val (.ref aT), .val (.int (9 : Int32)), .val (.int (3 : Int32)), .val (.ref d3)]) rfl ?_
            show Steps p.tables e below (T13.setTop (mkF m 36 #[.val (.int p1), .val (.ref d3), .val (.ref aT), .val (.int (9 : Int32)), .val (.int (3 : Int32)), .val (.ref d3)] [])) _
            refine XS.goto X13.here hx rfl (pc0 := 36) (pc' := 45) rfl (hb hby d1_36) (by decide) (by decide) ?_
            show Steps p.tables e below (T13.setTop (mkF m 45 #[.val (.int p1), .val (.ref d3), .val (.ref aT), .val (.int (9 : Int32)), .val (.int (3 : Int32)), .val (.ref d3)] [])) _
            refine XS.aloadN X13.here hx rfl (hb hby d1_45) rfl rfl ?_
            exact kt
          refine Go.fin X13 (v := some (.ref d3)) (fun h => by rw [Bd.returns] at h; cases h) Bd.notSynchronized ?_ (Nat.le_trans (Nat.le_refl 0) (by decide)) (Nat.le_trans (Nat.le_refl 0) (by decide)) (fun fs hr => X13.areturnOut hx rfl Bd.returns rfl (hb hby d1_46) hr)
          · exact ⟨by rw [hf], N0, e13⟩
        · rw [if_neg hc14] at hf
          refine Go.step (T' := T13) (f' := (mkF m 39 #[.val (.int p1), .val .null, .val (.ref aT), .val (.int (9 : Int32)), .val (.int (3 : Int32)), .val (.ref d3)] [])) (fun t kt => ?_) ?_
          · show Steps p.tables e below (T13.setTop (mkF m 30 #[.val (.int p1), .val .null, .val (.ref aT), .val (.int (9 : Int32)), .val (.int (3 : Int32)), .val (.ref d3)] [(.int p1), (.int (3 : Int32))])) _
            refine XS.icmpYes X13.here hx rfl (pc0 := 30) (pc' := 39) rfl (hb hby d1_30) rfl (feq hc14).2 (by decide) (by decide) ?_
            exact kt
          have ix15 : 0 ≤ ((4 : Int32)).toInt ∧ ((4 : Int32)).toInt < (([d0, d1, d2, d3, d4, d5, d6, d7, d8]).length : Int) := by constructor <;> first | decide | (simp; done)
          obtain ⟨T16, X16, e16, st16⟩ := getF X13 hx hZ hown (host := "") (Or.inl (hw _ (List.mem_of_getElem? (i := 7) rfl))) Via.refl e13 F6 (g := (mkF m 26 #[.val (.int p1), .val .null, .val (.ref aT), .val (.int (9 : Int32)), .val (.int (4 : Int32)), .val (.ref d4)] [(.ref d4)])) rfl rfl (hb hby d1_26)
          refine Go.step (T' := T16) (f' := (mkF m 30 #[.val (.int p1), .val .null, .val (.ref aT), .val (.int (9 : Int32)), .val (.int (4 : Int32)), .val (.ref d4)] [(.int p1), (.int (4 : Int32))])) (fun t kt => ?_) ?_
          · show Steps p.tables e below (T13.setTop (mkF m 39 #[.val (.int p1), .val .null, .val (.ref aT), .val (.int (9 : Int32)), .val (.int (3 : Int32)), .val (.ref d3)] [])) _
            refine XS.iinc X13.here hx rfl (hb hby d1_39) rfl (l' := #[.val (.int p1), .val .null, .val (.ref aT), .val (.int (9 : Int32)), .val (.int (4 : Int32)), .val (.ref d3)]) rfl ?_
            show Steps p.tables e below (T13.setTop (mkF m 42 #[.val (.int p1), .val .null, .val (.ref aT), .val (.int (9 : Int32)), .val (.int (4 : Int32)), .val (.ref d3)] [])) _
            refine XS.goto X13.here hx rfl (pc0 := 42) (pc' := 12) rfl (hb hby d1_42) (by decide) (by decide) ?_
            show Steps p.tables e below (T13.setTop (mkF m 12 #[.val (.int p1), .val .null, .val (.ref aT), .val (.int (9 : Int32)), .val (.int (4 : Int32)), .val (.ref d3)] [])) _
            refine XS.iload X13.here hx rfl (hb hby d1_12) rfl ?_
            show Steps p.tables e below (T13.setTop (mkF m 14 #[.val (.int p1), .val .null, .val (.ref aT), .val (.int (9 : Int32)), .val (.int (4 : Int32)), .val (.ref d3)] [(.int (4 : Int32))])) _
            refine XS.iloadN X13.here hx rfl (hb hby d1_14) rfl ?_
            show Steps p.tables e below (T13.setTop (mkF m 15 #[.val (.int p1), .val .null, .val (.ref aT), .val (.int (9 : Int32)), .val (.int (4 : Int32)), .val (.ref d3)] [(.int (9 : Int32)), (.int (4 : Int32))])) _
            refine XS.icmpNo X13.here hx rfl (hb hby d1_15) rfl (tlt (by decide : ((4 : Int32) < (9 : Int32)))).2.1 ?_
            show Steps p.tables e below (T13.setTop (mkF m 18 #[.val (.int p1), .val .null, .val (.ref aT), .val (.int (9 : Int32)), .val (.int (4 : Int32)), .val (.ref d3)] [])) _
            refine XS.aloadN X13.here hx rfl (hb hby d1_18) rfl rfl ?_
            show Steps p.tables e below (T13.setTop (mkF m 19 #[.val (.int p1), .val .null, .val (.ref aT), .val (.int (9 : Int32)), .val (.int (4 : Int32)), .val (.ref d3)] [(.ref aT)])) _
            refine XS.iload X13.here hx rfl (hb hby d1_19) rfl ?_
            show Steps p.tables e below (T13.setTop (mkF m 21 #[.val (.int p1), .val .null, .val (.ref aT), .val (.int (9 : Int32)), .val (.int (4 : Int32)), .val (.ref d3)] [(.int (4 : Int32)), (.ref aT)])) _
            refine ldR X13 hx hZ e13 F1 rfl ix15.1 ix15.2 (g := (mkF m 21 #[.val (.int p1), .val .null, .val (.ref aT), .val (.int (9 : Int32)), .val (.int (4 : Int32)), .val (.ref d3)] [(.int (4 : Int32)), (.ref aT)])) rfl rfl (hb hby d1_21) _ ?_
            show Steps p.tables e below (T13.setTop (mkF m 22 #[.val (.int p1), .val .null, .val (.ref aT), .val (.int (9 : Int32)), .val (.int (4 : Int32)), .val (.ref d3)] [(.ref d4)])) _
            refine XS.astore X13.here hx rfl (hb hby d1_22) rfl rfl (l' := #[.val (.int p1), .val .null, .val (.ref aT), .val (.int (9 : Int32)), .val (.int (4 : Int32)), .val (.ref d4)]) rfl ?_
            show Steps p.tables e below (T13.setTop (mkF m 24 #[.val (.int p1), .val .null, .val (.ref aT), .val (.int (9 : Int32)), .val (.int (4 : Int32)), .val (.ref d4)] [])) _
            refine XS.aload X13.here hx rfl (hb hby d1_24) rfl rfl ?_
            show Steps p.tables e below (T13.setTop (mkF m 26 #[.val (.int p1), .val .null, .val (.ref aT), .val (.int (9 : Int32)), .val (.int (4 : Int32)), .val (.ref d4)] [(.ref d4)])) _
            refine st16 _ ?_
            show Steps p.tables e below (T16.setTop (mkF m 29 #[.val (.int p1), .val .null, .val (.ref aT), .val (.int (9 : Int32)), .val (.int (4 : Int32)), .val (.ref d4)] [(.int (4 : Int32))])) _
            refine XS.iloadN X16.here hx rfl (hb hby d1_29) rfl ?_
            exact kt
          by_cases hc17 : (4 : Int32) = p1
          · rw [if_pos hc17] at hf
            refine Go.step (T' := T16) (f' := (mkF m 33 #[.val (.int p1), .val .null, .val (.ref aT), .val (.int (9 : Int32)), .val (.int (4 : Int32)), .val (.ref d4)] [])) (fun t kt => ?_) ?_
            · show Steps p.tables e below (T16.setTop (mkF m 30 #[.val (.int p1), .val .null, .val (.ref aT), .val (.int (9 : Int32)), .val (.int (4 : Int32)), .val (.ref d4)] [(.int p1), (.int (4 : Int32))])) _
              refine XS.icmpNo X16.here hx rfl (hb hby d1_30) rfl (teq hc17).2 ?_
              exact kt
            refine Go.step (T' := T16) (f' := (mkF m 46 #[.val (.int p1), .val (.ref d4), .val (.ref aT), .val (.int (9 : Int32)), .val (.int (4 : Int32)), .val (.ref d4)] [(.ref d4)])) (fun t kt => ?_) ?_
            · show Steps p.tables e below (T16.setTop (mkF m 33 #[.val (.int p1), .val .null, .val (.ref aT), .val (.int (9 : Int32)), .val (.int (4 : Int32)), .val (.ref d4)] [])) _
              refine XS.aload X16.here hx rfl (hb hby d1_33) rfl rfl ?_
              show Steps p.tables e below (T16.setTop (mkF m 35 #[.val (.int p1), .val .null, .val (.ref aT), .val (.int (9 : Int32)), .val (.int (4 : Int32)), .val (.ref d4)] [(.ref d4)])) _
              refine XS.astoreN X16.here hx rfl (hb hby d1_35) rfl rfl (l' := #[.val (.int p1), .val (.ref d4), .val (.ref aT), .val (.int (9 : Int32)), .val (.int (4 : Int32)), .val (.ref d4)]) rfl ?_
              show Steps p.tables e below (T16.setTop (mkF m 36 #[.val (.int p1), .val (.ref d4), .val (.ref aT), .val (.int (9 : Int32)), .val (.int (4 : Int32)), .val (.ref d4)] [])) _
              refine XS.goto X16.here hx rfl (pc0 := 36) (pc' := 45) rfl (hb hby d1_36) (by decide) (by decide) ?_
              show Steps p.tables e below (T16.setTop (mkF m 45 #[.val (.int p1), .val (.ref d4), .val (.ref aT), .val (.int (9 : Int32)), .val (.int (4 : Int32)), .val (.ref d4)] [])) _
              refine XS.aloadN X16.here hx rfl (hb hby d1_45) rfl rfl ?_
              exact kt
            refine Go.fin X16 (v := some (.ref d4)) (fun h => by rw [Bd.returns] at h; cases h) Bd.notSynchronized ?_ (Nat.le_trans (Nat.le_refl 0) (by decide)) (Nat.le_trans (Nat.le_refl 0) (by decide)) (fun fs hr => X16.areturnOut hx rfl Bd.returns rfl (hb hby d1_46) hr)
            · exact ⟨by rw [hf], N0, e16⟩
          · rw [if_neg hc17] at hf
            refine Go.step (T' := T16) (f' := (mkF m 39 #[.val (.int p1), .val .null, .val (.ref aT), .val (.int (9 : Int32)), .val (.int (4 : Int32)), .val (.ref d4)] [])) (fun t kt => ?_) ?_
            · show Steps p.tables e below (T16.setTop (mkF m 30 #[.val (.int p1), .val .null, .val (.ref aT), .val (.int (9 : Int32)), .val (.int (4 : Int32)), .val (.ref d4)] [(.int p1), (.int (4 : Int32))])) _
              refine XS.icmpYes X16.here hx rfl (pc0 := 30) (pc' := 39) rfl (hb hby d1_30) rfl (feq hc17).2 (by decide) (by decide) ?_
              exact kt
            have ix18 : 0 ≤ ((5 : Int32)).toInt ∧ ((5 : Int32)).toInt < (([d0, d1, d2, d3, d4, d5, d6, d7, d8]).length : Int) := by constructor <;> first | decide | (simp; done)
            obtain ⟨T19, X19, e19, st19⟩ := getF X16 hx hZ hown (host := "") (Or.inl (hw _ (List.mem_of_getElem? (i := 7) rfl))) Via.refl e16 F7 (g := (mkF m 26 #[.val (.int p1), .val .null, .val (.ref aT), .val (.int (9 : Int32)), .val (.int (5 : Int32)), .val (.ref d5)] [(.ref d5)])) rfl rfl (hb hby d1_26)
            refine Go.step (T' := T19) (f' := (mkF m 30 #[.val (.int p1), .val .null, .val (.ref aT), .val (.int (9 : Int32)), .val (.int (5 : Int32)), .val (.ref d5)] [(.int p1), (.int (5 : Int32))])) (fun t kt => ?_) ?_
            · show Steps p.tables e below (T16.setTop (mkF m 39 #[.val (.int p1), .val .null, .val (.ref aT), .val (.int (9 : Int32)), .val (.int (4 : Int32)), .val (.ref d4)] [])) _
              refine XS.iinc X16.here hx rfl (hb hby d1_39) rfl (l' := #[.val (.int p1), .val .null, .val (.ref aT), .val (.int (9 : Int32)), .val (.int (5 : Int32)), .val (.ref d4)]) rfl ?_
              show Steps p.tables e below (T16.setTop (mkF m 42 #[.val (.int p1), .val .null, .val (.ref aT), .val (.int (9 : Int32)), .val (.int (5 : Int32)), .val (.ref d4)] [])) _
              refine XS.goto X16.here hx rfl (pc0 := 42) (pc' := 12) rfl (hb hby d1_42) (by decide) (by decide) ?_
              show Steps p.tables e below (T16.setTop (mkF m 12 #[.val (.int p1), .val .null, .val (.ref aT), .val (.int (9 : Int32)), .val (.int (5 : Int32)), .val (.ref d4)] [])) _
              refine XS.iload X16.here hx rfl (hb hby d1_12) rfl ?_
              show Steps p.tables e below (T16.setTop (mkF m 14 #[.val (.int p1), .val .null, .val (.ref aT), .val (.int (9 : Int32)), .val (.int (5 : Int32)), .val (.ref d4)] [(.int (5 : Int32))])) _
              refine XS.iloadN X16.here hx rfl (hb hby d1_14) rfl ?_
              show Steps p.tables e below (T16.setTop (mkF m 15 #[.val (.int p1), .val .null, .val (.ref aT), .val (.int (9 : Int32)), .val (.int (5 : Int32)), .val (.ref d4)] [(.int (9 : Int32)), (.int (5 : Int32))])) _
              refine XS.icmpNo X16.here hx rfl (hb hby d1_15) rfl (tlt (by decide : ((5 : Int32) < (9 : Int32)))).2.1 ?_
              show Steps p.tables e below (T16.setTop (mkF m 18 #[.val (.int p1), .val .null, .val (.ref aT), .val (.int (9 : Int32)), .val (.int (5 : Int32)), .val (.ref d4)] [])) _
              refine XS.aloadN X16.here hx rfl (hb hby d1_18) rfl rfl ?_
              show Steps p.tables e below (T16.setTop (mkF m 19 #[.val (.int p1), .val .null, .val (.ref aT), .val (.int (9 : Int32)), .val (.int (5 : Int32)), .val (.ref d4)] [(.ref aT)])) _
              refine XS.iload X16.here hx rfl (hb hby d1_19) rfl ?_
              show Steps p.tables e below (T16.setTop (mkF m 21 #[.val (.int p1), .val .null, .val (.ref aT), .val (.int (9 : Int32)), .val (.int (5 : Int32)), .val (.ref d4)] [(.int (5 : Int32)), (.ref aT)])) _
              refine ldR X16 hx hZ e16 F1 rfl ix18.1 ix18.2 (g := (mkF m 21 #[.val (.int p1), .val .null, .val (.ref aT), .val (.int (9 : Int32)), .val (.int (5 : Int32)), .val (.ref d4)] [(.int (5 : Int32)), (.ref aT)])) rfl rfl (hb hby d1_21) _ ?_
              show Steps p.tables e below (T16.setTop (mkF m 22 #[.val (.int p1), .val .null, .val (.ref aT), .val (.int (9 : Int32)), .val (.int (5 : Int32)), .val (.ref d4)] [(.ref d5)])) _
              refine XS.astore X16.here hx rfl (hb hby d1_22) rfl rfl (l' := #[.val (.int p1), .val .null, .val (.ref aT), .val (.int (9 : Int32)), .val (.int (5 : Int32)), .val (.ref d5)]) rfl ?_
              show Steps p.tables e below (T16.setTop (mkF m 24 #[.val (.int p1), .val .null, .val (.ref aT), .val (.int (9 : Int32)), .val (.int (5 : Int32)), .val (.ref d5)] [])) _
              refine XS.aload X16.here hx rfl (hb hby d1_24) rfl rfl ?_
              show Steps p.tables e below (T16.setTop (mkF m 26 #[.val (.int p1), .val .null, .val (.ref aT), .val (.int (9 : Int32)), .val (.int (5 : Int32)), .val (.ref d5)] [(.ref d5)])) _
              refine st19 _ ?_
              show Steps p.tables e below (T19.setTop (mkF m 29 #[.val (.int p1), .val .null, .val (.ref aT), .val (.int (9 : Int32)), .val (.int (5 : Int32)), .val (.ref d5)] [(.int (5 : Int32))])) _
              refine XS.iloadN X19.here hx rfl (hb hby d1_29) rfl ?_
              exact kt
            by_cases hc20 : (5 : Int32) = p1
            · rw [if_pos hc20] at hf
              refine Go.step (T' := T19) (f' := (mkF m 33 #[.val (.int p1), .val .null, .val (.ref aT), .val (.int (9 : Int32)), .val (.int (5 : Int32)), .val (.ref d5)] [])) (fun t kt => ?_) ?_
              · show Steps p.tables e below (T19.setTop (mkF m 30 #[.val (.int p1), .val .null, .val (.ref aT), .val (.int (9 : Int32)), .val (.int (5 : Int32)), .val (.ref d5)] [(.int p1), (.int (5 : Int32))])) _
                refine XS.icmpNo X19.here hx rfl (hb hby d1_30) rfl (teq hc20).2 ?_
                exact kt
              refine Go.step (T' := T19) (f' := (mkF m 46 #[.val (.int p1), .val (.ref d5), .val (.ref aT), .val (.int (9 : Int32)), .val (.int (5 : Int32)), .val (.ref d5)] [(.ref d5)])) (fun t kt => ?_) ?_
              · show Steps p.tables e below (T19.setTop (mkF m 33 #[.val (.int p1), .val .null, .val (.ref aT), .val (.int (9 : Int32)), .val (.int (5 : Int32)), .val (.ref d5)] [])) _
                refine XS.aload X19.here hx rfl (hb hby d1_33) rfl rfl ?_
                show Steps p.tables e below (T19.setTop (mkF m 35 #[.val (.int p1), .val .null, .val (.ref aT), .val (.int (9 : Int32)), .val (.int (5 : Int32)), .val (.ref d5)] [(.ref d5)])) _
                refine XS.astoreN X19.here hx rfl (hb hby d1_35) rfl rfl (l' := #[.val (.int p1), .val (.ref d5), .val (.ref aT), .val (.int (9 : Int32)), .val (.int (5 : Int32)), .val (.ref d5)]) rfl ?_
                show Steps p.tables e below (T19.setTop (mkF m 36 #[.val (.int p1), .val (.ref d5), .val (.ref aT), .val (.int (9 : Int32)), .val (.int (5 : Int32)), .val (.ref d5)] [])) _
                refine XS.goto X19.here hx rfl (pc0 := 36) (pc' := 45) rfl (hb hby d1_36) (by decide) (by decide) ?_
                show Steps p.tables e below (T19.setTop (mkF m 45 #[.val (.int p1), .val (.ref d5), .val (.ref aT), .val (.int (9 : Int32)), .val (.int (5 : Int32)), .val (.ref d5)] [])) _
                refine XS.aloadN X19.here hx rfl (hb hby d1_45) rfl rfl ?_
                exact kt
              refine Go.fin X19 (v := some (.ref d5)) (fun h => by rw [Bd.returns] at h; cases h) Bd.notSynchronized ?_ (Nat.le_trans (Nat.le_refl 0) (by decide)) (Nat.le_trans (Nat.le_refl 0) (by decide)) (fun fs hr => X19.areturnOut hx rfl Bd.returns rfl (hb hby d1_46) hr)
              · exact ⟨by rw [hf], N0, e19⟩
            · rw [if_neg hc20] at hf
              refine Go.step (T' := T19) (f' := (mkF m 39 #[.val (.int p1), .val .null, .val (.ref aT), .val (.int (9 : Int32)), .val (.int (5 : Int32)), .val (.ref d5)] [])) (fun t kt => ?_) ?_
              · show Steps p.tables e below (T19.setTop (mkF m 30 #[.val (.int p1), .val .null, .val (.ref aT), .val (.int (9 : Int32)), .val (.int (5 : Int32)), .val (.ref d5)] [(.int p1), (.int (5 : Int32))])) _
                refine XS.icmpYes X19.here hx rfl (pc0 := 30) (pc' := 39) rfl (hb hby d1_30) rfl (feq hc20).2 (by decide) (by decide) ?_
                exact kt
              have ix21 : 0 ≤ ((6 : Int32)).toInt ∧ ((6 : Int32)).toInt < (([d0, d1, d2, d3, d4, d5, d6, d7, d8]).length : Int) := by constructor <;> first | decide | (simp; done)
              obtain ⟨T22, X22, e22, st22⟩ := getF X19 hx hZ hown (host := "") (Or.inl (hw _ (List.mem_of_getElem? (i := 7) rfl))) Via.refl e19 F8 (g := (mkF m 26 #[.val (.int p1), .val .null, .val (.ref aT), .val (.int (9 : Int32)), .val (.int (6 : Int32)), .val (.ref d6)] [(.ref d6)])) rfl rfl (hb hby d1_26)
              refine Go.step (T' := T22) (f' := (mkF m 30 #[.val (.int p1), .val .null, .val (.ref aT), .val (.int (9 : Int32)), .val (.int (6 : Int32)), .val (.ref d6)] [(.int p1), (.int (6 : Int32))])) (fun t kt => ?_) ?_
              · show Steps p.tables e below (T19.setTop (mkF m 39 #[.val (.int p1), .val .null, .val (.ref aT), .val (.int (9 : Int32)), .val (.int (5 : Int32)), .val (.ref d5)] [])) _
                refine XS.iinc X19.here hx rfl (hb hby d1_39) rfl (l' := #[.val (.int p1), .val .null, .val (.ref aT), .val (.int (9 : Int32)), .val (.int (6 : Int32)), .val (.ref d5)]) rfl ?_
                show Steps p.tables e below (T19.setTop (mkF m 42 #[.val (.int p1), .val .null, .val (.ref aT), .val (.int (9 : Int32)), .val (.int (6 : Int32)), .val (.ref d5)] [])) _
                refine XS.goto X19.here hx rfl (pc0 := 42) (pc' := 12) rfl (hb hby d1_42) (by decide) (by decide) ?_
                show Steps p.tables e below (T19.setTop (mkF m 12 #[.val (.int p1), .val .null, .val (.ref aT), .val (.int (9 : Int32)), .val (.int (6 : Int32)), .val (.ref d5)] [])) _
                refine XS.iload X19.here hx rfl (hb hby d1_12) rfl ?_
                show Steps p.tables e below (T19.setTop (mkF m 14 #[.val (.int p1), .val .null, .val (.ref aT), .val (.int (9 : Int32)), .val (.int (6 : Int32)), .val (.ref d5)] [(.int (6 : Int32))])) _
                refine XS.iloadN X19.here hx rfl (hb hby d1_14) rfl ?_
                show Steps p.tables e below (T19.setTop (mkF m 15 #[.val (.int p1), .val .null, .val (.ref aT), .val (.int (9 : Int32)), .val (.int (6 : Int32)), .val (.ref d5)] [(.int (9 : Int32)), (.int (6 : Int32))])) _
                refine XS.icmpNo X19.here hx rfl (hb hby d1_15) rfl (tlt (by decide : ((6 : Int32) < (9 : Int32)))).2.1 ?_
                show Steps p.tables e below (T19.setTop (mkF m 18 #[.val (.int p1), .val .null, .val (.ref aT), .val (.int (9 : Int32)), .val (.int (6 : Int32)), .val (.ref d5)] [])) _
                refine XS.aloadN X19.here hx rfl (hb hby d1_18) rfl rfl ?_
                show Steps p.tables e below (T19.setTop (mkF m 19 #[.val (.int p1), .val .null, .val (.ref aT), .val (.int (9 : Int32)), .val (.int (6 : Int32)), .val (.ref d5)] [(.ref aT)])) _
                refine XS.iload X19.here hx rfl (hb hby d1_19) rfl ?_
                show Steps p.tables e below (T19.setTop (mkF m 21 #[.val (.int p1), .val .null, .val (.ref aT), .val (.int (9 : Int32)), .val (.int (6 : Int32)), .val (.ref d5)] [(.int (6 : Int32)), (.ref aT)])) _
                refine ldR X19 hx hZ e19 F1 rfl ix21.1 ix21.2 (g := (mkF m 21 #[.val (.int p1), .val .null, .val (.ref aT), .val (.int (9 : Int32)), .val (.int (6 : Int32)), .val (.ref d5)] [(.int (6 : Int32)), (.ref aT)])) rfl rfl (hb hby d1_21) _ ?_
                show Steps p.tables e below (T19.setTop (mkF m 22 #[.val (.int p1), .val .null, .val (.ref aT), .val (.int (9 : Int32)), .val (.int (6 : Int32)), .val (.ref d5)] [(.ref d6)])) _
                refine XS.astore X19.here hx rfl (hb hby d1_22) rfl rfl (l' := #[.val (.int p1), .val .null, .val (.ref aT), .val (.int (9 : Int32)), .val (.int (6 : Int32)), .val (.ref d6)]) rfl ?_
                show Steps p.tables e below (T19.setTop (mkF m 24 #[.val (.int p1), .val .null, .val (.ref aT), .val (.int (9 : Int32)), .val (.int (6 : Int32)), .val (.ref d6)] [])) _
                refine XS.aload X19.here hx rfl (hb hby d1_24) rfl rfl ?_
                show Steps p.tables e below (T19.setTop (mkF m 26 #[.val (.int p1), .val .null, .val (.ref aT), .val (.int (9 : Int32)), .val (.int (6 : Int32)), .val (.ref d6)] [(.ref d6)])) _
                refine st22 _ ?_
                show Steps p.tables e below (T22.setTop (mkF m 29 #[.val (.int p1), .val .null, .val (.ref aT), .val (.int (9 : Int32)), .val (.int (6 : Int32)), .val (.ref d6)] [(.int (6 : Int32))])) _
                refine XS.iloadN X22.here hx rfl (hb hby d1_29) rfl ?_
                exact kt
              by_cases hc23 : (6 : Int32) = p1
              · rw [if_pos hc23] at hf
                refine Go.step (T' := T22) (f' := (mkF m 33 #[.val (.int p1), .val .null, .val (.ref aT), .val (.int (9 : Int32)), .val (.int (6 : Int32)), .val (.ref d6)] [])) (fun t kt => ?_) ?_
                · show Steps p.tables e below (T22.setTop (mkF m 30 #[.val (.int p1), .val .null, .val (.ref aT), .val (.int (9 : Int32)), .val (.int (6 : Int32)), .val (.ref d6)] [(.int p1), (.int (6 : Int32))])) _
                  refine XS.icmpNo X22.here hx rfl (hb hby d1_30) rfl (teq hc23).2 ?_
                  exact kt
                refine Go.step (T' := T22) (f' := (mkF m 46 #[.val (.int p1), .val (.ref d6), .val (.ref aT), .val (.int (9 : Int32)), .val (.int (6 : Int32)), .val (.ref d6)] [(.ref d6)])) (fun t kt => ?_) ?_
                · show Steps p.tables e below (T22.setTop (mkF m 33 #[.val (.int p1), .val .null, .val (.ref aT), .val (.int (9 : Int32)), .val (.int (6 : Int32)), .val (.ref d6)] [])) _
                  refine XS.aload X22.here hx rfl (hb hby d1_33) rfl rfl ?_
                  show Steps p.tables e below (T22.setTop (mkF m 35 #[.val (.int p1), .val .null, .val (.ref aT), .val (.int (9 : Int32)), .val (.int (6 : Int32)), .val (.ref d6)] [(.ref d6)])) _
                  refine XS.astoreN X22.here hx rfl (hb hby d1_35) rfl rfl (l' := #[.val (.int p1), .val (.ref d6), .val (.ref aT), .val (.int (9 : Int32)), .val (.int (6 : Int32)), .val (.ref d6)]) rfl ?_
                  show Steps p.tables e below (T22.setTop (mkF m 36 #[.val (.int p1), .val (.ref d6), .val (.ref aT), .val (.int (9 : Int32)), .val (.int (6 : Int32)), .val (.ref d6)] [])) _
                  refine XS.goto X22.here hx rfl (pc0 := 36) (pc' := 45) rfl (hb hby d1_36) (by decide) (by decide) ?_
                  show Steps p.tables e below (T22.setTop (mkF m 45 #[.val (.int p1), .val (.ref d6), .val (.ref aT), .val (.int (9 : Int32)), .val (.int (6 : Int32)), .val (.ref d6)] [])) _
                  refine XS.aloadN X22.here hx rfl (hb hby d1_45) rfl rfl ?_
                  exact kt
                refine Go.fin X22 (v := some (.ref d6)) (fun h => by rw [Bd.returns] at h; cases h) Bd.notSynchronized ?_ (Nat.le_trans (Nat.le_refl 0) (by decide)) (Nat.le_trans (Nat.le_refl 0) (by decide)) (fun fs hr => X22.areturnOut hx rfl Bd.returns rfl (hb hby d1_46) hr)
                · exact ⟨by rw [hf], N0, e22⟩
              · rw [if_neg hc23] at hf
                refine Go.step (T' := T22) (f' := (mkF m 39 #[.val (.int p1), .val .null, .val (.ref aT), .val (.int (9 : Int32)), .val (.int (6 : Int32)), .val (.ref d6)] [])) (fun t kt => ?_) ?_
                · show Steps p.tables e below (T22.setTop (mkF m 30 #[.val (.int p1), .val .null, .val (.ref aT), .val (.int (9 : Int32)), .val (.int (6 : Int32)), .val (.ref d6)] [(.int p1), (.int (6 : Int32))])) _
                  refine XS.icmpYes X22.here hx rfl (pc0 := 30) (pc' := 39) rfl (hb hby d1_30) rfl (feq hc23).2 (by decide) (by decide) ?_
                  exact kt
                have ix24 : 0 ≤ ((7 : Int32)).toInt ∧ ((7 : Int32)).toInt < (([d0, d1, d2, d3, d4, d5, d6, d7, d8]).length : Int) := by constructor <;> first | decide | (simp; done)
                obtain ⟨T25, X25, e25, st25⟩ := getF X22 hx hZ hown (host := "") (Or.inl (hw _ (List.mem_of_getElem? (i := 7) rfl))) Via.refl e22 F9 (g := (mkF m 26 #[.val (.int p1), .val .null, .val (.ref aT), .val (.int (9 : Int32)), .val (.int (7 : Int32)), .val (.ref d7)] [(.ref d7)])) rfl rfl (hb hby d1_26)
                refine Go.step (T' := T25) (f' := (mkF m 30 #[.val (.int p1), .val .null, .val (.ref aT), .val (.int (9 : Int32)), .val (.int (7 : Int32)), .val (.ref d7)] [(.int p1), (.int (7 : Int32))])) (fun t kt => ?_) ?_
                · show Steps p.tables e below (T22.setTop (mkF m 39 #[.val (.int p1), .val .null, .val (.ref aT), .val (.int (9 : Int32)), .val (.int (6 : Int32)), .val (.ref d6)] [])) _
                  refine XS.iinc X22.here hx rfl (hb hby d1_39) rfl (l' := #[.val (.int p1), .val .null, .val (.ref aT), .val (.int (9 : Int32)), .val (.int (7 : Int32)), .val (.ref d6)]) rfl ?_
                  show Steps p.tables e below (T22.setTop (mkF m 42 #[.val (.int p1), .val .null, .val (.ref aT), .val (.int (9 : Int32)), .val (.int (7 : Int32)), .val (.ref d6)] [])) _
                  refine XS.goto X22.here hx rfl (pc0 := 42) (pc' := 12) rfl (hb hby d1_42) (by decide) (by decide) ?_
                  show Steps p.tables e below (T22.setTop (mkF m 12 #[.val (.int p1), .val .null, .val (.ref aT), .val (.int (9 : Int32)), .val (.int (7 : Int32)), .val (.ref d6)] [])) _
                  refine XS.iload X22.here hx rfl (hb hby d1_12) rfl ?_
                  show Steps p.tables e below (T22.setTop (mkF m 14 #[.val (.int p1), .val .null, .val (.ref aT), .val (.int (9 : Int32)), .val (.int (7 : Int32)), .val (.ref d6)] [(.int (7 : Int32))])) _
                  refine XS.iloadN X22.here hx rfl (hb hby d1_14) rfl ?_
                  show Steps p.tables e below (T22.setTop (mkF m 15 #[.val (.int p1), .val .null, .val (.ref aT), .val (.int (9 : Int32)), .val (.int (7 : Int32)), .val (.ref d6)] [(.int (9 : Int32)), (.int (7 : Int32))])) _
                  refine XS.icmpNo X22.here hx rfl (hb hby d1_15) rfl (tlt (by decide : ((7 : Int32) < (9 : Int32)))).2.1 ?_
                  show Steps p.tables e below (T22.setTop (mkF m 18 #[.val (.int p1), .val .null, .val (.ref aT), .val (.int (9 : Int32)), .val (.int (7 : Int32)), .val (.ref d6)] [])) _
                  refine XS.aloadN X22.here hx rfl (hb hby d1_18) rfl rfl ?_
                  show Steps p.tables e below (T22.setTop (mkF m 19 #[.val (.int p1), .val .null, .val (.ref aT), .val (.int (9 : Int32)), .val (.int (7 : Int32)), .val (.ref d6)] [(.ref aT)])) _
                  refine XS.iload X22.here hx rfl (hb hby d1_19) rfl ?_
                  show Steps p.tables e below (T22.setTop (mkF m 21 #[.val (.int p1), .val .null, .val (.ref aT), .val (.int (9 : Int32)), .val (.int (7 : Int32)), .val (.ref d6)] [(.int (7 : Int32)), (.ref aT)])) _
                  refine ldR X22 hx hZ e22 F1 rfl ix24.1 ix24.2 (g := (mkF m 21 #[.val (.int p1), .val .null, .val (.ref aT), .val (.int (9 : Int32)), .val (.int (7 : Int32)), .val (.ref d6)] [(.int (7 : Int32)), (.ref aT)])) rfl rfl (hb hby d1_21) _ ?_
                  show Steps p.tables e below (T22.setTop (mkF m 22 #[.val (.int p1), .val .null, .val (.ref aT), .val (.int (9 : Int32)), .val (.int (7 : Int32)), .val (.ref d6)] [(.ref d7)])) _
                  refine XS.astore X22.here hx rfl (hb hby d1_22) rfl rfl (l' := #[.val (.int p1), .val .null, .val (.ref aT), .val (.int (9 : Int32)), .val (.int (7 : Int32)), .val (.ref d7)]) rfl ?_
                  show Steps p.tables e below (T22.setTop (mkF m 24 #[.val (.int p1), .val .null, .val (.ref aT), .val (.int (9 : Int32)), .val (.int (7 : Int32)), .val (.ref d7)] [])) _
                  refine XS.aload X22.here hx rfl (hb hby d1_24) rfl rfl ?_
                  show Steps p.tables e below (T22.setTop (mkF m 26 #[.val (.int p1), .val .null, .val (.ref aT), .val (.int (9 : Int32)), .val (.int (7 : Int32)), .val (.ref d7)] [(.ref d7)])) _
                  refine st25 _ ?_
                  show Steps p.tables e below (T25.setTop (mkF m 29 #[.val (.int p1), .val .null, .val (.ref aT), .val (.int (9 : Int32)), .val (.int (7 : Int32)), .val (.ref d7)] [(.int (7 : Int32))])) _
                  refine XS.iloadN X25.here hx rfl (hb hby d1_29) rfl ?_
                  exact kt
                by_cases hc26 : (7 : Int32) = p1
                · rw [if_pos hc26] at hf
                  refine Go.step (T' := T25) (f' := (mkF m 33 #[.val (.int p1), .val .null, .val (.ref aT), .val (.int (9 : Int32)), .val (.int (7 : Int32)), .val (.ref d7)] [])) (fun t kt => ?_) ?_
                  · show Steps p.tables e below (T25.setTop (mkF m 30 #[.val (.int p1), .val .null, .val (.ref aT), .val (.int (9 : Int32)), .val (.int (7 : Int32)), .val (.ref d7)] [(.int p1), (.int (7 : Int32))])) _
                    refine XS.icmpNo X25.here hx rfl (hb hby d1_30) rfl (teq hc26).2 ?_
                    exact kt
                  refine Go.step (T' := T25) (f' := (mkF m 46 #[.val (.int p1), .val (.ref d7), .val (.ref aT), .val (.int (9 : Int32)), .val (.int (7 : Int32)), .val (.ref d7)] [(.ref d7)])) (fun t kt => ?_) ?_
                  · show Steps p.tables e below (T25.setTop (mkF m 33 #[.val (.int p1), .val .null, .val (.ref aT), .val (.int (9 : Int32)), .val (.int (7 : Int32)), .val (.ref d7)] [])) _
                    refine XS.aload X25.here hx rfl (hb hby d1_33) rfl rfl ?_
                    show Steps p.tables e below (T25.setTop (mkF m 35 #[.val (.int p1), .val .null, .val (.ref aT), .val (.int (9 : Int32)), .val (.int (7 : Int32)), .val (.ref d7)] [(.ref d7)])) _
                    refine XS.astoreN X25.here hx rfl (hb hby d1_35) rfl rfl (l' := #[.val (.int p1), .val (.ref d7), .val (.ref aT), .val (.int (9 : Int32)), .val (.int (7 : Int32)), .val (.ref d7)]) rfl ?_
                    show Steps p.tables e below (T25.setTop (mkF m 36 #[.val (.int p1), .val (.ref d7), .val (.ref aT), .val (.int (9 : Int32)), .val (.int (7 : Int32)), .val (.ref d7)] [])) _
                    refine XS.goto X25.here hx rfl (pc0 := 36) (pc' := 45) rfl (hb hby d1_36) (by decide) (by decide) ?_
                    show Steps p.tables e below (T25.setTop (mkF m 45 #[.val (.int p1), .val (.ref d7), .val (.ref aT), .val (.int (9 : Int32)), .val (.int (7 : Int32)), .val (.ref d7)] [])) _
                    refine XS.aloadN X25.here hx rfl (hb hby d1_45) rfl rfl ?_
                    exact kt
                  refine Go.fin X25 (v := some (.ref d7)) (fun h => by rw [Bd.returns] at h; cases h) Bd.notSynchronized ?_ (Nat.le_trans (Nat.le_refl 0) (by decide)) (Nat.le_trans (Nat.le_refl 0) (by decide)) (fun fs hr => X25.areturnOut hx rfl Bd.returns rfl (hb hby d1_46) hr)
                  · exact ⟨by rw [hf], N0, e25⟩
                · rw [if_neg hc26] at hf
                  refine Go.step (T' := T25) (f' := (mkF m 39 #[.val (.int p1), .val .null, .val (.ref aT), .val (.int (9 : Int32)), .val (.int (7 : Int32)), .val (.ref d7)] [])) (fun t kt => ?_) ?_
                  · show Steps p.tables e below (T25.setTop (mkF m 30 #[.val (.int p1), .val .null, .val (.ref aT), .val (.int (9 : Int32)), .val (.int (7 : Int32)), .val (.ref d7)] [(.int p1), (.int (7 : Int32))])) _
                    refine XS.icmpYes X25.here hx rfl (pc0 := 30) (pc' := 39) rfl (hb hby d1_30) rfl (feq hc26).2 (by decide) (by decide) ?_
                    exact kt
                  have ix27 : 0 ≤ ((8 : Int32)).toInt ∧ ((8 : Int32)).toInt < (([d0, d1, d2, d3, d4, d5, d6, d7, d8]).length : Int) := by constructor <;> first | decide | (simp; done)
                  obtain ⟨T28, X28, e28, st28⟩ := getF X25 hx hZ hown (host := "") (Or.inl (hw _ (List.mem_of_getElem? (i := 7) rfl))) Via.refl e25 F10 (g := (mkF m 26 #[.val (.int p1), .val .null, .val (.ref aT), .val (.int (9 : Int32)), .val (.int (8 : Int32)), .val (.ref d8)] [(.ref d8)])) rfl rfl (hb hby d1_26)
                  refine Go.step (T' := T28) (f' := (mkF m 30 #[.val (.int p1), .val .null, .val (.ref aT), .val (.int (9 : Int32)), .val (.int (8 : Int32)), .val (.ref d8)] [(.int p1), (.int (8 : Int32))])) (fun t kt => ?_) ?_
                  · show Steps p.tables e below (T25.setTop (mkF m 39 #[.val (.int p1), .val .null, .val (.ref aT), .val (.int (9 : Int32)), .val (.int (7 : Int32)), .val (.ref d7)] [])) _
                    refine XS.iinc X25.here hx rfl (hb hby d1_39) rfl (l' := #[.val (.int p1), .val .null, .val (.ref aT), .val (.int (9 : Int32)), .val (.int (8 : Int32)), .val (.ref d7)]) rfl ?_
                    show Steps p.tables e below (T25.setTop (mkF m 42 #[.val (.int p1), .val .null, .val (.ref aT), .val (.int (9 : Int32)), .val (.int (8 : Int32)), .val (.ref d7)] [])) _
                    refine XS.goto X25.here hx rfl (pc0 := 42) (pc' := 12) rfl (hb hby d1_42) (by decide) (by decide) ?_
                    show Steps p.tables e below (T25.setTop (mkF m 12 #[.val (.int p1), .val .null, .val (.ref aT), .val (.int (9 : Int32)), .val (.int (8 : Int32)), .val (.ref d7)] [])) _
                    refine XS.iload X25.here hx rfl (hb hby d1_12) rfl ?_
                    show Steps p.tables e below (T25.setTop (mkF m 14 #[.val (.int p1), .val .null, .val (.ref aT), .val (.int (9 : Int32)), .val (.int (8 : Int32)), .val (.ref d7)] [(.int (8 : Int32))])) _
                    refine XS.iloadN X25.here hx rfl (hb hby d1_14) rfl ?_
                    show Steps p.tables e below (T25.setTop (mkF m 15 #[.val (.int p1), .val .null, .val (.ref aT), .val (.int (9 : Int32)), .val (.int (8 : Int32)), .val (.ref d7)] [(.int (9 : Int32)), (.int (8 : Int32))])) _
                    refine XS.icmpNo X25.here hx rfl (hb hby d1_15) rfl (tlt (by decide : ((8 : Int32) < (9 : Int32)))).2.1 ?_
                    show Steps p.tables e below (T25.setTop (mkF m 18 #[.val (.int p1), .val .null, .val (.ref aT), .val (.int (9 : Int32)), .val (.int (8 : Int32)), .val (.ref d7)] [])) _
                    refine XS.aloadN X25.here hx rfl (hb hby d1_18) rfl rfl ?_
                    show Steps p.tables e below (T25.setTop (mkF m 19 #[.val (.int p1), .val .null, .val (.ref aT), .val (.int (9 : Int32)), .val (.int (8 : Int32)), .val (.ref d7)] [(.ref aT)])) _
                    refine XS.iload X25.here hx rfl (hb hby d1_19) rfl ?_
                    show Steps p.tables e below (T25.setTop (mkF m 21 #[.val (.int p1), .val .null, .val (.ref aT), .val (.int (9 : Int32)), .val (.int (8 : Int32)), .val (.ref d7)] [(.int (8 : Int32)), (.ref aT)])) _
                    refine ldR X25 hx hZ e25 F1 rfl ix27.1 ix27.2 (g := (mkF m 21 #[.val (.int p1), .val .null, .val (.ref aT), .val (.int (9 : Int32)), .val (.int (8 : Int32)), .val (.ref d7)] [(.int (8 : Int32)), (.ref aT)])) rfl rfl (hb hby d1_21) _ ?_
                    show Steps p.tables e below (T25.setTop (mkF m 22 #[.val (.int p1), .val .null, .val (.ref aT), .val (.int (9 : Int32)), .val (.int (8 : Int32)), .val (.ref d7)] [(.ref d8)])) _
                    refine XS.astore X25.here hx rfl (hb hby d1_22) rfl rfl (l' := #[.val (.int p1), .val .null, .val (.ref aT), .val (.int (9 : Int32)), .val (.int (8 : Int32)), .val (.ref d8)]) rfl ?_
                    show Steps p.tables e below (T25.setTop (mkF m 24 #[.val (.int p1), .val .null, .val (.ref aT), .val (.int (9 : Int32)), .val (.int (8 : Int32)), .val (.ref d8)] [])) _
                    refine XS.aload X25.here hx rfl (hb hby d1_24) rfl rfl ?_
                    show Steps p.tables e below (T25.setTop (mkF m 26 #[.val (.int p1), .val .null, .val (.ref aT), .val (.int (9 : Int32)), .val (.int (8 : Int32)), .val (.ref d8)] [(.ref d8)])) _
                    refine st28 _ ?_
                    show Steps p.tables e below (T28.setTop (mkF m 29 #[.val (.int p1), .val .null, .val (.ref aT), .val (.int (9 : Int32)), .val (.int (8 : Int32)), .val (.ref d8)] [(.int (8 : Int32))])) _
                    refine XS.iloadN X28.here hx rfl (hb hby d1_29) rfl ?_
                    exact kt
                  by_cases hc29 : (8 : Int32) = p1
                  · rw [if_pos hc29] at hf
                    refine Go.step (T' := T28) (f' := (mkF m 33 #[.val (.int p1), .val .null, .val (.ref aT), .val (.int (9 : Int32)), .val (.int (8 : Int32)), .val (.ref d8)] [])) (fun t kt => ?_) ?_
                    · show Steps p.tables e below (T28.setTop (mkF m 30 #[.val (.int p1), .val .null, .val (.ref aT), .val (.int (9 : Int32)), .val (.int (8 : Int32)), .val (.ref d8)] [(.int p1), (.int (8 : Int32))])) _
                      refine XS.icmpNo X28.here hx rfl (hb hby d1_30) rfl (teq hc29).2 ?_
                      exact kt
                    refine Go.step (T' := T28) (f' := (mkF m 46 #[.val (.int p1), .val (.ref d8), .val (.ref aT), .val (.int (9 : Int32)), .val (.int (8 : Int32)), .val (.ref d8)] [(.ref d8)])) (fun t kt => ?_) ?_
                    · show Steps p.tables e below (T28.setTop (mkF m 33 #[.val (.int p1), .val .null, .val (.ref aT), .val (.int (9 : Int32)), .val (.int (8 : Int32)), .val (.ref d8)] [])) _
                      refine XS.aload X28.here hx rfl (hb hby d1_33) rfl rfl ?_
                      show Steps p.tables e below (T28.setTop (mkF m 35 #[.val (.int p1), .val .null, .val (.ref aT), .val (.int (9 : Int32)), .val (.int (8 : Int32)), .val (.ref d8)] [(.ref d8)])) _
                      refine XS.astoreN X28.here hx rfl (hb hby d1_35) rfl rfl (l' := #[.val (.int p1), .val (.ref d8), .val (.ref aT), .val (.int (9 : Int32)), .val (.int (8 : Int32)), .val (.ref d8)]) rfl ?_
                      show Steps p.tables e below (T28.setTop (mkF m 36 #[.val (.int p1), .val (.ref d8), .val (.ref aT), .val (.int (9 : Int32)), .val (.int (8 : Int32)), .val (.ref d8)] [])) _
                      refine XS.goto X28.here hx rfl (pc0 := 36) (pc' := 45) rfl (hb hby d1_36) (by decide) (by decide) ?_
                      show Steps p.tables e below (T28.setTop (mkF m 45 #[.val (.int p1), .val (.ref d8), .val (.ref aT), .val (.int (9 : Int32)), .val (.int (8 : Int32)), .val (.ref d8)] [])) _
                      refine XS.aloadN X28.here hx rfl (hb hby d1_45) rfl rfl ?_
                      exact kt
                    refine Go.fin X28 (v := some (.ref d8)) (fun h => by rw [Bd.returns] at h; cases h) Bd.notSynchronized ?_ (Nat.le_trans (Nat.le_refl 0) (by decide)) (Nat.le_trans (Nat.le_refl 0) (by decide)) (fun fs hr => X28.areturnOut hx rfl Bd.returns rfl (hb hby d1_46) hr)
                    · exact ⟨by rw [hf], N0, e28⟩
                  · rw [if_neg hc29] at hf
                    refine Go.step (T' := T28) (f' := (mkF m 39 #[.val (.int p1), .val .null, .val (.ref aT), .val (.int (9 : Int32)), .val (.int (8 : Int32)), .val (.ref d8)] [])) (fun t kt => ?_) ?_
                    · show Steps p.tables e below (T28.setTop (mkF m 30 #[.val (.int p1), .val .null, .val (.ref aT), .val (.int (9 : Int32)), .val (.int (8 : Int32)), .val (.ref d8)] [(.int p1), (.int (8 : Int32))])) _
                      refine XS.icmpYes X28.here hx rfl (pc0 := 30) (pc' := 39) rfl (hb hby d1_30) rfl (feq hc29).2 (by decide) (by decide) ?_
                      exact kt
                    refine Go.step (T' := T28) (f' := (mkF m 46 #[.val (.int p1), .val .null, .val (.ref aT), .val (.int (9 : Int32)), .val (.int (9 : Int32)), .val (.ref d8)] [.null])) (fun t kt => ?_) ?_
                    · show Steps p.tables e below (T28.setTop (mkF m 39 #[.val (.int p1), .val .null, .val (.ref aT), .val (.int (9 : Int32)), .val (.int (8 : Int32)), .val (.ref d8)] [])) _
                      refine XS.iinc X28.here hx rfl (hb hby d1_39) rfl (l' := #[.val (.int p1), .val .null, .val (.ref aT), .val (.int (9 : Int32)), .val (.int (9 : Int32)), .val (.ref d8)]) rfl ?_
                      show Steps p.tables e below (T28.setTop (mkF m 42 #[.val (.int p1), .val .null, .val (.ref aT), .val (.int (9 : Int32)), .val (.int (9 : Int32)), .val (.ref d8)] [])) _
                      refine XS.goto X28.here hx rfl (pc0 := 42) (pc' := 12) rfl (hb hby d1_42) (by decide) (by decide) ?_
                      show Steps p.tables e below (T28.setTop (mkF m 12 #[.val (.int p1), .val .null, .val (.ref aT), .val (.int (9 : Int32)), .val (.int (9 : Int32)), .val (.ref d8)] [])) _
                      refine XS.iload X28.here hx rfl (hb hby d1_12) rfl ?_
                      show Steps p.tables e below (T28.setTop (mkF m 14 #[.val (.int p1), .val .null, .val (.ref aT), .val (.int (9 : Int32)), .val (.int (9 : Int32)), .val (.ref d8)] [(.int (9 : Int32))])) _
                      refine XS.iloadN X28.here hx rfl (hb hby d1_14) rfl ?_
                      show Steps p.tables e below (T28.setTop (mkF m 15 #[.val (.int p1), .val .null, .val (.ref aT), .val (.int (9 : Int32)), .val (.int (9 : Int32)), .val (.ref d8)] [(.int (9 : Int32)), (.int (9 : Int32))])) _
                      refine XS.icmpYes X28.here hx rfl (pc0 := 15) (pc' := 45) rfl (hb hby d1_15) rfl (flt (by decide : ¬ ((9 : Int32) < (9 : Int32)))).2.1 (by decide) (by decide) ?_
                      show Steps p.tables e below (T28.setTop (mkF m 45 #[.val (.int p1), .val .null, .val (.ref aT), .val (.int (9 : Int32)), .val (.int (9 : Int32)), .val (.ref d8)] [])) _
                      refine XS.aloadN X28.here hx rfl (hb hby d1_45) rfl rfl ?_
                      exact kt
                    refine Go.fin X28 (v := some .null) (fun h => by rw [Bd.returns] at h; cases h) Bd.notSynchronized ?_ (Nat.le_trans (Nat.le_refl 0) (by decide)) (Nat.le_trans (Nat.le_refl 0) (by decide)) (fun fs hr => X28.areturnOut hx rfl Bd.returns rfl (hb hby d1_46) hr)
                    · exact ⟨by rw [hf], N0, e28⟩
theorem d2_0 : decode method_2_code 0 = .ok (.iload_n 0, 1) := by decide +kernel
theorem d2_1 : decode method_2_code 1 = .ok (.ifCond .ne 7, 3) := by decide +kernel
theorem d2_4 : decode method_2_code 4 = .ok (.getstatic 7, 3) := by decide +kernel
theorem d2_7 : decode method_2_code 7 = .ok (.areturn, 1) := by decide +kernel
theorem d2_8 : decode method_2_code 8 = .ok (.iload_n 0, 1) := by decide +kernel
theorem d2_9 : decode method_2_code 9 = .ok (.iconst 1, 1) := by decide +kernel
theorem d2_10 : decode method_2_code 10 = .ok (.if_icmp .ne 7, 3) := by decide +kernel
theorem d2_13 : decode method_2_code 13 = .ok (.getstatic 13, 3) := by decide +kernel
theorem d2_16 : decode method_2_code 16 = .ok (.areturn, 1) := by decide +kernel
theorem d2_17 : decode method_2_code 17 = .ok (.iload_n 0, 1) := by decide +kernel
theorem d2_18 : decode method_2_code 18 = .ok (.iconst 2, 1) := by decide +kernel
theorem d2_19 : decode method_2_code 19 = .ok (.if_icmp .ne 7, 3) := by decide +kernel
theorem d2_22 : decode method_2_code 22 = .ok (.getstatic 16, 3) := by decide +kernel
theorem d2_25 : decode method_2_code 25 = .ok (.areturn, 1) := by decide +kernel
theorem d2_26 : decode method_2_code 26 = .ok (.iload_n 0, 1) := by decide +kernel
theorem d2_27 : decode method_2_code 27 = .ok (.iconst 3, 1) := by decide +kernel
theorem d2_28 : decode method_2_code 28 = .ok (.if_icmp .ne 7, 3) := by decide +kernel
theorem d2_31 : decode method_2_code 31 = .ok (.getstatic 19, 3) := by decide +kernel
theorem d2_34 : decode method_2_code 34 = .ok (.areturn, 1) := by decide +kernel
theorem d2_35 : decode method_2_code 35 = .ok (.iload_n 0, 1) := by decide +kernel
theorem d2_36 : decode method_2_code 36 = .ok (.iconst 4, 1) := by decide +kernel
theorem d2_37 : decode method_2_code 37 = .ok (.if_icmp .ne 7, 3) := by decide +kernel
theorem d2_40 : decode method_2_code 40 = .ok (.getstatic 22, 3) := by decide +kernel
theorem d2_43 : decode method_2_code 43 = .ok (.areturn, 1) := by decide +kernel
theorem d2_44 : decode method_2_code 44 = .ok (.iload_n 0, 1) := by decide +kernel
theorem d2_45 : decode method_2_code 45 = .ok (.iconst 5, 1) := by decide +kernel
theorem d2_46 : decode method_2_code 46 = .ok (.if_icmp .ne 7, 3) := by decide +kernel
theorem d2_49 : decode method_2_code 49 = .ok (.getstatic 25, 3) := by decide +kernel
theorem d2_52 : decode method_2_code 52 = .ok (.areturn, 1) := by decide +kernel
theorem d2_53 : decode method_2_code 53 = .ok (.iload_n 0, 1) := by decide +kernel
theorem d2_54 : decode method_2_code 54 = .ok (.bipush 6, 2) := by decide +kernel
theorem d2_56 : decode method_2_code 56 = .ok (.if_icmp .ne 7, 3) := by decide +kernel
theorem d2_59 : decode method_2_code 59 = .ok (.getstatic 28, 3) := by decide +kernel
theorem d2_62 : decode method_2_code 62 = .ok (.areturn, 1) := by decide +kernel
theorem d2_63 : decode method_2_code 63 = .ok (.iload_n 0, 1) := by decide +kernel
theorem d2_64 : decode method_2_code 64 = .ok (.bipush 7, 2) := by decide +kernel
theorem d2_66 : decode method_2_code 66 = .ok (.if_icmp .ne 7, 3) := by decide +kernel
theorem d2_69 : decode method_2_code 69 = .ok (.getstatic 31, 3) := by decide +kernel
theorem d2_72 : decode method_2_code 72 = .ok (.areturn, 1) := by decide +kernel
theorem d2_73 : decode method_2_code 73 = .ok (.iload_n 0, 1) := by decide +kernel
theorem d2_74 : decode method_2_code 74 = .ok (.bipush 8, 2) := by decide +kernel
theorem d2_76 : decode method_2_code 76 = .ok (.if_icmp .ne 7, 3) := by decide +kernel
theorem d2_79 : decode method_2_code 79 = .ok (.getstatic 34, 3) := by decide +kernel
theorem d2_82 : decode method_2_code 82 = .ok (.areturn, 1) := by decide +kernel
theorem d2_83 : decode method_2_code 83 = .ok (.aconst_null, 1) := by decide +kernel
theorem d2_84 : decode method_2_code 84 = .ok (.areturn, 1) := by decide +kernel
theorem pn_1 : plainName "com/example/talthybius/talthybius/FrameTypeFromCodePinLaw" = true := by first | (simp [plainName, overriddenIn]; done) | decide +kernel
theorem ef_expF (m : MethodId) (x0 : Int32) : entryFrame m #[(.int x0)] 1 = mkF m 0 #[.val (.int x0)] [] := by first | (simp [entryFrame, mkF, argsToLocals, Value.category]; done) | rfl
def expF (p1 : Int32) (d0 : Addr) (d1 : Addr) (d2 : Addr) (d3 : Addr) (d4 : Addr) (d5 : Addr) (d6 : Addr) (d7 : Addr) (d8 : Addr) : Value := (if p1 = (0 : Int32) then (.ref d0) else (if p1 = (1 : Int32) then (.ref d1) else (if p1 = (2 : Int32) then (.ref d2) else (if p1 = (3 : Int32) then (.ref d3) else (if p1 = (4 : Int32) then (.ref d4) else (if p1 = (5 : Int32) then (.ref d5) else (if p1 = (6 : Int32) then (.ref d6) else (if p1 = (7 : Int32) then (.ref d7) else (if p1 = (8 : Int32) then (.ref d8) else .null)))))))))
def QexpF (Z : State) (p1 : Int32) (d0 : Addr) (d1 : Addr) (d2 : Addr) (d3 : Addr) (d4 : Addr) (d5 : Addr) (d6 : Addr) (d7 : Addr) (d8 : Addr) (RES : Value) (h0 : Heap) (n0 : Nat) (v : Option Value) (h : Heap) (L : List Loc) : Prop := v = some RES ∧ Fr n0 L ∧ h = h0
set_option maxRecDepth 65536 in
set_option maxHeartbeats 40000000 in
theorem rm_expF (l : Launch) (Z : State) (a0 : Array Value) (hw : ∀ d ∈ tables_1, d.before a0 Z = true) (ws : List Jvm.Cond) (p1 : Int32) (d0 : Addr) (d1 : Addr) (d2 : Addr) (d3 : Addr) (d4 : Addr) (d5 : Addr) (d6 : Addr) (d7 : Addr) (d8 : Addr) (h0 : Heap) (n0 : Nat) (Z0 : n0 ≤ h0.size) (F0 : Sta Z h0 "com/example/talthybius/talthybius/FrameType" "DATA" "Lcom/example/talthybius/talthybius/FrameType;" (.ref d0)) (F1 : Sta Z h0 "com/example/talthybius/talthybius/FrameType" "PING" "Lcom/example/talthybius/talthybius/FrameType;" (.ref d1)) (F2 : Sta Z h0 "com/example/talthybius/talthybius/FrameType" "PONG" "Lcom/example/talthybius/talthybius/FrameType;" (.ref d2)) (F3 : Sta Z h0 "com/example/talthybius/talthybius/FrameType" "RETIRE" "Lcom/example/talthybius/talthybius/FrameType;" (.ref d3)) (F4 : Sta Z h0 "com/example/talthybius/talthybius/FrameType" "REQUEST" "Lcom/example/talthybius/talthybius/FrameType;" (.ref d4)) (F5 : Sta Z h0 "com/example/talthybius/talthybius/FrameType" "ANSWER" "Lcom/example/talthybius/talthybius/FrameType;" (.ref d5)) (F6 : Sta Z h0 "com/example/talthybius/talthybius/FrameType" "DECLINE" "Lcom/example/talthybius/talthybius/FrameType;" (.ref d6)) (F7 : Sta Z h0 "com/example/talthybius/talthybius/FrameType" "CANCEL" "Lcom/example/talthybius/talthybius/FrameType;" (.ref d7)) (F8 : Sta Z h0 "com/example/talthybius/talthybius/FrameType" "RETIRED" "Lcom/example/talthybius/talthybius/FrameType;" (.ref d8)) :
    MetFree l (⟨"com/example/talthybius/talthybius/FrameTypeFromCodePinLaw", "expected", "(I)Lcom/example/talthybius/talthybius/FrameType;"⟩ : MethodName) (head1 (Jvm.Cond.code (⟨"com/example/talthybius/talthybius/FrameTypeFromCodePinLaw", "expected", "(I)Lcom/example/talthybius/talthybius/FrameType;"⟩ : MethodName) method_2_code 1 (some (.object "com/example/talthybius/talthybius/FrameType")) :: ws) ({ frames := 0, cells := 0, slots := 0, locals := 0 } : Room)) (fun A_ U => A_ = #[(.int p1)] ∧ Z.Warmed39 U.vm ∧ U.heap = h0) (fun _ _ _ _ _ => True) (fun _ U o U' => ∃ v L, o = .returned v ∧ QexpF Z p1 d0 d1 d2 d3 d4 d5 d6 d7 d8 (expF p1 d0 d1 d2 d3 d4 d5 d6 d7 d8) h0 n0 v U'.heap L ∧ FrameEnd U o U' L ({ frames := 0, cells := 0, slots := 0, locals := 0 } : Room).cells ({ frames := 0, cells := 0, slots := 0, locals := 0 } : Room).slots) := by
  refine MetFree.of_bodySF (plainFor_of_name pn_1) hisR ?_
  intro p e s m args below meth c s₁ Bd hml0 hP hK
  obtain ⟨rfl, hZ, hh⟩ := hP
  have hx := Bd.exec
  have hby := Bd.bytes
  have hml : c.maxLocals = 1 := hml0
  have hown : s.vm.findClass "com/example/talthybius/talthybius/FrameTypeFromCodePinLaw" = some m.cls := findClass_of_methodNamed Bd.named
  have hnm := (name_of_methodNamed Bd.named Bd.method).1
  have X0 : Stand p l e ({ frames := 0, cells := 0, slots := 0, locals := 0 } : Room) s m #[(.int p1)] below meth c s₁ [] 0 0 := Stand.of_body Bd
  have e0 : s₁.heap = h0 := by rw [← hh, Bd.state]; rfl
  have N0 := Fr.nil n0
  obtain ⟨RES, hf⟩ : ∃ z, z = expF p1 d0 d1 d2 d3 d4 d5 d6 d7 d8 := ⟨_, rfl⟩
  rw [← hf]
  rw [expF] at hf
  suffices HGO : Go p e below s (QexpF Z p1 d0 d1 d2 d3 d4 d5 d6 d7 d8 RES h0 n0) ({ frames := 0, cells := 0, slots := 0, locals := 0 } : Room).cells ({ frames := 0, cells := 0, slots := 0, locals := 0 } : Room).slots s₁ (mkF m 0 #[.val (.int p1)] []) from Go.cast (ef_expF m p1) HGO
  refine Go.step (T' := s₁) (f' := (mkF m 1 #[.val (.int p1)] [(.int p1)])) (fun t kt => ?_) ?_
  · show Steps p.tables e below (s₁.setTop (mkF m 0 #[.val (.int p1)] [])) _
    refine XS.iloadN X0.here hx rfl (hb hby d2_0) rfl ?_
    exact kt
  by_cases hc1 : p1 = (0 : Int32)
  · rw [if_pos hc1] at hf
    refine Go.step (T' := s₁) (f' := (mkF m 4 #[.val (.int p1)] [])) (fun t kt => ?_) ?_
    · show Steps p.tables e below (s₁.setTop (mkF m 1 #[.val (.int p1)] [(.int p1)])) _
      refine XS.ifNo X0.here hx rfl (hb hby d2_1) rfl ((if0 _ _).trans (teq hc1).2) ?_
      exact kt
    obtain ⟨T2, X2, e2, st2⟩ := getS2 X0 hx hZ hown (host := "") (Or.inl (hw _ (List.mem_of_getElem? (i := 13) rfl))) Via.refl e0 F0 (g := (mkF m 4 #[.val (.int p1)] [])) rfl (hb hby d2_4)
    refine Go.step (T' := T2) (f' := (mkF m 7 #[.val (.int p1)] [(.ref d0)])) (fun t kt => ?_) ?_
    · show Steps p.tables e below (s₁.setTop (mkF m 4 #[.val (.int p1)] [])) _
      refine st2 _ ?_
      exact kt
    refine Go.fin X2 (v := some (.ref d0)) (fun h => by rw [Bd.returns] at h; cases h) Bd.notSynchronized ?_ (Nat.le_trans (Nat.le_refl 0) (by decide)) (Nat.le_trans (Nat.le_refl 0) (by decide)) (fun fs hr => X2.areturnOut hx rfl Bd.returns rfl (hb hby d2_7) hr)
    · exact ⟨by rw [hf], N0, e2⟩
  · rw [if_neg hc1] at hf
    refine Go.step (T' := s₁) (f' := (mkF m 8 #[.val (.int p1)] [])) (fun t kt => ?_) ?_
    · show Steps p.tables e below (s₁.setTop (mkF m 1 #[.val (.int p1)] [(.int p1)])) _
      refine XS.ifYes X0.here hx rfl (pc0 := 1) (pc' := 8) rfl (hb hby d2_1) rfl ((if0 _ _).trans (feq hc1).2) (by decide) (by decide) ?_
      exact kt
    refine Go.step (T' := s₁) (f' := (mkF m 10 #[.val (.int p1)] [(.int (1 : Int32)), (.int p1)])) (fun t kt => ?_) ?_
    · show Steps p.tables e below (s₁.setTop (mkF m 8 #[.val (.int p1)] [])) _
      refine XS.iloadN X0.here hx rfl (hb hby d2_8) rfl ?_
      show Steps p.tables e below (s₁.setTop (mkF m 9 #[.val (.int p1)] [(.int p1)])) _
      refine XS.iconst X0.here hx rfl (hb hby d2_9) ?_
      exact kt
    by_cases hc3 : p1 = (1 : Int32)
    · rw [if_pos hc3] at hf
      refine Go.step (T' := s₁) (f' := (mkF m 13 #[.val (.int p1)] [])) (fun t kt => ?_) ?_
      · show Steps p.tables e below (s₁.setTop (mkF m 10 #[.val (.int p1)] [(.int (1 : Int32)), (.int p1)])) _
        refine XS.icmpNo X0.here hx rfl (hb hby d2_10) rfl (teq hc3).2 ?_
        exact kt
      obtain ⟨T4, X4, e4, st4⟩ := getS2 X0 hx hZ hown (host := "") (Or.inl (hw _ (List.mem_of_getElem? (i := 26) rfl))) Via.refl e0 F1 (g := (mkF m 13 #[.val (.int p1)] [])) rfl (hb hby d2_13)
      refine Go.step (T' := T4) (f' := (mkF m 16 #[.val (.int p1)] [(.ref d1)])) (fun t kt => ?_) ?_
      · show Steps p.tables e below (s₁.setTop (mkF m 13 #[.val (.int p1)] [])) _
        refine st4 _ ?_
        exact kt
      refine Go.fin X4 (v := some (.ref d1)) (fun h => by rw [Bd.returns] at h; cases h) Bd.notSynchronized ?_ (Nat.le_trans (Nat.le_refl 0) (by decide)) (Nat.le_trans (Nat.le_refl 0) (by decide)) (fun fs hr => X4.areturnOut hx rfl Bd.returns rfl (hb hby d2_16) hr)
      · exact ⟨by rw [hf], N0, e4⟩
    · rw [if_neg hc3] at hf
      refine Go.step (T' := s₁) (f' := (mkF m 17 #[.val (.int p1)] [])) (fun t kt => ?_) ?_
      · show Steps p.tables e below (s₁.setTop (mkF m 10 #[.val (.int p1)] [(.int (1 : Int32)), (.int p1)])) _
        refine XS.icmpYes X0.here hx rfl (pc0 := 10) (pc' := 17) rfl (hb hby d2_10) rfl (feq hc3).2 (by decide) (by decide) ?_
        exact kt
      refine Go.step (T' := s₁) (f' := (mkF m 19 #[.val (.int p1)] [(.int (2 : Int32)), (.int p1)])) (fun t kt => ?_) ?_
      · show Steps p.tables e below (s₁.setTop (mkF m 17 #[.val (.int p1)] [])) _
        refine XS.iloadN X0.here hx rfl (hb hby d2_17) rfl ?_
        show Steps p.tables e below (s₁.setTop (mkF m 18 #[.val (.int p1)] [(.int p1)])) _
        refine XS.iconst X0.here hx rfl (hb hby d2_18) ?_
        exact kt
      by_cases hc5 : p1 = (2 : Int32)
      · rw [if_pos hc5] at hf
        refine Go.step (T' := s₁) (f' := (mkF m 22 #[.val (.int p1)] [])) (fun t kt => ?_) ?_
        · show Steps p.tables e below (s₁.setTop (mkF m 19 #[.val (.int p1)] [(.int (2 : Int32)), (.int p1)])) _
          refine XS.icmpNo X0.here hx rfl (hb hby d2_19) rfl (teq hc5).2 ?_
          exact kt
        obtain ⟨T6, X6, e6, st6⟩ := getS2 X0 hx hZ hown (host := "") (Or.inl (hw _ (List.mem_of_getElem? (i := 27) rfl))) Via.refl e0 F2 (g := (mkF m 22 #[.val (.int p1)] [])) rfl (hb hby d2_22)
        refine Go.step (T' := T6) (f' := (mkF m 25 #[.val (.int p1)] [(.ref d2)])) (fun t kt => ?_) ?_
        · show Steps p.tables e below (s₁.setTop (mkF m 22 #[.val (.int p1)] [])) _
          refine st6 _ ?_
          exact kt
        refine Go.fin X6 (v := some (.ref d2)) (fun h => by rw [Bd.returns] at h; cases h) Bd.notSynchronized ?_ (Nat.le_trans (Nat.le_refl 0) (by decide)) (Nat.le_trans (Nat.le_refl 0) (by decide)) (fun fs hr => X6.areturnOut hx rfl Bd.returns rfl (hb hby d2_25) hr)
        · exact ⟨by rw [hf], N0, e6⟩
      · rw [if_neg hc5] at hf
        refine Go.step (T' := s₁) (f' := (mkF m 26 #[.val (.int p1)] [])) (fun t kt => ?_) ?_
        · show Steps p.tables e below (s₁.setTop (mkF m 19 #[.val (.int p1)] [(.int (2 : Int32)), (.int p1)])) _
          refine XS.icmpYes X0.here hx rfl (pc0 := 19) (pc' := 26) rfl (hb hby d2_19) rfl (feq hc5).2 (by decide) (by decide) ?_
          exact kt
        refine Go.step (T' := s₁) (f' := (mkF m 28 #[.val (.int p1)] [(.int (3 : Int32)), (.int p1)])) (fun t kt => ?_) ?_
        · show Steps p.tables e below (s₁.setTop (mkF m 26 #[.val (.int p1)] [])) _
          refine XS.iloadN X0.here hx rfl (hb hby d2_26) rfl ?_
          show Steps p.tables e below (s₁.setTop (mkF m 27 #[.val (.int p1)] [(.int p1)])) _
          refine XS.iconst X0.here hx rfl (hb hby d2_27) ?_
          exact kt
        by_cases hc7 : p1 = (3 : Int32)
        · rw [if_pos hc7] at hf
          refine Go.step (T' := s₁) (f' := (mkF m 31 #[.val (.int p1)] [])) (fun t kt => ?_) ?_
          · show Steps p.tables e below (s₁.setTop (mkF m 28 #[.val (.int p1)] [(.int (3 : Int32)), (.int p1)])) _
            refine XS.icmpNo X0.here hx rfl (hb hby d2_28) rfl (teq hc7).2 ?_
            exact kt
          obtain ⟨T8, X8, e8, st8⟩ := getS2 X0 hx hZ hown (host := "") (Or.inl (hw _ (List.mem_of_getElem? (i := 25) rfl))) Via.refl e0 F3 (g := (mkF m 31 #[.val (.int p1)] [])) rfl (hb hby d2_31)
          refine Go.step (T' := T8) (f' := (mkF m 34 #[.val (.int p1)] [(.ref d3)])) (fun t kt => ?_) ?_
          · show Steps p.tables e below (s₁.setTop (mkF m 31 #[.val (.int p1)] [])) _
            refine st8 _ ?_
            exact kt
          refine Go.fin X8 (v := some (.ref d3)) (fun h => by rw [Bd.returns] at h; cases h) Bd.notSynchronized ?_ (Nat.le_trans (Nat.le_refl 0) (by decide)) (Nat.le_trans (Nat.le_refl 0) (by decide)) (fun fs hr => X8.areturnOut hx rfl Bd.returns rfl (hb hby d2_34) hr)
          · exact ⟨by rw [hf], N0, e8⟩
        · rw [if_neg hc7] at hf
          refine Go.step (T' := s₁) (f' := (mkF m 35 #[.val (.int p1)] [])) (fun t kt => ?_) ?_
          · show Steps p.tables e below (s₁.setTop (mkF m 28 #[.val (.int p1)] [(.int (3 : Int32)), (.int p1)])) _
            refine XS.icmpYes X0.here hx rfl (pc0 := 28) (pc' := 35) rfl (hb hby d2_28) rfl (feq hc7).2 (by decide) (by decide) ?_
            exact kt
          refine Go.step (T' := s₁) (f' := (mkF m 37 #[.val (.int p1)] [(.int (4 : Int32)), (.int p1)])) (fun t kt => ?_) ?_
          · show Steps p.tables e below (s₁.setTop (mkF m 35 #[.val (.int p1)] [])) _
            refine XS.iloadN X0.here hx rfl (hb hby d2_35) rfl ?_
            show Steps p.tables e below (s₁.setTop (mkF m 36 #[.val (.int p1)] [(.int p1)])) _
            refine XS.iconst X0.here hx rfl (hb hby d2_36) ?_
            exact kt
          by_cases hc9 : p1 = (4 : Int32)
          · rw [if_pos hc9] at hf
            refine Go.step (T' := s₁) (f' := (mkF m 40 #[.val (.int p1)] [])) (fun t kt => ?_) ?_
            · show Steps p.tables e below (s₁.setTop (mkF m 37 #[.val (.int p1)] [(.int (4 : Int32)), (.int p1)])) _
              refine XS.icmpNo X0.here hx rfl (hb hby d2_37) rfl (teq hc9).2 ?_
              exact kt
            obtain ⟨T10, X10, e10, st10⟩ := getS2 X0 hx hZ hown (host := "") (Or.inl (hw _ (List.mem_of_getElem? (i := 22) rfl))) Via.refl e0 F4 (g := (mkF m 40 #[.val (.int p1)] [])) rfl (hb hby d2_40)
            refine Go.step (T' := T10) (f' := (mkF m 43 #[.val (.int p1)] [(.ref d4)])) (fun t kt => ?_) ?_
            · show Steps p.tables e below (s₁.setTop (mkF m 40 #[.val (.int p1)] [])) _
              refine st10 _ ?_
              exact kt
            refine Go.fin X10 (v := some (.ref d4)) (fun h => by rw [Bd.returns] at h; cases h) Bd.notSynchronized ?_ (Nat.le_trans (Nat.le_refl 0) (by decide)) (Nat.le_trans (Nat.le_refl 0) (by decide)) (fun fs hr => X10.areturnOut hx rfl Bd.returns rfl (hb hby d2_43) hr)
            · exact ⟨by rw [hf], N0, e10⟩
          · rw [if_neg hc9] at hf
            refine Go.step (T' := s₁) (f' := (mkF m 44 #[.val (.int p1)] [])) (fun t kt => ?_) ?_
            · show Steps p.tables e below (s₁.setTop (mkF m 37 #[.val (.int p1)] [(.int (4 : Int32)), (.int p1)])) _
              refine XS.icmpYes X0.here hx rfl (pc0 := 37) (pc' := 44) rfl (hb hby d2_37) rfl (feq hc9).2 (by decide) (by decide) ?_
              exact kt
            refine Go.step (T' := s₁) (f' := (mkF m 46 #[.val (.int p1)] [(.int (5 : Int32)), (.int p1)])) (fun t kt => ?_) ?_
            · show Steps p.tables e below (s₁.setTop (mkF m 44 #[.val (.int p1)] [])) _
              refine XS.iloadN X0.here hx rfl (hb hby d2_44) rfl ?_
              show Steps p.tables e below (s₁.setTop (mkF m 45 #[.val (.int p1)] [(.int p1)])) _
              refine XS.iconst X0.here hx rfl (hb hby d2_45) ?_
              exact kt
            by_cases hc11 : p1 = (5 : Int32)
            · rw [if_pos hc11] at hf
              refine Go.step (T' := s₁) (f' := (mkF m 49 #[.val (.int p1)] [])) (fun t kt => ?_) ?_
              · show Steps p.tables e below (s₁.setTop (mkF m 46 #[.val (.int p1)] [(.int (5 : Int32)), (.int p1)])) _
                refine XS.icmpNo X0.here hx rfl (hb hby d2_46) rfl (teq hc11).2 ?_
                exact kt
              obtain ⟨T12, X12, e12, st12⟩ := getS2 X0 hx hZ hown (host := "") (Or.inl (hw _ (List.mem_of_getElem? (i := 29) rfl))) Via.refl e0 F5 (g := (mkF m 49 #[.val (.int p1)] [])) rfl (hb hby d2_49)
              refine Go.step (T' := T12) (f' := (mkF m 52 #[.val (.int p1)] [(.ref d5)])) (fun t kt => ?_) ?_
              · show Steps p.tables e below (s₁.setTop (mkF m 49 #[.val (.int p1)] [])) _
                refine st12 _ ?_
                exact kt
              refine Go.fin X12 (v := some (.ref d5)) (fun h => by rw [Bd.returns] at h; cases h) Bd.notSynchronized ?_ (Nat.le_trans (Nat.le_refl 0) (by decide)) (Nat.le_trans (Nat.le_refl 0) (by decide)) (fun fs hr => X12.areturnOut hx rfl Bd.returns rfl (hb hby d2_52) hr)
              · exact ⟨by rw [hf], N0, e12⟩
            · rw [if_neg hc11] at hf
              refine Go.step (T' := s₁) (f' := (mkF m 53 #[.val (.int p1)] [])) (fun t kt => ?_) ?_
              · show Steps p.tables e below (s₁.setTop (mkF m 46 #[.val (.int p1)] [(.int (5 : Int32)), (.int p1)])) _
                refine XS.icmpYes X0.here hx rfl (pc0 := 46) (pc' := 53) rfl (hb hby d2_46) rfl (feq hc11).2 (by decide) (by decide) ?_
                exact kt
              refine Go.step (T' := s₁) (f' := (mkF m 56 #[.val (.int p1)] [(.int (6 : Int32)), (.int p1)])) (fun t kt => ?_) ?_
              · show Steps p.tables e below (s₁.setTop (mkF m 53 #[.val (.int p1)] [])) _
                refine XS.iloadN X0.here hx rfl (hb hby d2_53) rfl ?_
                show Steps p.tables e below (s₁.setTop (mkF m 54 #[.val (.int p1)] [(.int p1)])) _
                refine XS.bipush X0.here hx rfl (hb hby d2_54) ?_
                exact kt
              by_cases hc13 : p1 = (6 : Int32)
              · rw [if_pos hc13] at hf
                refine Go.step (T' := s₁) (f' := (mkF m 59 #[.val (.int p1)] [])) (fun t kt => ?_) ?_
                · show Steps p.tables e below (s₁.setTop (mkF m 56 #[.val (.int p1)] [(.int (6 : Int32)), (.int p1)])) _
                  refine XS.icmpNo X0.here hx rfl (hb hby d2_56) rfl (teq hc13).2 ?_
                  exact kt
                obtain ⟨T14, X14, e14, st14⟩ := getS2 X0 hx hZ hown (host := "") (Or.inl (hw _ (List.mem_of_getElem? (i := 23) rfl))) Via.refl e0 F6 (g := (mkF m 59 #[.val (.int p1)] [])) rfl (hb hby d2_59)
                refine Go.step (T' := T14) (f' := (mkF m 62 #[.val (.int p1)] [(.ref d6)])) (fun t kt => ?_) ?_
                · show Steps p.tables e below (s₁.setTop (mkF m 59 #[.val (.int p1)] [])) _
                  refine st14 _ ?_
                  exact kt
                refine Go.fin X14 (v := some (.ref d6)) (fun h => by rw [Bd.returns] at h; cases h) Bd.notSynchronized ?_ (Nat.le_trans (Nat.le_refl 0) (by decide)) (Nat.le_trans (Nat.le_refl 0) (by decide)) (fun fs hr => X14.areturnOut hx rfl Bd.returns rfl (hb hby d2_62) hr)
                · exact ⟨by rw [hf], N0, e14⟩
              · rw [if_neg hc13] at hf
                refine Go.step (T' := s₁) (f' := (mkF m 63 #[.val (.int p1)] [])) (fun t kt => ?_) ?_
                · show Steps p.tables e below (s₁.setTop (mkF m 56 #[.val (.int p1)] [(.int (6 : Int32)), (.int p1)])) _
                  refine XS.icmpYes X0.here hx rfl (pc0 := 56) (pc' := 63) rfl (hb hby d2_56) rfl (feq hc13).2 (by decide) (by decide) ?_
                  exact kt
                refine Go.step (T' := s₁) (f' := (mkF m 66 #[.val (.int p1)] [(.int (7 : Int32)), (.int p1)])) (fun t kt => ?_) ?_
                · show Steps p.tables e below (s₁.setTop (mkF m 63 #[.val (.int p1)] [])) _
                  refine XS.iloadN X0.here hx rfl (hb hby d2_63) rfl ?_
                  show Steps p.tables e below (s₁.setTop (mkF m 64 #[.val (.int p1)] [(.int p1)])) _
                  refine XS.bipush X0.here hx rfl (hb hby d2_64) ?_
                  exact kt
                by_cases hc15 : p1 = (7 : Int32)
                · rw [if_pos hc15] at hf
                  refine Go.step (T' := s₁) (f' := (mkF m 69 #[.val (.int p1)] [])) (fun t kt => ?_) ?_
                  · show Steps p.tables e below (s₁.setTop (mkF m 66 #[.val (.int p1)] [(.int (7 : Int32)), (.int p1)])) _
                    refine XS.icmpNo X0.here hx rfl (hb hby d2_66) rfl (teq hc15).2 ?_
                    exact kt
                  obtain ⟨T16, X16, e16, st16⟩ := getS2 X0 hx hZ hown (host := "") (Or.inl (hw _ (List.mem_of_getElem? (i := 28) rfl))) Via.refl e0 F7 (g := (mkF m 69 #[.val (.int p1)] [])) rfl (hb hby d2_69)
                  refine Go.step (T' := T16) (f' := (mkF m 72 #[.val (.int p1)] [(.ref d7)])) (fun t kt => ?_) ?_
                  · show Steps p.tables e below (s₁.setTop (mkF m 69 #[.val (.int p1)] [])) _
                    refine st16 _ ?_
                    exact kt
                  refine Go.fin X16 (v := some (.ref d7)) (fun h => by rw [Bd.returns] at h; cases h) Bd.notSynchronized ?_ (Nat.le_trans (Nat.le_refl 0) (by decide)) (Nat.le_trans (Nat.le_refl 0) (by decide)) (fun fs hr => X16.areturnOut hx rfl Bd.returns rfl (hb hby d2_72) hr)
                  · exact ⟨by rw [hf], N0, e16⟩
                · rw [if_neg hc15] at hf
                  refine Go.step (T' := s₁) (f' := (mkF m 73 #[.val (.int p1)] [])) (fun t kt => ?_) ?_
                  · show Steps p.tables e below (s₁.setTop (mkF m 66 #[.val (.int p1)] [(.int (7 : Int32)), (.int p1)])) _
                    refine XS.icmpYes X0.here hx rfl (pc0 := 66) (pc' := 73) rfl (hb hby d2_66) rfl (feq hc15).2 (by decide) (by decide) ?_
                    exact kt
                  refine Go.step (T' := s₁) (f' := (mkF m 76 #[.val (.int p1)] [(.int (8 : Int32)), (.int p1)])) (fun t kt => ?_) ?_
                  · show Steps p.tables e below (s₁.setTop (mkF m 73 #[.val (.int p1)] [])) _
                    refine XS.iloadN X0.here hx rfl (hb hby d2_73) rfl ?_
                    show Steps p.tables e below (s₁.setTop (mkF m 74 #[.val (.int p1)] [(.int p1)])) _
                    refine XS.bipush X0.here hx rfl (hb hby d2_74) ?_
                    exact kt
                  by_cases hc17 : p1 = (8 : Int32)
                  · rw [if_pos hc17] at hf
                    refine Go.step (T' := s₁) (f' := (mkF m 79 #[.val (.int p1)] [])) (fun t kt => ?_) ?_
                    · show Steps p.tables e below (s₁.setTop (mkF m 76 #[.val (.int p1)] [(.int (8 : Int32)), (.int p1)])) _
                      refine XS.icmpNo X0.here hx rfl (hb hby d2_76) rfl (teq hc17).2 ?_
                      exact kt
                    obtain ⟨T18, X18, e18, st18⟩ := getS2 X0 hx hZ hown (host := "") (Or.inl (hw _ (List.mem_of_getElem? (i := 24) rfl))) Via.refl e0 F8 (g := (mkF m 79 #[.val (.int p1)] [])) rfl (hb hby d2_79)
                    refine Go.step (T' := T18) (f' := (mkF m 82 #[.val (.int p1)] [(.ref d8)])) (fun t kt => ?_) ?_
                    · show Steps p.tables e below (s₁.setTop (mkF m 79 #[.val (.int p1)] [])) _
                      refine st18 _ ?_
                      exact kt
                    refine Go.fin X18 (v := some (.ref d8)) (fun h => by rw [Bd.returns] at h; cases h) Bd.notSynchronized ?_ (Nat.le_trans (Nat.le_refl 0) (by decide)) (Nat.le_trans (Nat.le_refl 0) (by decide)) (fun fs hr => X18.areturnOut hx rfl Bd.returns rfl (hb hby d2_82) hr)
                    · exact ⟨by rw [hf], N0, e18⟩
                  · rw [if_neg hc17] at hf
                    refine Go.step (T' := s₁) (f' := (mkF m 83 #[.val (.int p1)] [])) (fun t kt => ?_) ?_
                    · show Steps p.tables e below (s₁.setTop (mkF m 76 #[.val (.int p1)] [(.int (8 : Int32)), (.int p1)])) _
                      refine XS.icmpYes X0.here hx rfl (pc0 := 76) (pc' := 83) rfl (hb hby d2_76) rfl (feq hc17).2 (by decide) (by decide) ?_
                      exact kt
                    refine Go.step (T' := s₁) (f' := (mkF m 84 #[.val (.int p1)] [.null])) (fun t kt => ?_) ?_
                    · show Steps p.tables e below (s₁.setTop (mkF m 83 #[.val (.int p1)] [])) _
                      refine XS.aconstNull X0.here hx rfl (hb hby d2_83) ?_
                      exact kt
                    refine Go.fin X0 (v := some .null) (fun h => by rw [Bd.returns] at h; cases h) Bd.notSynchronized ?_ (Nat.le_trans (Nat.le_refl 0) (by decide)) (Nat.le_trans (Nat.le_refl 0) (by decide)) (fun fs hr => X0.areturnOut hx rfl Bd.returns rfl (hb hby d2_84) hr)
                    · exact ⟨by rw [hf], N0, e0⟩
theorem own_r1 (p : Int32) (a d0 d1 d2 d3 d4 d5 d6 d7 d8 : Addr) : (froF p a d0 d1 d2 d3 d4 d5 d6 d7 d8).isRef = true := by
  unfold froF
  repeat' split
  all_goals rfl
theorem own_r2 (p : Int32) (d0 d1 d2 d3 d4 d5 d6 d7 d8 : Addr) : (expF p d0 d1 d2 d3 d4 d5 d6 d7 d8).isRef = true := by
  unfold expF
  repeat' split
  all_goals rfl
theorem own_eq (p : Int32) (a d0 d1 d2 d3 d4 d5 d6 d7 d8 : Addr) : (froF p a d0 d1 d2 d3 d4 d5 d6 d7 d8) = (expF p d0 d1 d2 d3 d4 d5 d6 d7 d8) := by
  unfold froF expF
  by_cases h0 : p = 0
  · subst h0; rfl
  by_cases h1 : p = 1
  · subst h1; rfl
  by_cases h2 : p = 2
  · subst h2; rfl
  by_cases h3 : p = 3
  · subst h3; rfl
  by_cases h4 : p = 4
  · subst h4; rfl
  by_cases h5 : p = 5
  · subst h5; rfl
  by_cases h6 : p = 6
  · subst h6; rfl
  by_cases h7 : p = 7
  · subst h7; rfl
  by_cases h8 : p = 8
  · subst h8; rfl
  simp [h0, h1, h2, h3, h4, h5, h6, h7, h8, Ne.symm h0, Ne.symm h1, Ne.symm h2, Ne.symm h3, Ne.symm h4, Ne.symm h5, Ne.symm h6, Ne.symm h7, Ne.symm h8]
theorem own_eqv {args : Array Value} {s : State} {a b : Term} {x : Value} (hb' : b.eval args s none [] s = some x) (h : (Jvm.Cond.eq a b).value args s none s [] = some true) : a.eval args s none [] s = some x := by
  cases ha : a.eval args s none [] s with
  | none => simp [Cond.value, ha] at h
  | some y => cases x <;> cases y <;> simp_all [Cond.value]
theorem own_sz {args : Array Value} {s : State} {t : Term} {x : Addr} {cl : Cell} (ht : t.eval args s none [] s = some (.ref x)) (ha : s.arrayAt? x = some cl) (h : (Jvm.Cond.eq (.length t) (.int (9 : Int32))).value args s none s [] = some true) : cl.slots.size = 9 := by
  have q := own_eqv (x := .int 9) rfl h
  by_cases hs : cl.slots.size < 2 ^ 31
  · rw [len_f ht ha hs] at q
    have e : cl.slots.size.toInt32 = 9 := by simpa using q
    have e2 := len_toInt hs
    rw [e] at e2
    have k9 : (9 : Int32).toInt = 9 := rfl
    omega
  · simp [Term.eval, ht, ha, hs] at q
theorem pd_0 : parseMethodDescriptor "(I)Lcom/example/talthybius/talthybius/FrameType;" = some ⟨[.int], some (.object "com/example/talthybius/talthybius/FrameType")⟩ := by decide +kernel
theorem ef_0 (m : MethodId) (x0 : Int32) (x1 : Int32) : entryFrame m #[(.int x0), (.int x1)] maxLocals = mkF m 0 #[.val (.int x0), .val (.int x1), .unset, .unset, .unset] [] := by first | (simp [entryFrame, mkF, argsToLocals, Value.category, maxLocals]; done) | rfl
def Q0 (Z : State) (p1 : Int32) (p2 : Int32) (aT : Addr) (d0 : Addr) (d1 : Addr) (d2 : Addr) (d3 : Addr) (d4 : Addr) (d5 : Addr) (d6 : Addr) (d7 : Addr) (d8 : Addr) (h0 : Heap) (n0 : Nat) (v : Option Value) (h : Heap) (L : List Loc) : Prop := v = some (.int (1 : Int32)) ∧ Fr n0 L
set_option maxRecDepth 65536 in
set_option maxHeartbeats 40000000 in
theorem rm_0 (l : Launch) (Z : State) (a0 : Array Value) (hw : ∀ d ∈ tables_1, d.before a0 Z = true) (ws : List Jvm.Cond) (p1 : Int32) (p2 : Int32) (aT : Addr) (d0 : Addr) (d1 : Addr) (d2 : Addr) (d3 : Addr) (d4 : Addr) (d5 : Addr) (d6 : Addr) (d7 : Addr) (d8 : Addr) (h0 : Heap) (n0 : Nat) (Z0 : n0 ≤ h0.size) (F0 : Sta Z h0 "com/example/talthybius/talthybius/FrameType" "TYPES" "[Lcom/example/talthybius/talthybius/FrameType;" (.ref aT)) (F1 : VA Z h0 aT (.object "com/example/talthybius/talthybius/FrameType") ([d0, d1, d2, d3, d4, d5, d6, d7, d8].map Value.ref)) (F2 : Fld Z h0 d0 "com/example/talthybius/talthybius/FrameType" "code" "I" (.int (0 : Int32))) (F3 : Fld Z h0 d1 "com/example/talthybius/talthybius/FrameType" "code" "I" (.int (1 : Int32))) (F4 : Fld Z h0 d2 "com/example/talthybius/talthybius/FrameType" "code" "I" (.int (2 : Int32))) (F5 : Fld Z h0 d3 "com/example/talthybius/talthybius/FrameType" "code" "I" (.int (3 : Int32))) (F6 : Fld Z h0 d4 "com/example/talthybius/talthybius/FrameType" "code" "I" (.int (4 : Int32))) (F7 : Fld Z h0 d5 "com/example/talthybius/talthybius/FrameType" "code" "I" (.int (5 : Int32))) (F8 : Fld Z h0 d6 "com/example/talthybius/talthybius/FrameType" "code" "I" (.int (6 : Int32))) (F9 : Fld Z h0 d7 "com/example/talthybius/talthybius/FrameType" "code" "I" (.int (7 : Int32))) (F10 : Fld Z h0 d8 "com/example/talthybius/talthybius/FrameType" "code" "I" (.int (8 : Int32))) (F11 : Sta Z h0 "com/example/talthybius/talthybius/FrameType" "DATA" "Lcom/example/talthybius/talthybius/FrameType;" (.ref d0)) (F12 : Sta Z h0 "com/example/talthybius/talthybius/FrameType" "PING" "Lcom/example/talthybius/talthybius/FrameType;" (.ref d1)) (F13 : Sta Z h0 "com/example/talthybius/talthybius/FrameType" "PONG" "Lcom/example/talthybius/talthybius/FrameType;" (.ref d2)) (F14 : Sta Z h0 "com/example/talthybius/talthybius/FrameType" "RETIRE" "Lcom/example/talthybius/talthybius/FrameType;" (.ref d3)) (F15 : Sta Z h0 "com/example/talthybius/talthybius/FrameType" "REQUEST" "Lcom/example/talthybius/talthybius/FrameType;" (.ref d4)) (F16 : Sta Z h0 "com/example/talthybius/talthybius/FrameType" "ANSWER" "Lcom/example/talthybius/talthybius/FrameType;" (.ref d5)) (F17 : Sta Z h0 "com/example/talthybius/talthybius/FrameType" "DECLINE" "Lcom/example/talthybius/talthybius/FrameType;" (.ref d6)) (F18 : Sta Z h0 "com/example/talthybius/talthybius/FrameType" "CANCEL" "Lcom/example/talthybius/talthybius/FrameType;" (.ref d7)) (F19 : Sta Z h0 "com/example/talthybius/talthybius/FrameType" "RETIRED" "Lcom/example/talthybius/talthybius/FrameType;" (.ref d8)) :
    MetFree l x (head1 (Jvm.Cond.code x code maxLocals ret :: ws) room_1) (fun A_ U => A_ = #[(.int p1), (.int p2)] ∧ Z.Warmed39 U.vm ∧ U.heap = h0) (fun _ _ _ _ _ => True) (fun _ U o U' => ∃ v L, o = .returned v ∧ Q0 Z p1 p2 aT d0 d1 d2 d3 d4 d5 d6 d7 d8 h0 n0 v U'.heap L ∧ FrameEnd U o U' L 0 0) := by
  refine MetFree.of_bodySF (plainFor_of_name pn_1) hisR ?_
  intro p e s m args below meth c s₁ Bd hml0 hP hK
  obtain ⟨rfl, hZ, hh⟩ := hP
  have hx := Bd.exec
  have hby := Bd.bytes
  have hml : c.maxLocals = 5 := hml0
  have hown : s.vm.findClass "com/example/talthybius/talthybius/FrameTypeFromCodePinLaw" = some m.cls := findClass_of_methodNamed Bd.named
  have hnm := (name_of_methodNamed Bd.named Bd.method).1
  have X0 : Stand p l e room_1 s m #[(.int p1), (.int p2)] below meth c s₁ [] 0 0 := Stand.of_body Bd
  have e0 : s₁.heap = h0 := by rw [← hh, Bd.state]; rfl
  have N0 := Fr.nil n0
  suffices HGO : Go p e below s (Q0 Z p1 p2 aT d0 d1 d2 d3 d4 d5 d6 d7 d8 h0 n0) 0 0 s₁ (mkF m 0 #[.val (.int p1), .val (.int p2), .unset, .unset, .unset] []) from Go.cast (ef_0 m p1 p2) HGO
  have S24 : ∀ (T : State) (locs : List Loc) (cells slots : Nat) (X : Stand p l e room_1 s m #[(.int p1), (.int p2)] below meth c T locs cells slots) (hcl : cells ≤ 0) (hsl : slots ≤ 0) (eT : T.heap = h0) (N : Fr n0 locs) (x2 : Int32) (t0 : Int32)  , Go p e below s (Q0 Z p1 p2 aT d0 d1 d2 d3 d4 d5 d6 d7 d8 h0 n0) 0 0 T (mkF m 24 #[.val (.int p1), .val (.int p2), .val (.int x2), .unset, .unset] [(.int t0)]) := by
    intro T locs cells slots X hcl hsl eT N x2 t0
    obtain ⟨_, _, ⟨T1, L1, k1, n1⟩, -, X1, ⟨Lc1, hQ1, l1, y1, z1⟩, st1⟩ := Jvm.LawKit.callS X hx (y := (⟨"com/example/talthybius/talthybius/FrameType", "fromCode", "(I)Lcom/example/talthybius/talthybius/FrameType;"⟩ : MethodName)) hown (mvT hZ (hw _ (List.mem_of_getElem? (i := 0) rfl))) (mvT hZ (hw _ (List.mem_of_getElem? (i := 1) rfl))) (mvT hZ (hw _ (List.mem_of_getElem? (i := 2) rfl))) (mvT hZ (hw _ (List.mem_of_getElem? (i := 3) rfl))) (by decide) (backOf (W := 0) (rm_froF l Z a0 hw [] t0 aT d0 d1 d2 d3 d4 d5 d6 d7 d8 h0 n0 Z0 F0 F1 F2 F3 F4 F5 F6 F7 F8 F9 F10 ) hZ (hw _ (List.mem_of_getElem? (i := 3) rfl)) (hw _ (List.mem_of_getElem? (i := 2) rfl)) (by decide) (by decide)) (g := (mkF m 26 #[.val (.int p1), .val (.int p2), .val (.int x2), .val (.int t0), .unset] [(.int t0)])) rfl (by rw [hml]; rfl) (argsL := [(.int t0)]) (rest := []) (lenOf pd_0 rfl) rfl (by show 2 * 0 + _ ≤ _; exact Nat.le_of_eq rfl) (hb hby at_26) (fun _ _ => ⟨rfl, eT, (Nat.le_trans (Nat.add_le_add_right hcl 0) (by decide)), (Nat.le_trans (Nat.add_le_add_right hsl 0) (by decide))⟩)
    dsimp only [Pt.U, Pt.locs, Pt.cells, Pt.slots] at X1 l1 y1 z1 st1 hQ1
    subst l1 y1 z1
    obtain ⟨rfl, N1q, e1⟩ := hQ1
    have N1 := Fr.app N N1q
    obtain ⟨_, _, ⟨T2, L2, k2, n2⟩, -, X2, ⟨Lc2, hQ2, l2, y2, z2⟩, st2⟩ := Jvm.LawKit.callS X1 hx (y := (⟨"com/example/talthybius/talthybius/FrameTypeFromCodePinLaw", "expected", "(I)Lcom/example/talthybius/talthybius/FrameType;"⟩ : MethodName)) hown (mvT hZ (hw _ (List.mem_of_getElem? (i := 9) rfl))) (mvT hZ (hw _ (List.mem_of_getElem? (i := 10) rfl))) (mvT hZ (hw _ (List.mem_of_getElem? (i := 11) rfl))) (mvT hZ (hw _ (List.mem_of_getElem? (i := 12) rfl))) (by decide) (backOf (W := 1) (rm_expF l Z a0 hw [] t0 d0 d1 d2 d3 d4 d5 d6 d7 d8 h0 n0 Z0 F11 F12 F13 F14 F15 F16 F17 F18 F19 ) hZ (hw _ (List.mem_of_getElem? (i := 12) rfl)) (hw _ (List.mem_of_getElem? (i := 11) rfl)) (by decide) (by decide)) (g := (mkF m 34 #[.val (.int p1), .val (.int p2), .val (.int x2), .val (.int t0), .val (froF t0 aT d0 d1 d2 d3 d4 d5 d6 d7 d8)] [(.int t0), (froF t0 aT d0 d1 d2 d3 d4 d5 d6 d7 d8)])) rfl (by rw [hml]; rfl) (argsL := [(.int t0)]) (rest := [(froF t0 aT d0 d1 d2 d3 d4 d5 d6 d7 d8)]) (lenOf pd_0 rfl) rfl (by show 2 * 0 + _ ≤ _; simp [own_cat1 (own_r1 _ _ _ _ _ _ _ _ _ _ _)]) (hb hby at_34) (fun _ _ => ⟨rfl, e1, (Nat.le_trans (Nat.add_le_add_right (Nat.add_le_add_right hcl 0) 0) (by decide)), (Nat.le_trans (Nat.add_le_add_right (Nat.add_le_add_right hsl 0) 0) (by decide))⟩)
    dsimp only [Pt.U, Pt.locs, Pt.cells, Pt.slots] at X2 l2 y2 z2 st2 hQ2
    subst l2 y2 z2
    obtain ⟨rfl, N2q, e2⟩ := hQ2
    have N2 := Fr.app N1 N2q
    refine Go.step (T' := T2) (f' := (mkF m 37 #[.val (.int p1), .val (.int p2), .val (.int x2), .val (.int t0), .val (froF t0 aT d0 d1 d2 d3 d4 d5 d6 d7 d8)] [(expF t0 d0 d1 d2 d3 d4 d5 d6 d7 d8), (froF t0 aT d0 d1 d2 d3 d4 d5 d6 d7 d8)])) (fun t kt => ?_) ?_
    · show Steps p.tables e below (T.setTop (mkF m 24 #[.val (.int p1), .val (.int p2), .val (.int x2), .unset, .unset] [(.int t0)])) _
      refine XS.istoreN X.here hx rfl (hb hby at_24) rfl (l' := #[.val (.int p1), .val (.int p2), .val (.int x2), .val (.int t0), .unset]) rfl ?_
      show Steps p.tables e below (T.setTop (mkF m 25 #[.val (.int p1), .val (.int p2), .val (.int x2), .val (.int t0), .unset] [])) _
      refine XS.iloadN X.here hx rfl (hb hby at_25) rfl ?_
      show Steps p.tables e below (T.setTop (mkF m 26 #[.val (.int p1), .val (.int p2), .val (.int x2), .val (.int t0), .unset] [(.int t0)])) _
      refine st1 _ ?_
      show Steps p.tables e below (T1.setTop (mkF m 29 #[.val (.int p1), .val (.int p2), .val (.int x2), .val (.int t0), .unset] [(froF t0 aT d0 d1 d2 d3 d4 d5 d6 d7 d8)])) _
      refine XS.astoreS X1.here hx rfl (hb hby at_29) rfl (own_r1 _ _ _ _ _ _ _ _ _ _ _) (own_cat1 (own_r1 _ _ _ _ _ _ _ _ _ _ _)) rfl (Or.inl rfl) ?_
      show Steps p.tables e below (T1.setTop (mkF m 31 #[.val (.int p1), .val (.int p2), .val (.int x2), .val (.int t0), .val (froF t0 aT d0 d1 d2 d3 d4 d5 d6 d7 d8)] [])) _
      refine XS.aload X1.here hx rfl (hb hby at_31) rfl (own_r1 _ _ _ _ _ _ _ _ _ _ _) ?_
      show Steps p.tables e below (T1.setTop (mkF m 33 #[.val (.int p1), .val (.int p2), .val (.int x2), .val (.int t0), .val (froF t0 aT d0 d1 d2 d3 d4 d5 d6 d7 d8)] [(froF t0 aT d0 d1 d2 d3 d4 d5 d6 d7 d8)])) _
      refine XS.iloadN X1.here hx rfl (hb hby at_33) rfl ?_
      show Steps p.tables e below (T1.setTop (mkF m 34 #[.val (.int p1), .val (.int p2), .val (.int x2), .val (.int t0), .val (froF t0 aT d0 d1 d2 d3 d4 d5 d6 d7 d8)] [(.int t0), (froF t0 aT d0 d1 d2 d3 d4 d5 d6 d7 d8)])) _
      refine st2 _ ?_
      exact kt
    have hd3 : (froF t0 aT d0 d1 d2 d3 d4 d5 d6 d7 d8) = (expF t0 d0 d1 d2 d3 d4 d5 d6 d7 d8) := own_eq _ _ _ _ _ _ _ _ _ _ _
    refine Go.step (T' := T2) (f' := (mkF m 45 #[.val (.int p1), .val (.int p2), .val (.int x2), .val (.int t0), .val (froF t0 aT d0 d1 d2 d3 d4 d5 d6 d7 d8)] [(.int (1 : Int32))])) (fun t kt => ?_) ?_
    · show Steps p.tables e below (T2.setTop (mkF m 37 #[.val (.int p1), .val (.int p2), .val (.int x2), .val (.int t0), .val (froF t0 aT d0 d1 d2 d3 d4 d5 d6 d7 d8)] [(expF t0 d0 d1 d2 d3 d4 d5 d6 d7 d8), (froF t0 aT d0 d1 d2 d3 d4 d5 d6 d7 d8)])) _
      refine XT.acmpNo X2.here hx rfl (hb hby at_37) rfl (own_r1 _ _ _ _ _ _ _ _ _ _ _) (own_r2 _ _ _ _ _ _ _ _ _ _) (decide_eq_false (fun q => q hd3)) ?_
      show Steps p.tables e below (T2.setTop (mkF m 40 #[.val (.int p1), .val (.int p2), .val (.int x2), .val (.int t0), .val (froF t0 aT d0 d1 d2 d3 d4 d5 d6 d7 d8)] [])) _
      refine XS.iconst X2.here hx rfl (hb hby at_40) ?_
      show Steps p.tables e below (T2.setTop (mkF m 41 #[.val (.int p1), .val (.int p2), .val (.int x2), .val (.int t0), .val (froF t0 aT d0 d1 d2 d3 d4 d5 d6 d7 d8)] [(.int (1 : Int32))])) _
      refine XS.goto X2.here hx rfl (pc0 := 41) (pc' := 45) rfl (hb hby at_41) (by decide) (by decide) ?_
      exact kt
    refine Go.fin X2 (v := some (.int (1 : Int32))) (fun h => by rw [Bd.returns] at h; cases h) Bd.notSynchronized ?_ (Nat.le_trans (Nat.add_le_add_right (Nat.add_le_add_right hcl 0) 0) (by decide)) (Nat.le_trans (Nat.add_le_add_right (Nat.add_le_add_right hsl 0) 0) (by decide)) (fun fs hr => retN X2 hx (t := .boolean) Bd.returns (by simp) (hb hby at_45) hr)
    · show Q0 Z p1 p2 aT d0 d1 d2 d3 d4 d5 d6 d7 d8 h0 n0 _ T2.heap _
      exact ⟨rfl, N2⟩
  refine Go.step (T' := s₁) (f' := (mkF m 3 #[.val (.int p1), .val (.int p2), .unset, .unset, .unset] [(.int (p2 &&& (1 : Int32)))])) (fun t kt => ?_) ?_
  · show Steps p.tables e below (s₁.setTop (mkF m 0 #[.val (.int p1), .val (.int p2), .unset, .unset, .unset] [])) _
    refine XS.iloadN X0.here hx rfl (hb hby at_0) rfl ?_
    show Steps p.tables e below (s₁.setTop (mkF m 1 #[.val (.int p1), .val (.int p2), .unset, .unset, .unset] [(.int p2)])) _
    refine XS.iconst X0.here hx rfl (hb hby at_1) ?_
    show Steps p.tables e below (s₁.setTop (mkF m 2 #[.val (.int p1), .val (.int p2), .unset, .unset, .unset] [(.int (1 : Int32)), (.int p2)])) _
    refine XS.iand X0.here hx rfl (hb hby at_2) rfl ?_
    exact kt
  by_cases hc4 : (p2 &&& (1 : Int32)) = (0 : Int32)
  · have _ := hc4
    refine Go.step (T' := s₁) (f' := (mkF m 10 #[.val (.int p1), .val (.int p2), .unset, .unset, .unset] [])) (fun t kt => ?_) ?_
    · show Steps p.tables e below (s₁.setTop (mkF m 3 #[.val (.int p1), .val (.int p2), .unset, .unset, .unset] [(.int (p2 &&& (1 : Int32)))])) _
      refine XS.ifYes X0.here hx rfl (pc0 := 3) (pc' := 10) rfl (hb hby at_3) rfl ((if0 _ _).trans (teq hc4).1) (by decide) (by decide) ?_
      exact kt
    refine Go.step (T' := s₁) (f' := (mkF m 24 #[.val (.int p1), .val (.int p2), .val (.int (0 : Int32)), .unset, .unset] [(.int (p1 % (12 : Int32)))])) (fun t kt => ?_) ?_
    · show Steps p.tables e below (s₁.setTop (mkF m 10 #[.val (.int p1), .val (.int p2), .unset, .unset, .unset] [])) _
      refine XS.iconst X0.here hx rfl (hb hby at_10) ?_
      show Steps p.tables e below (s₁.setTop (mkF m 11 #[.val (.int p1), .val (.int p2), .unset, .unset, .unset] [(.int (0 : Int32))])) _
      refine XS.istoreN X0.here hx rfl (hb hby at_11) rfl (l' := #[.val (.int p1), .val (.int p2), .val (.int (0 : Int32)), .unset, .unset]) rfl ?_
      show Steps p.tables e below (s₁.setTop (mkF m 12 #[.val (.int p1), .val (.int p2), .val (.int (0 : Int32)), .unset, .unset] [])) _
      refine XS.iloadN X0.here hx rfl (hb hby at_12) rfl ?_
      show Steps p.tables e below (s₁.setTop (mkF m 13 #[.val (.int p1), .val (.int p2), .val (.int (0 : Int32)), .unset, .unset] [(.int (0 : Int32))])) _
      refine XS.ifYes X0.here hx rfl (pc0 := 13) (pc' := 20) rfl (hb hby at_13) rfl ((if0 _ _).trans (teq (by decide : ((0 : Int32) = (0 : Int32)))).1) (by decide) (by decide) ?_
      show Steps p.tables e below (s₁.setTop (mkF m 20 #[.val (.int p1), .val (.int p2), .val (.int (0 : Int32)), .unset, .unset] [])) _
      refine XS.iloadN X0.here hx rfl (hb hby at_20) rfl ?_
      show Steps p.tables e below (s₁.setTop (mkF m 21 #[.val (.int p1), .val (.int p2), .val (.int (0 : Int32)), .unset, .unset] [(.int p1)])) _
      refine XS.bipush X0.here hx rfl (hb hby at_21) ?_
      show Steps p.tables e below (s₁.setTop (mkF m 23 #[.val (.int p1), .val (.int p2), .val (.int (0 : Int32)), .unset, .unset] [(.int (12 : Int32)), (.int p1)])) _
      refine XS.irem X0.here hx rfl (hb hby at_23) rfl (by decide) ?_
      show Steps p.tables e below (s₁.setTop (mkF m 24 #[.val (.int p1), .val (.int p2), .val (.int (0 : Int32)), .unset, .unset] [(.int (p1 - (p1 / (12 : Int32)) * (12 : Int32)))])) _
      rw [own_irem (p1) ((12 : Int32))]
      exact kt
    exact S24 _ _ _ _ X0 (Nat.le_trans (Nat.le_refl 0) (by decide)) (Nat.le_trans (Nat.le_refl 0) (by decide)) e0 N0 (0 : Int32) (p1 % (12 : Int32))
  · have _ := hc4
    refine Go.step (T' := s₁) (f' := (mkF m 6 #[.val (.int p1), .val (.int p2), .unset, .unset, .unset] [])) (fun t kt => ?_) ?_
    · show Steps p.tables e below (s₁.setTop (mkF m 3 #[.val (.int p1), .val (.int p2), .unset, .unset, .unset] [(.int (p2 &&& (1 : Int32)))])) _
      refine XS.ifNo X0.here hx rfl (hb hby at_3) rfl ((if0 _ _).trans (feq hc4).1) ?_
      exact kt
    refine Go.step (T' := s₁) (f' := (mkF m 24 #[.val (.int p1), .val (.int p2), .val (.int (1 : Int32)), .unset, .unset] [(.int p1)])) (fun t kt => ?_) ?_
    · show Steps p.tables e below (s₁.setTop (mkF m 6 #[.val (.int p1), .val (.int p2), .unset, .unset, .unset] [])) _
      refine XS.iconst X0.here hx rfl (hb hby at_6) ?_
      show Steps p.tables e below (s₁.setTop (mkF m 7 #[.val (.int p1), .val (.int p2), .unset, .unset, .unset] [(.int (1 : Int32))])) _
      refine XS.goto X0.here hx rfl (pc0 := 7) (pc' := 11) rfl (hb hby at_7) (by decide) (by decide) ?_
      show Steps p.tables e below (s₁.setTop (mkF m 11 #[.val (.int p1), .val (.int p2), .unset, .unset, .unset] [(.int (1 : Int32))])) _
      refine XS.istoreN X0.here hx rfl (hb hby at_11) rfl (l' := #[.val (.int p1), .val (.int p2), .val (.int (1 : Int32)), .unset, .unset]) rfl ?_
      show Steps p.tables e below (s₁.setTop (mkF m 12 #[.val (.int p1), .val (.int p2), .val (.int (1 : Int32)), .unset, .unset] [])) _
      refine XS.iloadN X0.here hx rfl (hb hby at_12) rfl ?_
      show Steps p.tables e below (s₁.setTop (mkF m 13 #[.val (.int p1), .val (.int p2), .val (.int (1 : Int32)), .unset, .unset] [(.int (1 : Int32))])) _
      refine XS.ifNo X0.here hx rfl (hb hby at_13) rfl ((if0 _ _).trans (feq (by decide : ¬ ((1 : Int32) = (0 : Int32)))).1) ?_
      show Steps p.tables e below (s₁.setTop (mkF m 16 #[.val (.int p1), .val (.int p2), .val (.int (1 : Int32)), .unset, .unset] [])) _
      refine XS.iloadN X0.here hx rfl (hb hby at_16) rfl ?_
      show Steps p.tables e below (s₁.setTop (mkF m 17 #[.val (.int p1), .val (.int p2), .val (.int (1 : Int32)), .unset, .unset] [(.int p1)])) _
      refine XS.goto X0.here hx rfl (pc0 := 17) (pc' := 24) rfl (hb hby at_17) (by decide) (by decide) ?_
      exact kt
    exact S24 _ _ _ _ X0 (Nat.le_trans (Nat.le_refl 0) (by decide)) (Nat.le_trans (Nat.le_refl 0) (by decide)) e0 N0 (1 : Int32) p1
set_option maxRecDepth 65536 in
set_option maxHeartbeats 40000000 in
theorem comes_1 {Post : Tables → Env → Array Value → State → Outcome → State → Prop} (hpost : ∀ tb e args s v u, (limb_1_1.after args s (.returned v) u = true ∧ limb_1_2.after args s (.returned v) u = true ∧ True) → FrameEnd s (.returned v) u (Jvm.fieldLocs frame_1_writes args s ++ Jvm.arrayLocs frame_1_arrays args s ++ Jvm.staticLocs frame_1_statics s) 0 0 → Post tb e args s (.returned v) u) :
    ArmFor flags0 classFile x code maxLocals ret World_1 tables_1 room_1 Calls_1 rest_1 Pre_1 Post := by
  intro l hfl _ _ p e ha hc hk s m args below hf hA hF happ hP
  obtain ⟨hcalls, hrest, hpre⟩ := hP
  obtain ⟨-, -, -, hnamed, -, -, -, hat⟩ := (Spec.applies_iff hf).mp happ
  obtain ⟨hg, hn⟩ := and_e (Cond.before_iff.mp (show (Jvm.Cond.and given_1 narrow_1).before args s = true from hpre))
  obtain ⟨g1, g2⟩ := and_e hg
  obtain ⟨g3, g4⟩ := and_e g2
  obtain ⟨w0, w1, rfl⟩ : ∃ w0 w1 : Value, args = #[w0, w1] := by
    have hs : args.size = 2 := by simpa [Cond.value, given_1] using g1
    obtain ⟨L⟩ := args
    match L, hs with
    | [w0, w1], _ => exact ⟨w0, w1, rfl⟩
  have hw := fun d (hd : d ∈ tables_1) => atoms_spec (ws := Jvm.Cond.code x code maxLocals ret :: tables_1) hat d (List.mem_cons_of_mem _ hd)
  obtain ⟨i0, ei0⟩ := is_v g3
  obtain rfl : w0 = (.int i0) := Option.some.inj ei0
  obtain ⟨i1, ei1⟩ := is_v g4
  obtain rfl : w1 = (.int i1) := Option.some.inj ei1
  obtain ⟨nA, r0⟩ := and_e hn
  obtain ⟨nL, r1⟩ := and_e r0
  obtain ⟨nx0, r2⟩ := and_e r1
  obtain ⟨ne0, r3⟩ := and_e r2
  obtain ⟨nf0, r4⟩ := and_e r3
  obtain ⟨nx1, r5⟩ := and_e r4
  obtain ⟨ne1, r6⟩ := and_e r5
  obtain ⟨nf1, r7⟩ := and_e r6
  obtain ⟨nx2, r8⟩ := and_e r7
  obtain ⟨ne2, r9⟩ := and_e r8
  obtain ⟨nf2, r10⟩ := and_e r9
  obtain ⟨nx3, r11⟩ := and_e r10
  obtain ⟨ne3, r12⟩ := and_e r11
  obtain ⟨nf3, r13⟩ := and_e r12
  obtain ⟨nx4, r14⟩ := and_e r13
  obtain ⟨ne4, r15⟩ := and_e r14
  obtain ⟨nf4, r16⟩ := and_e r15
  obtain ⟨nx5, r17⟩ := and_e r16
  obtain ⟨ne5, r18⟩ := and_e r17
  obtain ⟨nf5, r19⟩ := and_e r18
  obtain ⟨nx6, r20⟩ := and_e r19
  obtain ⟨ne6, r21⟩ := and_e r20
  obtain ⟨nf6, r22⟩ := and_e r21
  obtain ⟨nx7, r23⟩ := and_e r22
  obtain ⟨ne7, r24⟩ := and_e r23
  obtain ⟨nf7, r25⟩ := and_e r24
  obtain ⟨nx8, r26⟩ := and_e r25
  obtain ⟨ne8, nf8⟩ := and_e r26
  obtain ⟨aT, evTYPES⟩ := arr_v nA
  obtain ⟨cT, AT⟩ := Arr.start evTYPES nA
  have arT := AT.fin (Vm.Alike.refl s.vm)
  have szT := own_sz evTYPES arT nL
  obtain ⟨d0, evDATA⟩ := exa_v nx0
  have q0 : cT.slots[(0 : Nat)]? = some (.ref d0) := (elem_f (j := (0 : Int32)) evTYPES rfl arT (by decide)).symm.trans (own_eqv evDATA ne0)
  have f0 : Fld s s.heap d0 "com/example/talthybius/talthybius/FrameType" "code" "I" (.int (0 : Int32)) := Fld.start ((fld_at evDATA).symm.trans (own_eqv (x := .int (0 : Int32)) rfl nf0))
  obtain ⟨d1, evPING⟩ := exa_v nx1
  have q1 : cT.slots[(1 : Nat)]? = some (.ref d1) := (elem_f (j := (1 : Int32)) evTYPES rfl arT (by decide)).symm.trans (own_eqv evPING ne1)
  have f1 : Fld s s.heap d1 "com/example/talthybius/talthybius/FrameType" "code" "I" (.int (1 : Int32)) := Fld.start ((fld_at evPING).symm.trans (own_eqv (x := .int (1 : Int32)) rfl nf1))
  obtain ⟨d2, evPONG⟩ := exa_v nx2
  have q2 : cT.slots[(2 : Nat)]? = some (.ref d2) := (elem_f (j := (2 : Int32)) evTYPES rfl arT (by decide)).symm.trans (own_eqv evPONG ne2)
  have f2 : Fld s s.heap d2 "com/example/talthybius/talthybius/FrameType" "code" "I" (.int (2 : Int32)) := Fld.start ((fld_at evPONG).symm.trans (own_eqv (x := .int (2 : Int32)) rfl nf2))
  obtain ⟨d3, evRETIRE⟩ := exa_v nx3
  have q3 : cT.slots[(3 : Nat)]? = some (.ref d3) := (elem_f (j := (3 : Int32)) evTYPES rfl arT (by decide)).symm.trans (own_eqv evRETIRE ne3)
  have f3 : Fld s s.heap d3 "com/example/talthybius/talthybius/FrameType" "code" "I" (.int (3 : Int32)) := Fld.start ((fld_at evRETIRE).symm.trans (own_eqv (x := .int (3 : Int32)) rfl nf3))
  obtain ⟨d4, evREQUEST⟩ := exa_v nx4
  have q4 : cT.slots[(4 : Nat)]? = some (.ref d4) := (elem_f (j := (4 : Int32)) evTYPES rfl arT (by decide)).symm.trans (own_eqv evREQUEST ne4)
  have f4 : Fld s s.heap d4 "com/example/talthybius/talthybius/FrameType" "code" "I" (.int (4 : Int32)) := Fld.start ((fld_at evREQUEST).symm.trans (own_eqv (x := .int (4 : Int32)) rfl nf4))
  obtain ⟨d5, evANSWER⟩ := exa_v nx5
  have q5 : cT.slots[(5 : Nat)]? = some (.ref d5) := (elem_f (j := (5 : Int32)) evTYPES rfl arT (by decide)).symm.trans (own_eqv evANSWER ne5)
  have f5 : Fld s s.heap d5 "com/example/talthybius/talthybius/FrameType" "code" "I" (.int (5 : Int32)) := Fld.start ((fld_at evANSWER).symm.trans (own_eqv (x := .int (5 : Int32)) rfl nf5))
  obtain ⟨d6, evDECLINE⟩ := exa_v nx6
  have q6 : cT.slots[(6 : Nat)]? = some (.ref d6) := (elem_f (j := (6 : Int32)) evTYPES rfl arT (by decide)).symm.trans (own_eqv evDECLINE ne6)
  have f6 : Fld s s.heap d6 "com/example/talthybius/talthybius/FrameType" "code" "I" (.int (6 : Int32)) := Fld.start ((fld_at evDECLINE).symm.trans (own_eqv (x := .int (6 : Int32)) rfl nf6))
  obtain ⟨d7, evCANCEL⟩ := exa_v nx7
  have q7 : cT.slots[(7 : Nat)]? = some (.ref d7) := (elem_f (j := (7 : Int32)) evTYPES rfl arT (by decide)).symm.trans (own_eqv evCANCEL ne7)
  have f7 : Fld s s.heap d7 "com/example/talthybius/talthybius/FrameType" "code" "I" (.int (7 : Int32)) := Fld.start ((fld_at evCANCEL).symm.trans (own_eqv (x := .int (7 : Int32)) rfl nf7))
  obtain ⟨d8, evRETIRED⟩ := exa_v nx8
  have q8 : cT.slots[(8 : Nat)]? = some (.ref d8) := (elem_f (j := (8 : Int32)) evTYPES rfl arT (by decide)).symm.trans (own_eqv evRETIRED ne8)
  have f8 : Fld s s.heap d8 "com/example/talthybius/talthybius/FrameType" "code" "I" (.int (8 : Int32)) := Fld.start ((fld_at evRETIRED).symm.trans (own_eqv (x := .int (8 : Int32)) rfl nf8))
  have vT : VA s s.heap aT (.object "com/example/talthybius/talthybius/FrameType") ([d0, d1, d2, d3, d4, d5, d6, d7, d8].map Value.ref) := by
    refine ⟨cT, AT, ?_, by simp⟩
    apply List.ext_getElem?
    intro i
    rw [Array.getElem?_toList]
    match i with
    | 0 => exact q0
    | 1 => exact q1
    | 2 => exact q2
    | 3 => exact q3
    | 4 => exact q4
    | 5 => exact q5
    | 6 => exact q6
    | 7 => exact q7
    | 8 => exact q8
    | k + 9 => rw [Array.getElem?_eq_none (by omega)]; rfl
  obtain ⟨n, o, h1, h2, h3, _, L, rfl, ⟨hv, N⟩, hq⟩ := rm_0 l s _ hw tables_1 i0 i1 aT d0 d1 d2 d3 d4 d5 d6 d7 d8 s.heap s.heap.size (Nat.le_refl _) (Sta.start evTYPES (Or.inr ⟨(hw _ (List.mem_of_getElem? (i := 2) rfl)), (hw _ (List.mem_of_getElem? (i := 5) rfl))⟩)) vT f0 f1 f2 f3 f4 f5 f6 f7 f8 (Sta.start evDATA (Or.inr ⟨(hw _ (List.mem_of_getElem? (i := 2) rfl)), (hw _ (List.mem_of_getElem? (i := 6) rfl))⟩)) (Sta.start evPING (Or.inr ⟨(hw _ (List.mem_of_getElem? (i := 2) rfl)), (hw _ (List.mem_of_getElem? (i := 14) rfl))⟩)) (Sta.start evPONG (Or.inr ⟨(hw _ (List.mem_of_getElem? (i := 2) rfl)), (hw _ (List.mem_of_getElem? (i := 15) rfl))⟩)) (Sta.start evRETIRE (Or.inr ⟨(hw _ (List.mem_of_getElem? (i := 2) rfl)), (hw _ (List.mem_of_getElem? (i := 16) rfl))⟩)) (Sta.start evREQUEST (Or.inr ⟨(hw _ (List.mem_of_getElem? (i := 2) rfl)), (hw _ (List.mem_of_getElem? (i := 17) rfl))⟩)) (Sta.start evANSWER (Or.inr ⟨(hw _ (List.mem_of_getElem? (i := 2) rfl)), (hw _ (List.mem_of_getElem? (i := 18) rfl))⟩)) (Sta.start evDECLINE (Or.inr ⟨(hw _ (List.mem_of_getElem? (i := 2) rfl)), (hw _ (List.mem_of_getElem? (i := 19) rfl))⟩)) (Sta.start evCANCEL (Or.inr ⟨(hw _ (List.mem_of_getElem? (i := 2) rfl)), (hw _ (List.mem_of_getElem? (i := 20) rfl))⟩)) (Sta.start evRETIRED (Or.inr ⟨(hw _ (List.mem_of_getElem? (i := 2) rfl)), (hw _ (List.mem_of_getElem? (i := 21) rfl))⟩)) p e ha hc hk s m _ below hf ((Spec.applies_iff_loose hf).mp happ).1 ⟨rfl, State.Warmed39.refl s, rfl⟩ trivial
  subst hv
  refine ⟨n, _, h1, h2, h3, hpost _ _ _ _ _ _ ⟨Cond.after_iff.mpr rfl, Cond.after_iff.mpr (eq_i res_at (Term.int_eval (1)) rfl), trivial⟩ ⟨hq.1, hq.2.1, (hq.2.2.sift fun y hy => Or.inr (N y hy)).mono (by decide) (by decide)⟩⟩
theorem main_1_1 : Claimed_1_1 := comes_1 fun _ _ _ _ _ _ h hF => ⟨h.1, hF⟩
theorem main_1_2 : Claimed_1_2 := comes_1 fun _ _ _ _ _ _ h hF => ⟨h.2.1, hF⟩
end Jvm.Pilot.@@N@@
namespace Jvm.Pilot.@@N@@
open Jvm Jvm.ClassFile Sem Op Lib Jvm.Free Jvm.Stand Jvm.Pilot.@@N@@.Jvm.D
/-! MADE BY PROGRAM (witnessworld.py) out of the Statement's table words and the real class files: 13 classes; the members and pool entries that the words name. The judged class is class 1, her method 2. -/
namespace start1
open Jvm.ClassFile
def u (s : String) : CpInfo := .utf8 (stringToUtf16 s)
/-- a pool by its gaps: so many unusable entries, then the entry; so many at the end -/
def gap : Nat → List CpInfo → List CpInfo
  | 0, r => r
  | n + 1, r => .unusable :: gap n r
def poolList (es : List (Nat × CpInfo)) (last : Nat) : List CpInfo := es.foldr (fun e r => gap e.1 (e.2 :: r)) (gap last [])
def pool (es : List (Nat × CpInfo)) (last : Nat) : Array CpInfo := ⟨poolList es last⟩
def fileOf (pool : Array CpInfo) (this : Nat) (attrs : Array Attribute := #[]) (ms : Array MethodInfo := #[]) (fl : Nat := 33) (sup : Nat := 0) (ifs : Array Nat := #[]) (fds : Array FieldInfo := #[]) : ClassFile where
  minorVersion := 0
  majorVersion := 65
  constantPool := pool
  accessFlags := fl
  thisClass := this
  superClass := sup
  interfaces := ifs
  fields := fds
  methods := ms
  attributes := attrs
def plain (name : String) (sup : Option ClassId) : Class where
  name := name
  kind := .ordinary
  loader := none
  accessFlags := 33
  super := sup
  interfaces := #[]
  cf := none
  fields := #[]
  methods := #[]
  instanceTypes := #[]
  staticTypes := #[]
  resolved := #[]
  callSites := []
  init := .initialized
  statics := none
  mirror := none

def pool0 : Array CpInfo := pool [(5, u "<init>"), (0, u "()V"), (1, .class_ 10), (1, u "java/lang/Object")] 113

def k0m0 : Method := { name := "<init>", desc := "()V", sig := { parameters := [], returnType := none }, accessFlags := 1, code := none }
/-- java/lang/Object -/
def k0 : Class := { plain "java/lang/Object" none with
  accessFlags := 33
  interfaces := #[]
  cf := some (fileOf pool0 8 #[] #[{ accessFlags := 1, nameIndex := 5, descriptorIndex := 6, attributes := #[] }] 33 0 #[] #[])
  fields := #[]
  methods := #[k0m0]
  instanceTypes := #[]
  staticTypes := #[]
  resolved := Array.replicate 124 none
  statics := none }

def pool1 : Array CpInfo := pool [(2, .class_ 4), (1, u "java/lang/Object"), (0, u "<init>"), (0, u "()V"), (0, .fieldref 8 9), (0, .class_ 10), (0, .nameAndType 11 12), (0, u "com/example/talthybius/talthybius/FrameType"), (0, u "DATA"), (0, u "Lcom/example/talthybius/talthybius/FrameType;"), (0, .fieldref 8 14), (0, .nameAndType 15 12), (0, u "PING"), (0, .fieldref 8 17), (0, .nameAndType 18 12), (0, u "PONG"), (0, .fieldref 8 20), (0, .nameAndType 21 12), (0, u "RETIRE"), (0, .fieldref 8 23), (0, .nameAndType 24 12), (0, u "REQUEST"), (0, .fieldref 8 26), (0, .nameAndType 27 12), (0, u "ANSWER"), (0, .fieldref 8 29), (0, .nameAndType 30 12), (0, u "DECLINE"), (0, .fieldref 8 32), (0, .nameAndType 33 12), (0, u "CANCEL"), (0, .fieldref 8 35), (0, .nameAndType 36 12), (0, u "RETIRED"), (0, .methodref 8 38), (0, .nameAndType 39 40), (0, u "fromCode"), (0, u "(I)Lcom/example/talthybius/talthybius/FrameType;"), (0, .methodref 42 43), (0, .class_ 44), (0, .nameAndType 45 40), (0, u "com/example/talthybius/talthybius/FrameTypeFromCodePinLaw"), (0, u "expected"), (3, u "law"), (0, u "(II)Z")] 2

def k1m0 : Method := { name := "<init>", desc := "()V", sig := { parameters := [], returnType := none }, accessFlags := 2, code := none }
def k1c1 : Code := { maxStack := 2, maxLocals := 1, code := method_2_code, exceptionTable := #[], attributes := #[] }
def k1m1 : Method := { name := "expected", desc := "(I)Lcom/example/talthybius/talthybius/FrameType;", sig := { parameters := [.int], returnType := some (.object "com/example/talthybius/talthybius/FrameType") }, accessFlags := 10, code := some k1c1 }
def k1c2 : Code := { maxStack := 2, maxLocals := 5, code := code, exceptionTable := #[], attributes := #[] }
def k1m2 : Method := { name := "law", desc := "(II)Z", sig := { parameters := [.int, .int], returnType := some .boolean }, accessFlags := 9, code := some k1c2 }
/-- com/example/talthybius/talthybius/FrameTypeFromCodePinLaw -/
def k1 : Class := { plain "com/example/talthybius/talthybius/FrameTypeFromCodePinLaw" (some 0) with
  accessFlags := 49
  interfaces := #[]
  cf := some (fileOf pool1 42 #[] #[{ accessFlags := 2, nameIndex := 5, descriptorIndex := 6, attributes := #[] }, { accessFlags := 10, nameIndex := 45, descriptorIndex := 40, attributes := #[] }, { accessFlags := 9, nameIndex := 49, descriptorIndex := 50, attributes := #[] }] 49 2 #[] #[])
  fields := #[]
  methods := #[k1m0, k1m1, k1m2]
  instanceTypes := #[]
  staticTypes := #[]
  resolved := Array.replicate 53 none
  statics := none }

def pool2 : Array CpInfo := pool [(1, .class_ 2), (0, u "java/lang/constant/Constable"), (0, .class_ 4), (0, u "java/lang/Object")] 6

/-- java/lang/constant/Constable -/
def k2 : Class := { plain "java/lang/constant/Constable" (some 0) with
  accessFlags := 1537
  interfaces := #[]
  cf := some (fileOf pool2 1 #[] #[] 1537 3 #[] #[])
  fields := #[]
  methods := #[]
  instanceTypes := #[]
  staticTypes := #[]
  resolved := Array.replicate 11 none
  statics := none }

def pool3 : Array CpInfo := pool [(1, .class_ 2), (0, u "java/lang/Comparable"), (0, .class_ 4), (0, u "java/lang/Object")] 7

/-- java/lang/Comparable -/
def k3 : Class := { plain "java/lang/Comparable" (some 0) with
  accessFlags := 1537
  interfaces := #[]
  cf := some (fileOf pool3 1 #[] #[] 1537 3 #[] #[])
  fields := #[]
  methods := #[]
  instanceTypes := #[]
  staticTypes := #[]
  resolved := Array.replicate 12 none
  statics := none }

def pool4 : Array CpInfo := pool [(1, .class_ 2), (0, u "java/io/Serializable"), (0, .class_ 4), (0, u "java/lang/Object")] 2

/-- java/io/Serializable -/
def k4 : Class := { plain "java/io/Serializable" (some 0) with
  accessFlags := 1537
  interfaces := #[]
  cf := some (fileOf pool4 1 #[] #[] 1537 3 #[] #[])
  fields := #[]
  methods := #[]
  instanceTypes := #[]
  staticTypes := #[]
  resolved := Array.replicate 7 none
  statics := none }

def pool5 : Array CpInfo := pool [(2, .class_ 4), (1, u "java/lang/Enum"), (0, u "name"), (0, u "Ljava/lang/String;"), (2, u "ordinal"), (0, u "I"), (1, .class_ 14), (1, u "java/lang/Object"), (4, u "hash"), (86, .class_ 108), (1, u "java/lang/Enum$EnumDesc"), (2, .class_ 112), (0, u "java/lang/constant/Constable"), (0, .class_ 114), (0, u "java/lang/Comparable"), (0, .class_ 116), (0, u "java/io/Serializable")] 87

/-- java/lang/Enum -/
def k5 : Class := { plain "java/lang/Enum" (some 0) with
  accessFlags := 1057
  interfaces := #[2, 3, 4]
  cf := some (fileOf pool5 2 #[.nestMembers #[106]] #[] 1057 12 #[111, 113, 115] #[{ accessFlags := 18, nameIndex := 5, descriptorIndex := 6, attributes := #[] }, { accessFlags := 18, nameIndex := 9, descriptorIndex := 10, attributes := #[] }, { accessFlags := 2, nameIndex := 19, descriptorIndex := 10, attributes := #[] }])
  fields := #[{ name := "name", type := (.object "java/lang/String"), accessFlags := 18, slot := 0, constantValue := 0 }, { name := "ordinal", type := .int, accessFlags := 18, slot := 1, constantValue := 0 }, { name := "hash", type := .int, accessFlags := 2, slot := 2, constantValue := 0 }]
  methods := #[]
  instanceTypes := #[(.object "java/lang/String"), .int, .int]
  staticTypes := #[]
  resolved := Array.replicate 204 none
  statics := none }

def pool6 : Array CpInfo := pool [(3, .class_ 4), (0, u "com/example/talthybius/talthybius/FrameType"), (2, u "DATA"), (0, u "Lcom/example/talthybius/talthybius/FrameType;"), (2, u "PING"), (2, u "PONG"), (2, u "RETIRE"), (2, u "REQUEST"), (2, u "ANSWER"), (2, u "DECLINE"), (2, u "CANCEL"), (2, u "RETIRED"), (2, u "$VALUES"), (0, u "[Lcom/example/talthybius/talthybius/FrameType;"), (6, .class_ 45), (1, u "java/lang/Enum"), (6, .fieldref 3 53), (0, .nameAndType 54 55), (0, u "code"), (0, u "I"), (2, u "namesRequest"), (0, u "Z"), (0, .fieldref 3 61), (0, .nameAndType 62 36), (0, u "TYPES"), (19, u "ID_LENGTH"), (10, u "fromCode"), (0, u "(I)Lcom/example/talthybius/talthybius/FrameType;")] 6

def k6c0 : Code := { maxStack := 2, maxLocals := 6, code := prog_12_method_6_code, exceptionTable := #[], attributes := #[] }
def k6m0 : Method := { name := "fromCode", desc := "(I)Lcom/example/talthybius/talthybius/FrameType;", sig := { parameters := [.int], returnType := some (.object "com/example/talthybius/talthybius/FrameType") }, accessFlags := 8, code := some k6c0 }
/-- com/example/talthybius/talthybius/FrameType -/
def k6 : Class := { plain "com/example/talthybius/talthybius/FrameType" (some 5) with
  accessFlags := 16432
  interfaces := #[]
  cf := some (fileOf pool6 3 #[] #[{ accessFlags := 8, nameIndex := 93, descriptorIndex := 94, attributes := #[] }] 16432 43 #[] #[{ accessFlags := 16409, nameIndex := 7, descriptorIndex := 8, attributes := #[] }, { accessFlags := 16409, nameIndex := 11, descriptorIndex := 8, attributes := #[] }, { accessFlags := 16409, nameIndex := 14, descriptorIndex := 8, attributes := #[] }, { accessFlags := 16409, nameIndex := 17, descriptorIndex := 8, attributes := #[] }, { accessFlags := 16409, nameIndex := 20, descriptorIndex := 8, attributes := #[] }, { accessFlags := 16409, nameIndex := 23, descriptorIndex := 8, attributes := #[] }, { accessFlags := 16409, nameIndex := 26, descriptorIndex := 8, attributes := #[] }, { accessFlags := 16409, nameIndex := 29, descriptorIndex := 8, attributes := #[] }, { accessFlags := 16409, nameIndex := 32, descriptorIndex := 8, attributes := #[] }, { accessFlags := 24, nameIndex := 82, descriptorIndex := 55, attributes := #[] }, { accessFlags := 26, nameIndex := 62, descriptorIndex := 36, attributes := #[] }, { accessFlags := 18, nameIndex := 54, descriptorIndex := 55, attributes := #[] }, { accessFlags := 18, nameIndex := 58, descriptorIndex := 59, attributes := #[] }, { accessFlags := 4122, nameIndex := 35, descriptorIndex := 36, attributes := #[] }])
  fields := #[{ name := "DATA", type := (.object "com/example/talthybius/talthybius/FrameType"), accessFlags := 16409, slot := 0, constantValue := 0 }, { name := "PING", type := (.object "com/example/talthybius/talthybius/FrameType"), accessFlags := 16409, slot := 1, constantValue := 0 }, { name := "PONG", type := (.object "com/example/talthybius/talthybius/FrameType"), accessFlags := 16409, slot := 2, constantValue := 0 }, { name := "RETIRE", type := (.object "com/example/talthybius/talthybius/FrameType"), accessFlags := 16409, slot := 3, constantValue := 0 }, { name := "REQUEST", type := (.object "com/example/talthybius/talthybius/FrameType"), accessFlags := 16409, slot := 4, constantValue := 0 }, { name := "ANSWER", type := (.object "com/example/talthybius/talthybius/FrameType"), accessFlags := 16409, slot := 5, constantValue := 0 }, { name := "DECLINE", type := (.object "com/example/talthybius/talthybius/FrameType"), accessFlags := 16409, slot := 6, constantValue := 0 }, { name := "CANCEL", type := (.object "com/example/talthybius/talthybius/FrameType"), accessFlags := 16409, slot := 7, constantValue := 0 }, { name := "RETIRED", type := (.object "com/example/talthybius/talthybius/FrameType"), accessFlags := 16409, slot := 8, constantValue := 0 }, { name := "ID_LENGTH", type := .int, accessFlags := 24, slot := 9, constantValue := 0 }, { name := "TYPES", type := (.array (.object "com/example/talthybius/talthybius/FrameType")), accessFlags := 26, slot := 10, constantValue := 0 }, { name := "code", type := .int, accessFlags := 18, slot := 3, constantValue := 0 }, { name := "namesRequest", type := .boolean, accessFlags := 18, slot := 4, constantValue := 0 }, { name := "$VALUES", type := (.array (.object "com/example/talthybius/talthybius/FrameType")), accessFlags := 4122, slot := 11, constantValue := 0 }]
  methods := #[k6m0]
  instanceTypes := #[(.object "java/lang/String"), .int, .int, .int, .boolean]
  staticTypes := #[(.object "com/example/talthybius/talthybius/FrameType"), (.object "com/example/talthybius/talthybius/FrameType"), (.object "com/example/talthybius/talthybius/FrameType"), (.object "com/example/talthybius/talthybius/FrameType"), (.object "com/example/talthybius/talthybius/FrameType"), (.object "com/example/talthybius/talthybius/FrameType"), (.object "com/example/talthybius/talthybius/FrameType"), (.object "com/example/talthybius/talthybius/FrameType"), (.object "com/example/talthybius/talthybius/FrameType"), .int, (.array (.object "com/example/talthybius/talthybius/FrameType")), (.array (.object "com/example/talthybius/talthybius/FrameType"))]
  resolved := Array.replicate 101 none
  statics := some 0 }

def pool7 : Array CpInfo := pool [(1, u "java/lang/Cloneable"), (0, .class_ 1), (0, u "java/lang/Object"), (0, .class_ 3)] 3

/-- java/lang/Cloneable -/
def k7 : Class := { plain "java/lang/Cloneable" (some 0) with
  accessFlags := 1537
  interfaces := #[]
  cf := some (fileOf pool7 2 #[] #[] 1537 4 #[] #[])
  fields := #[]
  methods := #[]
  instanceTypes := #[]
  staticTypes := #[]
  resolved := Array.replicate 8 none
  statics := none }

/-- the primitive byte -/
def k8 : Class := { plain "byte" none with kind := .primitive 'B', accessFlags := 0x411 }
/-- [B -/
def k9 : Class := { plain "[B" (some 0) with kind := .array 8 .byte, interfaces := #[7, 4], accessFlags := 1041 }

/-- the primitive int -/
def k10 : Class := { plain "int" none with kind := .primitive 'I', accessFlags := 0x411 }
/-- [I -/
def k11 : Class := { plain "[I" (some 0) with kind := .array 10 .int, interfaces := #[7, 4], accessFlags := 1041 }

/-- [Lcom/example/talthybius/talthybius/FrameType; -/
def k12 : Class := { plain "[Lcom/example/talthybius/talthybius/FrameType;" (some 0) with kind := .array 6 (.object "com/example/talthybius/talthybius/FrameType"), interfaces := #[7, 4], accessFlags := 1041 }

def heap : Heap := #[{ cls := 6, slots := #[.ref 2, .ref 3, .ref 4, .ref 5, .ref 6, .ref 7, .ref 8, .ref 9, .ref 10, .int 0, .ref 1, .null], vm := .statics 6 },
  { cls := 12, slots := #[.ref 2, .ref 3, .ref 4, .ref 5, .ref 6, .ref 7, .ref 8, .ref 9, .ref 10], vm := .none },
  { cls := 6, slots := #[.null, .int 0, .int 0, .int 0, .int 0], vm := .none },
  { cls := 6, slots := #[.null, .int 0, .int 0, .int 1, .int 0], vm := .none },
  { cls := 6, slots := #[.null, .int 0, .int 0, .int 2, .int 0], vm := .none },
  { cls := 6, slots := #[.null, .int 0, .int 0, .int 3, .int 0], vm := .none },
  { cls := 6, slots := #[.null, .int 0, .int 0, .int 4, .int 0], vm := .none },
  { cls := 6, slots := #[.null, .int 0, .int 0, .int 5, .int 0], vm := .none },
  { cls := 6, slots := #[.null, .int 0, .int 0, .int 6, .int 0], vm := .none },
  { cls := 6, slots := #[.null, .int 0, .int 0, .int 7, .int 0], vm := .none },
  { cls := 6, slots := #[.null, .int 0, .int 0, .int 8, .int 0], vm := .none }]
def classes : Array Class := #[k0, k1, k2, k3, k4, k5, k6, k7, k8, k9, k10, k11, k12]
def interned : List (Array UInt16 × Addr) := []
def slotsUsed : Nat := 66
def theMethod : MethodId := ⟨1, 2⟩
def args0 : Array Value := #[.int 3, .int 1]
def aboutOver (below : List Frame) : State where
  vm := { classes := classes, interned := interned.toArray }
  heap := heap
  slotsUsed := slotsUsed
  threads := #[{ frames := .invoking theMethod args0 :: below }]
def below0 : List Frame := [.native { method := ⟨0, 0⟩, args := #[] }]
def about1 : State := aboutOver below0
def p0 : Program := .bare "" "" ""
def e0 : Env := launch0.env 0 0 0
theorem w_frames : about1.frames = Frame.invoking theMethod args0 :: below0 := rfl
set_option maxRecDepth 65536 in
theorem w_args : argsFit about1.vm theMethod args0 = true := by decide +kernel
set_option maxRecDepth 65536 in
theorem w_heap : heapFits about1 = true := by decide +kernel
set_option maxRecDepth 65536 in
theorem w_runnable : about1.curStatus? = some .runnable := by decide +kernel
set_option maxRecDepth 65536 in
theorem w_alone : about1.alone = true := by decide +kernel
set_option maxRecDepth 65536 in
theorem w_named : about1.methodNamed? x = some theMethod := by decide +kernel
set_option maxRecDepth 65536 in
theorem w_hears : about1.hears theMethod below0 = true := by decide +kernel
set_option maxRecDepth 65536 in
theorem w_ripe : about1.ripe theMethod args0 below0 = true := by decide +kernel
theorem w_running : about1.status = .running := rfl
set_option maxRecDepth 65536 in
theorem w_room : about1.hasRoom e0.platform room_1 = true :=
  launch0.hasRoom_least _ room_1 (by decide +kernel) (by decide +kernel) (by decide +kernel) (by decide +kernel) (by decide +kernel) (by decide +kernel)
theorem allAtoms_all (ts : List Jvm.Cond) (a : Array Jvm.Value) (st : Jvm.State) : (allAtoms ts).before a st = ts.all (fun c => c.before a st) := by
  induction ts with
  | nil => rfl
  | cons c t ih =>
    show (Jvm.Cond.and c (allAtoms t)).before a st = _
    rw [Jvm.Cond.before_and, ih, List.all_cons]
def words1 : List Jvm.Cond := Jvm.Cond.code x code maxLocals ret :: tables_1
/-- a 'code' word, met by the world's own term for the bytes: nothing is compared byte by byte -/
theorem code_word {y : MethodName} {bytes : ByteArray} {mx : Nat} {rt : Option FieldType} {a : Array Value} {s : State} {m : MethodId} {meth : Method} {c : Code} (h1 : s.methodNamed? y = some m) (h2 : s.vm.method? m = some meth) (h3 : meth.code = some c) (h4 : c.code = bytes)
    (h5 : (c.maxLocals == mx && c.exceptionTable.isEmpty && decide (c.maxStack ≤ mostOperands) && decide (meth.sig.returnType = rt) && !meth.locks && decide (parseMethodDescriptor y.desc = some meth.sig)) = true) : (Jvm.Cond.code y bytes mx rt).before a s = true := by
  simp only [Bool.and_eq_true, beq_iff_eq, Bool.not_eq_true', decide_eq_true_eq] at h5
  obtain ⟨⟨⟨⟨⟨g1, g2⟩, g3⟩, g4⟩, g5⟩, g6⟩ := h5
  simp [Cond.before, Cond.holds, Cond.value, h1, h2, h3, h4, g1, g2, g3, g4, g5, g6]
def isCode : Jvm.Cond → Bool
  | .code _ _ _ _ => true
  | _ => false
theorem all_split {L : List Jvm.Cond} {P : Jvm.Cond → Bool} (h1 : L.all (fun c => isCode c || P c) = true) (h2 : ∀ c ∈ L.filter isCode, P c = true) : L.all P = true := by
  refine List.all_eq_true.mpr fun c hc => ?_
  have h := List.all_eq_true.mp h1 c hc
  rcases Bool.eq_false_or_eq_true (isCode c) with hi | hi
  · exact h2 c (List.mem_filter.mpr ⟨hc, hi⟩)
  · simpa [hi] using h
set_option maxRecDepth 65536 in
theorem w_c0 : (Jvm.Cond.code x code maxLocals ret).before args0 about1 = true := code_word (m := ⟨1, 2⟩) (meth := k1m2) (c := k1c2) (by decide +kernel) rfl rfl rfl (by decide +kernel)
set_option maxRecDepth 65536 in
theorem w_c1 : (Jvm.Cond.code ({ cls := "com/example/talthybius/talthybius/FrameType", name := "fromCode", desc := "(I)Lcom/example/talthybius/talthybius/FrameType;" } : Jvm.MethodName) prog_12_method_6_code (6 : Nat) (Option.some (Jvm.ClassFile.FieldType.object "com/example/talthybius/talthybius/FrameType"))).before args0 about1 = true := code_word (m := ⟨6, 0⟩) (meth := k6m0) (c := k6c0) (by decide +kernel) rfl rfl rfl (by decide +kernel)
set_option maxRecDepth 65536 in
theorem w_c2 : (Jvm.Cond.code ({ cls := "com/example/talthybius/talthybius/FrameTypeFromCodePinLaw", name := "expected", desc := "(I)Lcom/example/talthybius/talthybius/FrameType;" } : Jvm.MethodName) method_2_code (1 : Nat) (Option.some (Jvm.ClassFile.FieldType.object "com/example/talthybius/talthybius/FrameType"))).before args0 about1 = true := code_word (m := ⟨1, 1⟩) (meth := k1m1) (c := k1c1) (by decide +kernel) rfl rfl rfl (by decide +kernel)
def codes1 : List Jvm.Cond := [Jvm.Cond.code x code maxLocals ret, Jvm.Cond.code ({ cls := "com/example/talthybius/talthybius/FrameType", name := "fromCode", desc := "(I)Lcom/example/talthybius/talthybius/FrameType;" } : Jvm.MethodName) prog_12_method_6_code (6 : Nat) (Option.some (Jvm.ClassFile.FieldType.object "com/example/talthybius/talthybius/FrameType")), Jvm.Cond.code ({ cls := "com/example/talthybius/talthybius/FrameTypeFromCodePinLaw", name := "expected", desc := "(I)Lcom/example/talthybius/talthybius/FrameType;" } : Jvm.MethodName) method_2_code (1 : Nat) (Option.some (Jvm.ClassFile.FieldType.object "com/example/talthybius/talthybius/FrameType"))]
set_option maxRecDepth 65536 in
theorem codes_eq : words1.filter isCode = codes1 := rfl
theorem w_codes : ∀ c ∈ words1.filter isCode, c.before args0 about1 = true := by
  rw [codes_eq]
  intro c hc
  simp only [codes1, List.mem_cons, List.not_mem_nil, or_false] at hc
  rcases hc with rfl | rfl | rfl
  · exact w_c0
  · exact w_c1
  · exact w_c2
set_option maxRecDepth 65536 in
theorem w_t1 : (words1.take 24).all (fun c => isCode c || c.before args0 about1) = true := by decide +kernel
set_option maxRecDepth 65536 in
theorem w_t2 : (words1.drop 24).all (fun c => isCode c || c.before args0 about1) = true := by decide +kernel
theorem w_tables : (allAtoms (Jvm.Cond.code x code maxLocals ret :: tables_1)).before args0 about1 = true := by
  rw [allAtoms_all]
  show words1.all (fun c => c.before args0 about1) = true
  refine all_split ?_ w_codes
  rw [← List.take_append_drop 24 words1, List.all_append, w_t1, w_t2]
  rfl
set_option maxRecDepth 65536 in
theorem w_case : (Jvm.Cond.and given_1 narrow_1).before args0 about1 = true := by decide +kernel
theorem w_applies : (headSpec (Jvm.Cond.code x code maxLocals ret :: tables_1) room_1).applies x e0.platform about1 = true :=
  (Spec.applies_iff w_frames).mpr ⟨w_running, w_runnable, w_alone, w_named, w_hears, w_ripe, w_room, w_tables⟩
theorem atStart : AtStart classFile x code maxLocals ret World_1 tables_1 room_1 Calls_1 rest_1 Pre_1 launch0 p0 e0 about1 theMethod args0 below0 :=
  ⟨lists_1, trivial, launch0.admits_env _ _ _, launch0.least_env, fairChoices_fair.cas, fairChoices_fair.clock, w_frames, w_args, w_heap, w_applies, trivial, trivial, w_case⟩
end start1
theorem witness_1 : WitnessClaimed_1 := ⟨start1.p0, start1.e0, start1.about1, start1.theMethod, start1.args0, start1.below0, start1.atStart⟩
end Jvm.Pilot.@@N@@
