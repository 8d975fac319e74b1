import JvmDerived
import JvmDerived.Pilot.@@N@@Statement
import JvmDerived.Pilot.@@N@@Code
set_option linter.unusedVariables false
set_option linter.unusedSimpArgs false
namespace Jvm.RoadKit
open Sem ClassFile Op Lib Jvm.Stand Jvm.Free Jvm.LawKit
section New
variable {p : Program} {l : Launch} {e : Env} {R : Room} {s : State} {m : MethodId} {args : Array Value} {below : List Frame} {meth : Method} {c : Code} {T : State} {locs : List Loc} {cells slots : Nat}
theorem retI (X : Stand p l e R s m args below meth c T locs cells slots) (hx : p.tables.exec = Jvm.exec) {pc : Nat} {Ls : Array Slot} {z : Int32} {rest : List Value} (hret : meth.sig.returnType = some .int) (hd : decode c.code pc = .ok (.ireturn, 1)) {fs : List Frame}
    (hl : ∀ (f : JFrame) (acts : List Action), f.method = m → f.locked = none → f.entered = [] → (doReturn e (T.setTop f) acts (some (.int z))).1 = T.setFrames fs) : Steps p.tables e below (T.setTop (mkF m pc Ls (.int z :: rest))) (T.setFrames fs) := by
  have hm' : T.vm.method? m = some meth := X.method'
  have hn : narrow .int (.int z) = .int z := rfl
  show Steps p.tables e below (T.setTop { method := m, pc := pc, locals := Ls, stack := _ :: rest, locked := none }) _
  jvm_step X.here [X.here.top, hx, hd, hm', hret, hn]
  first | (intro acts; rw [hl _ acts rfl rfl rfl]) | rw [hl _ _ rfl rfl rfl]
  exact Steps.refl _
/-- from here the walk comes to a good end -/
def Go (p : Program) (e : Env) (below : List Frame) (s : State) (Q : Option Value → Heap → List Loc → Prop) (C S : Nat) (T : State) (f : JFrame) : Prop :=
  ∃ s₂ o, Steps p.tables e below (T.setTop f) s₂ ∧ s₂.status = .running ∧ Ended s₂ below o ∧ ∃ v L, o = .returned v ∧ Q v s₂.heap L ∧ FrameEnd s o s₂ L C S
theorem Go.step {Q : Option Value → Heap → List Loc → Prop} {C S : Nat} {T' : State} {f f' : JFrame} (k : ∀ t, Steps p.tables e below (T'.setTop f') t → Steps p.tables e below (T.setTop f) t) (h : Go p e below s Q C S T' f') : Go p e below s Q C S T f := by
  obtain ⟨s₂, o, h1, h2⟩ := h
  exact ⟨s₂, o, k _ h1, h2⟩
theorem Go.cast {Q : Option Value → Heap → List Loc → Prop} {C S : Nat} {f f' : JFrame} (q : f = f') (h : Go p e below s Q C S T f') : Go p e below s Q C S T f := q ▸ h
theorem Go.fin (X : Stand p l e R s m args below meth c T locs cells slots) {Q : Option Value → Heap → List Loc → Prop} {C S : Nat} {f : JFrame} {v : Option Value} (hv : meth.sig.returnType = none → v = none) (hl : meth.locks = false) (hQ : Q v T.heap locs) (hc : cells ≤ C) (hs : slots ≤ S)
    (k : ∀ fs, (∀ (f : JFrame) (acts : List Action), f.method = m → f.locked = none → f.entered = [] → (doReturn e (T.setTop f) acts v).1 = T.setFrames fs) → Steps p.tables e below (T.setTop f) (T.setFrames fs)) : Go p e below s Q C S T f := by
  obtain ⟨fs, hr, hrun, hended, hW, hsame⟩ := X.leave (v := v) hv hl
  exact ⟨_, _, k fs hr, hrun, hended, v, locs, rfl, hQ, ⟨_, rfl⟩, hW, hsame.mono hc hs⟩
theorem own_lrem (x y : Int64) : x - (x / y) * y = x % y := lrem_mod x y
theorem own_irem (x y : Int32) : x - (x / y) * y = x % y := by
  apply Int32.toInt_inj.mp
  have h1 := Int32.le_toInt (x % y)
  have h2 := Int32.toInt_lt (x % y)
  rw [Int32.toInt_sub, Int32.toInt_mul, Int32.toInt_div, Int.bmod_mul_bmod, Int.sub_bmod_bmod, Int.mul_comm (x.toInt.tdiv y.toInt), ← Int.tmod_def, ← Int32.toInt_mod]
  exact Int.bmod_eq_of_le_mul_two (by omega) (by omega)
theorem own_fin {x : Int32} {n : Nat} (h0 : 0 ≤ x.toInt) (h1 : x.toInt < n) (h2 : n ≤ 2147483648) : ∃ k : Fin n, x = Int32.ofNat k.val := by
  refine ⟨⟨x.toInt.toNat, by omega⟩, Int32.toInt_inj.mp ?_⟩
  have q : (x.toInt.toNat).toInt32.toInt = x.toInt.toNat := len_toInt (by omega)
  show x.toInt = (x.toInt.toNat).toInt32.toInt
  rw [q]; omega
theorem own_i2c {x : Int32} (h0 : 0 ≤ x.toInt) (h1 : x.toInt < 65536) : x.toUInt32.toUInt16.toUInt32.toInt32 = x := Int32.toInt_inj.mp (by have := c_i2c x; omega)
theorem own_rem (x y : Int32) (h0 : 0 ≤ x.toInt) : (x % y).toInt = x.toInt % y.toInt := by rw [Int32.toInt_mod, (tr _ _).1 h0]
theorem own_remL (x y : Int64) (h0 : 0 ≤ x.toInt) : (x % y).toInt = x.toInt % y.toInt := by rw [Int64.toInt_mod, (tr _ _).1 h0]
theorem own_div (x y : Int32) (h0 : 0 ≤ x.toInt) (h1 : 0 < y.toInt) : (x / y).toInt = x.toInt / y.toInt := (c_idiv x y _ rfl (fun q => by rw [q] at h1; exact absurd h1 (by decide))).1 h0
theorem own_add {x y : Int32} (h0 : -2147483648 ≤ x.toInt + y.toInt) (h1 : x.toInt + y.toInt < 2147483648) : (x + y).toInt = x.toInt + y.toInt := by have := c_iadd x y; have := rng32 (x + y); omega
theorem own_sub {x y : Int32} (h0 : -2147483648 ≤ x.toInt - y.toInt) (h1 : x.toInt - y.toInt < 2147483648) : (x - y).toInt = x.toInt - y.toInt := by have := c_isub x y; have := rng32 (x - y); omega
theorem own_mul {x y : Int32} (h0 : -2147483648 ≤ x.toInt * y.toInt) (h1 : x.toInt * y.toInt < 2147483648) : (x * y).toInt = x.toInt * y.toInt := by have := c_imul x y; have := rng32 (x * y); omega
theorem own_nat {j : Int32} (h0 : 0 ≤ j.toInt) : (j.toNatClampNeg : Int) = j.toInt := by simp only [Int32.toNatClampNeg]; omega
section Heaps
variable {Z : State} {h h' : Heap} {a b : Addr} {ty : FieldType} {vs : List Value} {sl : Nat} {v : Value} {ws : List Addr}
/-- an array and all that lies in it -/
def VA (Z : State) (h : Heap) (a : Addr) (ty : FieldType) (vs : List Value) : Prop := ∃ c : Cell, Arr Z h a c ty ∧ c.slots.toList = vs ∧ vs.length < 2 ^ 31
theorem VA.lt (F : VA Z h a ty vs) : a < h.size := by obtain ⟨c, A, -⟩ := F; exact A.lt
theorem VA.len (F : VA Z h a ty vs) : vs.length < 2 ^ 31 := by obtain ⟨c, A, -, r⟩ := F; exact r
theorem VA.ext (F : VA Z h a ty vs) (E : Ext h h') : VA Z h' a ty vs := by obtain ⟨c, A, r⟩ := F; exact ⟨c, A.ext E, r⟩
theorem VA.other (F : VA Z h b ty vs) (W : Wr h h' a sl v) (q : b ≠ a) : VA Z h' b ty vs := by obtain ⟨c, A, r⟩ := F; exact ⟨c, A.other W q, r⟩
theorem VA.keep (F : VA Z h a ty vs) (K : Keep h h' ws) (q : a ∉ ws) : VA Z h' a ty vs := by obtain ⟨c, A, r⟩ := F; exact ⟨c, ⟨K.2.1 a c A.1 q, A.2⟩, r⟩
theorem VA.new {k : ClassId} {n : Int32} (A : Arr Z h a (newA k ty n) ty) (q : ¬ n < 0) : VA Z h a ty (List.replicate n.toNatClampNeg (defaultValue ty)) :=
  ⟨_, A, by simp [newA], by rw [List.length_replicate]; exact (back32 q).2⟩
theorem VA.inb (F : VA Z h a ty vs) {j : Int32} (h0 : 0 ≤ j.toInt) (h1 : j.toInt < vs.length) : ∃ c : Cell, Arr Z h a c ty ∧ ¬ (j < 0 ∨ c.slots.size ≤ j.toNatClampNeg) ∧ c.slots[j.toNatClampNeg]? = vs[j.toNatClampNeg]? ∧ ∀ h' v, Wr h h' a j.toNatClampNeg v → VA Z h' a ty (vs.set j.toNatClampNeg v) := by
  obtain ⟨c, A, rfl, r⟩ := F
  have hj := own_nat h0
  rw [Array.length_toList] at h1
  refine ⟨c, A, ?_, (Array.getElem?_toList ..).symm, fun h' v W => ⟨_, A.same W, ?_, ?_⟩⟩
  · rw [Int32.lt_iff_toInt_lt]
    have k0 : (0 : Int32).toInt = 0 := rfl
    omega
  · simp [Cell.setSlot]
  · rw [List.length_set]; exact r
theorem VA.ne_exa {C : String} {a0 : Array Value} {k : Nat} (F : VA Z h b ty vs) (G : Exa Z h a C) (wi : (Cond.instantiable C k).before a0 Z = true) : a ≠ b := by obtain ⟨c, A, -⟩ := F; exact ne_arr G wi A
end Heaps
theorem own_cat1 {v : Value} (h : v.isRef = true) : v.category = 1 := by cases v <;> simp_all [Value.isRef, Value.category]
theorem own_psel {y : MethodName} {n : Nat} (wi : (Cond.instantiable y.cls n).before args s = true) (hpriv : s.PrivateAt y) (hinst : (Cond.instanceMethod y).before args s = true) (hy : y.cls ≠ "java/lang/invoke/MethodHandle" ∧ y.cls ≠ "java/lang/invoke/VarHandle") : (Cond.selects y.cls y y).before args s = true := by
  obtain ⟨c, k, h1, h2, -, h4, -, -⟩ := Cond.instantiable_spec wi
  exact selects_self_of_private h1 h2 (by cases q : k.isInterface; rfl; rw [q] at h4; simp at h4) hpriv hinst hy
section Steps2
variable {Z : State} {h : Heap} {a : Addr} {a0 : Array Value}
theorem ldI (X : Stand p l e R s m args below meth c T locs cells slots) (hx : p.tables.exec = Jvm.exec) (hZ : Z.Warmed39 s.vm) (eT : T.heap = h) {vs : List Int32} (F : VA Z h a .int (vs.map Value.int)) {j : Int32} (h0 : 0 ≤ j.toInt) (h1 : j.toInt < vs.length)
    {g : JFrame} (hg : g.method = m) {rest : List Value} (hs : g.stack = .int j :: .ref a :: rest) (hd : decode c.code g.pc = .ok (.iaload, 1)) (target : State)
    (k : Steps p.tables e below (T.setTop { g with pc := g.pc + 1, stack := .int (vs.getD j.toNatClampNeg 0) :: rest }) target) : Steps p.tables e below (T.setTop g) target := by
  obtain ⟨cl, A, q1, q2, -⟩ := F.inb h0 (by rw [List.length_map]; exact h1)
  have hj := own_nat h0
  refine X.iaload hx (j := j) (v := .int (vs.getD j.toNatClampNeg 0)) (by rw [eT]; exact A.1) (State.isArrayOf_alike hZ.alike A.2.1) A.2.2 q1 ?_ hg hs hd target k
  rw [q2, List.getElem?_map, List.getD_eq_getElem?_getD, List.getElem?_eq_getElem (by omega)]; rfl
theorem ldJ (X : Stand p l e R s m args below meth c T locs cells slots) (hx : p.tables.exec = Jvm.exec) (hZ : Z.Warmed39 s.vm) (eT : T.heap = h) {vs : List Int64} (F : VA Z h a .long (vs.map Value.long)) {j : Int32} (h0 : 0 ≤ j.toInt) (h1 : j.toInt < vs.length)
    {g : JFrame} (hg : g.method = m) {rest : List Value} (hs : g.stack = .int j :: .ref a :: rest) (hd : decode c.code g.pc = .ok (.laload, 1)) (target : State)
    (k : Steps p.tables e below (T.setTop { g with pc := g.pc + 1, stack := .long (vs.getD j.toNatClampNeg 0) :: rest }) target) : Steps p.tables e below (T.setTop g) target := by
  obtain ⟨cl, A, q1, q2, -⟩ := F.inb h0 (by rw [List.length_map]; exact h1)
  have hj := own_nat h0
  refine X.laload hx (j := j) (v := .long (vs.getD j.toNatClampNeg 0)) (by rw [eT]; exact A.1) (State.isArrayOf_alike hZ.alike A.2.1) A.2.2 q1 ?_ hg hs hd target k
  rw [q2, List.getElem?_map, List.getD_eq_getElem?_getD, List.getElem?_eq_getElem (by omega)]; rfl
theorem ldB (X : Stand p l e R s m args below meth c T locs cells slots) (hx : p.tables.exec = Jvm.exec) (hZ : Z.Warmed39 s.vm) (eT : T.heap = h) {vs : List Int32} (F : VA Z h a .byte (vs.map Value.int)) {j : Int32} (h0 : 0 ≤ j.toInt) (h1 : j.toInt < vs.length)
    {g : JFrame} (hg : g.method = m) {rest : List Value} (hs : g.stack = .int j :: .ref a :: rest) (hd : decode c.code g.pc = .ok (.baload, 1)) (target : State)
    (k : Steps p.tables e below (T.setTop { g with pc := g.pc + 1, stack := .int (vs.getD j.toNatClampNeg 0) :: rest }) target) : Steps p.tables e below (T.setTop g) target := by
  obtain ⟨cl, A, q1, q2, -⟩ := F.inb h0 (by rw [List.length_map]; exact h1)
  have hj := own_nat h0
  refine X.baloadBytes hx (j := j) (v := .int (vs.getD j.toNatClampNeg 0)) (by rw [eT]; exact A.1) (State.isArrayOf_alike hZ.alike A.2.1) A.2.2 q1 ?_ hg hs hd target k
  rw [q2, List.getElem?_map, List.getD_eq_getElem?_getD, List.getElem?_eq_getElem (by omega)]; rfl
theorem ldR (X : Stand p l e R s m args below meth c T locs cells slots) (hx : p.tables.exec = Jvm.exec) (hZ : Z.Warmed39 s.vm) (eT : T.heap = h) {ty : FieldType} {vs : List Addr} (F : VA Z h a ty (vs.map Value.ref)) (hty : ty.isReference = true) {j : Int32} (h0 : 0 ≤ j.toInt) (h1 : j.toInt < vs.length)
    {g : JFrame} (hg : g.method = m) {rest : List Value} (hs : g.stack = .int j :: .ref a :: rest) (hd : decode c.code g.pc = .ok (.aaload, 1)) (target : State)
    (k : Steps p.tables e below (T.setTop { g with pc := g.pc + 1, stack := .ref (vs.getD j.toNatClampNeg 0) :: rest }) target) : Steps p.tables e below (T.setTop g) target := by
  obtain ⟨cl, A, q1, q2, -⟩ := F.inb h0 (by rw [List.length_map]; exact h1)
  have hj := own_nat h0
  refine X.aaload hx (j := j) (v := .ref (vs.getD j.toNatClampNeg 0)) (by rw [eT]; exact A.1) (State.isArrayOf_alike hZ.alike A.2.1) hty A.2.2 q1 ?_ hg hs hd target k
  rw [q2, List.getElem?_map, List.getD_eq_getElem?_getD, List.getElem?_eq_getElem (by omega)]; rfl
theorem lenA (X : Stand p l e R s m args below meth c T locs cells slots) (hx : p.tables.exec = Jvm.exec) (hZ : Z.Warmed39 s.vm) (eT : T.heap = h) {ty : FieldType} {vs : List Value} (F : VA Z h a ty vs) {n : Int32} (hn : (vs.length : Int) = n.toInt)
    {g : JFrame} (hg : g.method = m) {rest : List Value} (hs : g.stack = .ref a :: rest) (hd : decode c.code g.pc = .ok (.arraylength, 1)) (target : State)
    (k : Steps p.tables e below (T.setTop { g with pc := g.pc + 1, stack := .int n :: rest }) target) : Steps p.tables e below (T.setTop g) target := by
  obtain ⟨cl, A, rfl, r⟩ := F
  refine X.arraylength hx (by rw [eT]; exact A.1) (State.isArrayOf_alike hZ.alike A.2.1) hg hs hd target ?_
  have e : cl.slots.size.toInt32 = n := Int32.toInt_inj.mp (by rw [len_toInt (by rw [← Array.length_toList]; exact r), ← hn, Array.length_toList])
  rw [e]; exact k
theorem putI (X : Stand p l e R s m args below meth c T locs cells slots) (hx : p.tables.exec = Jvm.exec) (hZ : Z.Warmed39 s.vm) (eT : T.heap = h) {vs : List Int32} (F : VA Z h a .int (vs.map Value.int)) {j x : Int32} (h0 : 0 ≤ j.toInt) (h1 : j.toInt < vs.length)
    {g : JFrame} (hg : g.method = m) {rest : List Value} (hs : g.stack = .int x :: .int j :: .ref a :: rest) (hd : decode c.code g.pc = .ok (.iastore, 1)) :
    ∃ T' h', Stand p l e R s m args below meth c T' (locs ++ [⟨a, j.toNatClampNeg⟩]) cells slots ∧ T'.heap = h' ∧ Wr h h' a j.toNatClampNeg (.int x) ∧ VA Z h' a .int ((vs.set j.toNatClampNeg x).map Value.int) ∧ ∀ target, Steps p.tables e below (T'.setTop { g with pc := g.pc + 1, stack := rest }) target → Steps p.tables e below (T.setTop g) target := by
  obtain ⟨cl, A, q1, q2, q3⟩ := F.inb h0 (by rw [List.length_map]; exact h1)
  obtain ⟨T', h', X', e', W, st⟩ := stI X hx hZ eT A q1 hg hs hd
  exact ⟨T', h', X', e', W, by rw [List.map_set]; exact q3 _ _ W, st⟩
theorem putJ (X : Stand p l e R s m args below meth c T locs cells slots) (hx : p.tables.exec = Jvm.exec) (hZ : Z.Warmed39 s.vm) (eT : T.heap = h) {vs : List Int64} (F : VA Z h a .long (vs.map Value.long)) {j : Int32} {x : Int64} (h0 : 0 ≤ j.toInt) (h1 : j.toInt < vs.length)
    {g : JFrame} (hg : g.method = m) {rest : List Value} (hs : g.stack = .long x :: .int j :: .ref a :: rest) (hd : decode c.code g.pc = .ok (.lastore, 1)) :
    ∃ T' h', Stand p l e R s m args below meth c T' (locs ++ [⟨a, j.toNatClampNeg⟩]) cells slots ∧ T'.heap = h' ∧ Wr h h' a j.toNatClampNeg (.long x) ∧ VA Z h' a .long ((vs.set j.toNatClampNeg x).map Value.long) ∧ ∀ target, Steps p.tables e below (T'.setTop { g with pc := g.pc + 1, stack := rest }) target → Steps p.tables e below (T.setTop g) target := by
  obtain ⟨cl, A, q1, q2, q3⟩ := F.inb h0 (by rw [List.length_map]; exact h1)
  obtain ⟨T', h', X', e', W, st⟩ := stJ X hx hZ eT A q1 hg hs hd
  exact ⟨T', h', X', e', W, by rw [List.map_set]; exact q3 _ _ W, st⟩
theorem putB (X : Stand p l e R s m args below meth c T locs cells slots) (hx : p.tables.exec = Jvm.exec) (hZ : Z.Warmed39 s.vm) (eT : T.heap = h) {vs : List Int32} (F : VA Z h a .byte (vs.map Value.int)) {j x : Int32} (h0 : 0 ≤ j.toInt) (h1 : j.toInt < vs.length)
    {g : JFrame} (hg : g.method = m) {rest : List Value} (hs : g.stack = .int x :: .int j :: .ref a :: rest) (hd : decode c.code g.pc = .ok (.bastore, 1)) :
    ∃ T' h', Stand p l e R s m args below meth c T' (locs ++ [⟨a, j.toNatClampNeg⟩]) cells slots ∧ T'.heap = h' ∧ Wr h h' a j.toNatClampNeg (.int (nar .byte x)) ∧ VA Z h' a .byte ((vs.set j.toNatClampNeg (nar .byte x)).map Value.int) ∧ ∀ target, Steps p.tables e below (T'.setTop { g with pc := g.pc + 1, stack := rest }) target → Steps p.tables e below (T.setTop g) target := by
  obtain ⟨cl, A, q1, q2, q3⟩ := F.inb h0 (by rw [List.length_map]; exact h1)
  obtain ⟨T', h', X', e', W, st⟩ := stB X hx hZ eT A q1 hg hs hd
  exact ⟨T', h', X', e', W, by rw [List.map_set]; exact q3 _ _ W, st⟩
theorem newI (X : Stand p l e R s m args below meth c T locs cells slots) (hx : p.tables.exec = Jvm.exec) (hZ : Z.Warmed39 s.vm) (w : (Cond.arrayClass .int).before a0 Z = true) (eT : T.heap = h) {g : JFrame} (hg : g.method = m) (hd : decode c.code g.pc = .ok (.newarray .int, 2)) {n : Int32} {rest : List Value} (hs : g.stack = .int n :: rest)
    (hn : 0 ≤ n.toInt) {cap : Nat} (hcap : n.toInt ≤ cap) (hb : cap * 8 ≤ 536870912) (hc : cells + 1 ≤ R.cells) (hl : slots + cap ≤ R.slots) :
    ∃ T' h', Stand p l e R s m args below meth c T' locs (cells + 1) (slots + cap) ∧ T'.heap = h' ∧ Ext h h' ∧ VA Z h' h.size .int ((List.replicate n.toInt.toNat (0 : Int32)).map Value.int) ∧
      ∀ target, Steps p.tables e below (T'.setTop { g with pc := g.pc + 2, stack := .ref h.size :: rest }) target → Steps p.tables e below (T.setTop g) target := by
  have q : ¬ n < 0 := by rw [Int32.lt_iff_toInt_lt]; have k0 : (0 : Int32).toInt = 0 := rfl; omega
  have en : n.toNatClampNeg = n.toInt.toNat := rfl
  obtain ⟨T', h', cA, X', e', E, A, st⟩ := newP X hx hZ (aty := .int) w eT hg hd hs q (cap := cap) (by rw [en]; omega) hb hc hl
  have V1 : VA Z h' h.size .int (List.replicate n.toNatClampNeg (Value.int (0 : Int32))) := VA.new A q
  rw [en] at V1
  refine ⟨T', h', X', e', E, ?_, st⟩
  rw [List.map_replicate]
  exact V1
theorem newJ (X : Stand p l e R s m args below meth c T locs cells slots) (hx : p.tables.exec = Jvm.exec) (hZ : Z.Warmed39 s.vm) (w : (Cond.arrayClass .long).before a0 Z = true) (eT : T.heap = h) {g : JFrame} (hg : g.method = m) (hd : decode c.code g.pc = .ok (.newarray .long, 2)) {n : Int32} {rest : List Value} (hs : g.stack = .int n :: rest)
    (hn : 0 ≤ n.toInt) {cap : Nat} (hcap : n.toInt ≤ cap) (hb : cap * 8 ≤ 536870912) (hc : cells + 1 ≤ R.cells) (hl : slots + cap ≤ R.slots) :
    ∃ T' h', Stand p l e R s m args below meth c T' locs (cells + 1) (slots + cap) ∧ T'.heap = h' ∧ Ext h h' ∧ VA Z h' h.size .long ((List.replicate n.toInt.toNat (0 : Int64)).map Value.long) ∧
      ∀ target, Steps p.tables e below (T'.setTop { g with pc := g.pc + 2, stack := .ref h.size :: rest }) target → Steps p.tables e below (T.setTop g) target := by
  have q : ¬ n < 0 := by rw [Int32.lt_iff_toInt_lt]; have k0 : (0 : Int32).toInt = 0 := rfl; omega
  have en : n.toNatClampNeg = n.toInt.toNat := rfl
  obtain ⟨T', h', cA, X', e', E, A, st⟩ := newP X hx hZ (aty := .long) w eT hg hd hs q (cap := cap) (by rw [en]; omega) hb hc hl
  have V1 : VA Z h' h.size .long (List.replicate n.toNatClampNeg (Value.long (0 : Int64))) := VA.new A q
  rw [en] at V1
  refine ⟨T', h', X', e', E, ?_, st⟩
  rw [List.map_replicate]
  exact V1
theorem newB (X : Stand p l e R s m args below meth c T locs cells slots) (hx : p.tables.exec = Jvm.exec) (hZ : Z.Warmed39 s.vm) (w : (Cond.arrayClass .byte).before a0 Z = true) (eT : T.heap = h) {g : JFrame} (hg : g.method = m) (hd : decode c.code g.pc = .ok (.newarray .byte, 2)) {n : Int32} {rest : List Value} (hs : g.stack = .int n :: rest)
    (hn : 0 ≤ n.toInt) {cap : Nat} (hcap : n.toInt ≤ cap) (hb : cap * 8 ≤ 536870912) (hc : cells + 1 ≤ R.cells) (hl : slots + cap ≤ R.slots) :
    ∃ T' h', Stand p l e R s m args below meth c T' locs (cells + 1) (slots + cap) ∧ T'.heap = h' ∧ Ext h h' ∧ VA Z h' h.size .byte ((List.replicate n.toInt.toNat (0 : Int32)).map Value.int) ∧
      ∀ target, Steps p.tables e below (T'.setTop { g with pc := g.pc + 2, stack := .ref h.size :: rest }) target → Steps p.tables e below (T.setTop g) target := by
  have q : ¬ n < 0 := by rw [Int32.lt_iff_toInt_lt]; have k0 : (0 : Int32).toInt = 0 := rfl; omega
  have en : n.toNatClampNeg = n.toInt.toNat := rfl
  obtain ⟨T', h', cA, X', e', E, A, st⟩ := newP X hx hZ (aty := .byte) w eT hg hd hs q (cap := cap) (by rw [en]; omega) hb hc hl
  have V1 : VA Z h' h.size .byte (List.replicate n.toNatClampNeg (Value.int (0 : Int32))) := VA.new A q
  rw [en] at V1
  refine ⟨T', h', X', e', E, ?_, st⟩
  rw [List.map_replicate]
  exact V1
theorem ldZ (X : Stand p l e R s m args below meth c T locs cells slots) (hx : p.tables.exec = Jvm.exec) (hZ : Z.Warmed39 s.vm) (eT : T.heap = h) {vs : List Int32} (F : VA Z h a .boolean (vs.map Value.int)) {j : Int32} (h0 : 0 ≤ j.toInt) (h1 : j.toInt < vs.length)
    {g : JFrame} (hg : g.method = m) {rest : List Value} (hs : g.stack = .int j :: .ref a :: rest) (hd : decode c.code g.pc = .ok (.baload, 1)) (target : State)
    (k : Steps p.tables e below (T.setTop { g with pc := g.pc + 1, stack := .int (vs.getD j.toNatClampNeg 0) :: rest }) target) : Steps p.tables e below (T.setTop g) target := by
  obtain ⟨cl, A, q1, q2, -⟩ := F.inb h0 (by rw [List.length_map]; exact h1)
  have hj := own_nat h0
  refine X.baloadBooleans hx (j := j) (v := .int (vs.getD j.toNatClampNeg 0)) (by rw [eT]; exact A.1) (State.isArrayOf_alike hZ.alike A.2.1) A.2.2 q1 ?_ hg hs hd target k
  rw [q2, List.getElem?_map, List.getD_eq_getElem?_getD, List.getElem?_eq_getElem (by omega)]; rfl
theorem putZ (X : Stand p l e R s m args below meth c T locs cells slots) (hx : p.tables.exec = Jvm.exec) (hZ : Z.Warmed39 s.vm) (eT : T.heap = h) {vs : List Int32} (F : VA Z h a .boolean (vs.map Value.int)) {j x : Int32} (h0 : 0 ≤ j.toInt) (h1 : j.toInt < vs.length)
    {g : JFrame} (hg : g.method = m) {rest : List Value} (hs : g.stack = .int x :: .int j :: .ref a :: rest) (hd : decode c.code g.pc = .ok (.bastore, 1)) :
    ∃ T' h', Stand p l e R s m args below meth c T' (locs ++ [⟨a, j.toNatClampNeg⟩]) cells slots ∧ T'.heap = h' ∧ Wr h h' a j.toNatClampNeg (.int (nar .boolean x)) ∧ VA Z h' a .boolean ((vs.set j.toNatClampNeg (nar .boolean x)).map Value.int) ∧ ∀ target, Steps p.tables e below (T'.setTop { g with pc := g.pc + 1, stack := rest }) target → Steps p.tables e below (T.setTop g) target := by
  obtain ⟨cl, A, q1, q2, q3⟩ := F.inb h0 (by rw [List.length_map]; exact h1)
  obtain ⟨T', h', X', e', W, st⟩ := stZ X hx hZ eT A q1 hg hs hd
  exact ⟨T', h', X', e', W, by rw [List.map_set]; exact q3 _ _ W, st⟩
theorem newZ (X : Stand p l e R s m args below meth c T locs cells slots) (hx : p.tables.exec = Jvm.exec) (hZ : Z.Warmed39 s.vm) (w : (Cond.arrayClass .boolean).before a0 Z = true) (eT : T.heap = h) {g : JFrame} (hg : g.method = m) (hd : decode c.code g.pc = .ok (.newarray .boolean, 2)) {n : Int32} {rest : List Value} (hs : g.stack = .int n :: rest)
    (hn : 0 ≤ n.toInt) {cap : Nat} (hcap : n.toInt ≤ cap) (hb : cap * 8 ≤ 536870912) (hc : cells + 1 ≤ R.cells) (hl : slots + cap ≤ R.slots) :
    ∃ T' h', Stand p l e R s m args below meth c T' locs (cells + 1) (slots + cap) ∧ T'.heap = h' ∧ Ext h h' ∧ VA Z h' h.size .boolean ((List.replicate n.toInt.toNat (0 : Int32)).map Value.int) ∧
      ∀ target, Steps p.tables e below (T'.setTop { g with pc := g.pc + 2, stack := .ref h.size :: rest }) target → Steps p.tables e below (T.setTop g) target := by
  have q : ¬ n < 0 := by rw [Int32.lt_iff_toInt_lt]; have k0 : (0 : Int32).toInt = 0 := rfl; omega
  have en : n.toNatClampNeg = n.toInt.toNat := rfl
  obtain ⟨T', h', cA, X', e', E, A, st⟩ := newP X hx hZ (aty := .boolean) w eT hg hd hs q (cap := cap) (by rw [en]; omega) hb hc hl
  have V1 : VA Z h' h.size .boolean (List.replicate n.toNatClampNeg (Value.int (0 : Int32))) := VA.new A q
  rw [en] at V1
  refine ⟨T', h', X', e', E, ?_, st⟩
  rw [List.map_replicate]
  exact V1
end Steps2
end New
end Jvm.RoadKit
namespace Jvm.Pilot.@@N@@
open Jvm Jvm.ClassFile Sem Op Lib Jvm.Free Jvm.Stand Jvm.LawKit Jvm.RoadKit Bundle Jvm.Pilot.@@N@@.Jvm.D
theorem d2_0 : decode prog_10_method_1_code 0 = .ok (.aload_n 0, 1) := by decide +kernel
theorem d2_1 : decode prog_10_method_1_code 1 = .ok (.invokespecial 1, 3) := by decide +kernel
theorem d2_4 : decode prog_10_method_1_code 4 = .ok (.aload_n 0, 1) := by decide +kernel
theorem d2_5 : decode prog_10_method_1_code 5 = .ok (.bipush 8, 2) := by decide +kernel
theorem d2_7 : decode prog_10_method_1_code 7 = .ok (.newarray .long, 2) := by decide +kernel
theorem d2_9 : decode prog_10_method_1_code 9 = .ok (.putfield 9, 3) := by decide +kernel
theorem d2_12 : decode prog_10_method_1_code 12 = .ok (.aload_n 0, 1) := by decide +kernel
theorem d2_13 : decode prog_10_method_1_code 13 = .ok (.bipush 8, 2) := by decide +kernel
theorem d2_15 : decode prog_10_method_1_code 15 = .ok (.newarray .boolean, 2) := by decide +kernel
theorem d2_17 : decode prog_10_method_1_code 17 = .ok (.putfield 13, 3) := by decide +kernel
theorem d2_20 : decode prog_10_method_1_code 20 = .ok (.aload_n 0, 1) := by decide +kernel
theorem d2_21 : decode prog_10_method_1_code 21 = .ok (.lload_n 1, 1) := by decide +kernel
theorem d2_22 : decode prog_10_method_1_code 22 = .ok (.putfield 17, 3) := by decide +kernel
theorem d2_25 : decode prog_10_method_1_code 25 = .ok (.return_, 1) := by decide +kernel
theorem pn_0 : plainName "com/example/talthybius/talthybius/AwaitedPings" = true := by first | (simp [plainName, overriddenIn]; done) | decide +kernel
theorem ef_iniA (m : MethodId) (x0 : Addr) (x1 : Int64) : entryFrame m #[(.ref x0), (.long x1)] 3 = mkF m 0 #[.val (.ref x0), .val (.long x1), .second] [] := by first | (simp [entryFrame, mkF, argsToLocals, Value.category]; done) | rfl
def QiniA (Z : State) (a : Addr) (p1 : Int64) (u : Int64) (o0 : Int32) (k0 : Int32) (h0 : Heap) (n0 : Nat) (v : Option Value) (h : Heap) (L : List Loc) : Prop := ∃ (aS : Addr), ∃ (aA : Addr), v = none ∧ Fr n0 L ∧ Keep h0 h [a] ∧ h0.size ≤ aS ∧ h0.size ≤ aA ∧ aS ≠ aA ∧ Fld Z h a "com/example/talthybius/talthybius/AwaitedPings" "timeoutNanos" "J" (.long p1) ∧ Fld Z h a "com/example/talthybius/talthybius/AwaitedPings" "sentAt" "[J" (.ref aS) ∧ Fld Z h a "com/example/talthybius/talthybius/AwaitedPings" "answered" "[Z" (.ref aA) ∧ Fld Z h a "com/example/talthybius/talthybius/AwaitedPings" "oldest" "I" (.int o0) ∧ Fld Z h a "com/example/talthybius/talthybius/AwaitedPings" "count" "I" (.int k0) ∧ VA Z h aS .long ([(0 : Int64), (0 : Int64), (0 : Int64), (0 : Int64), (0 : Int64), (0 : Int64), (0 : Int64), (0 : Int64)].map Value.long) ∧ VA Z h aA .boolean ([(0 : Int32), (0 : Int32), (0 : Int32), (0 : Int32), (0 : Int32), (0 : Int32), (0 : Int32), (0 : Int32)].map Value.int)
set_option maxRecDepth 65536 in
set_option maxHeartbeats 40000000 in
theorem rm_iniA (l : Launch) (Z : State) (a0 : Array Value) (hw : ∀ d ∈ tables_1, d.before a0 Z = true) (ws : List Jvm.Cond) (a : Addr) (p1 : Int64) (u : Int64) (o0 : Int32) (k0 : Int32) (h0 : Heap) (n0 : Nat) (Z0 : n0 ≤ h0.size) (F0 : Exa Z h0 a "com/example/talthybius/talthybius/AwaitedPings") (F1 : Fld Z h0 a "com/example/talthybius/talthybius/AwaitedPings" "timeoutNanos" "J" (.long u)) (F2 : Fld Z h0 a "com/example/talthybius/talthybius/AwaitedPings" "sentAt" "[J" .null) (F3 : Fld Z h0 a "com/example/talthybius/talthybius/AwaitedPings" "answered" "[Z" .null) (F4 : Fld Z h0 a "com/example/talthybius/talthybius/AwaitedPings" "oldest" "I" (.int o0)) (F5 : Fld Z h0 a "com/example/talthybius/talthybius/AwaitedPings" "count" "I" (.int k0)) (g_a : n0 ≤ a) :
    MetFree l (⟨"com/example/talthybius/talthybius/AwaitedPings", "<init>", "(J)V"⟩ : MethodName) (head1 (Jvm.Cond.code (⟨"com/example/talthybius/talthybius/AwaitedPings", "<init>", "(J)V"⟩ : MethodName) prog_10_method_1_code 3 none :: ws) ({ frames := 1, cells := 2, slots := 16, locals := 12 } : Room)) (fun A_ U => A_ = #[(.ref a), (.long p1)] ∧ Z.Warmed39 U.vm ∧ U.heap = h0) (fun _ _ _ _ _ => True) (fun _ U o U' => ∃ v L, o = .returned v ∧ QiniA Z a p1 u o0 k0 h0 n0 v U'.heap L ∧ FrameEnd U o U' L ({ frames := 1, cells := 2, slots := 16, locals := 12 } : Room).cells ({ frames := 1, cells := 2, slots := 16, locals := 12 } : Room).slots) := by
  refine MetFree.of_bodySF (plainFor_of_name pn_0) hisR ?_
  intro p e s m args below meth c s₁ Bd hml0 hP hK
  obtain ⟨rfl, hZ, hh⟩ := hP
  have hx := Bd.exec
  have hby := Bd.bytes
  have hml : c.maxLocals = 3 := hml0
  have hown : s.vm.findClass "com/example/talthybius/talthybius/AwaitedPings" = some m.cls := findClass_of_methodNamed Bd.named
  have hnm := (name_of_methodNamed Bd.named Bd.method).1
  have X0 : Stand p l e ({ frames := 1, cells := 2, slots := 16, locals := 12 } : Room) s m #[(.ref a), (.long p1)] below meth c s₁ [] 0 0 := Stand.of_body Bd
  have e0 : s₁.heap = h0 := by rw [← hh, Bd.state]; rfl
  have N0 := Fr.nil n0
  suffices HGO : Go p e below s (QiniA Z a p1 u o0 k0 h0 n0) ({ frames := 1, cells := 2, slots := 16, locals := 12 } : Room).cells ({ frames := 1, cells := 2, slots := 16, locals := 12 } : Room).slots s₁ (mkF m 0 #[.val (.ref a), .val (.long p1), .second] []) from Go.cast (ef_iniA m a p1) HGO
  obtain ⟨T1, X1, e1, st1⟩ := initO X0 hx hZ hown (hw _ (List.mem_of_getElem? (i := 15) rfl)) (hw _ (List.mem_of_getElem? (i := 16) rfl)) (hw _ (List.mem_of_getElem? (i := 17) rfl)) e0 (g := (mkF m 1 #[.val (.ref a), .val (.long p1), .second] [(.ref a)])) rfl (by rw [hml]; rfl) rfl (hb hby d2_1) (by decide) (W := 0) (by show 2 * 0 + _ ≤ _; exact Nat.le_of_eq rfl) (by decide)
  obtain ⟨T2, h2, X2, e2, E2, A2, st2⟩ := newJ X1 hx hZ (hw _ (List.mem_of_getElem? (i := 6) rfl)) e1 (g := (mkF m 7 #[.val (.ref a), .val (.long p1), .second] [(.int (8 : Int32)), (.ref a)])) rfl (hb hby d2_7) rfl (by decide) (cap := 8) (by decide) (by decide) (Nat.le_trans (Nat.add_le_add_right (Nat.le_refl 0) 1) (by decide)) (Nat.le_trans (Nat.add_le_add_right (Nat.le_refl 0) 8) (by decide))
  obtain ⟨b2, g2⟩ : ∃ z, z = h0.size := ⟨_, rfl⟩
  rw [← g2] at A2 st2
  have ne_a_b2 : a ≠ b2 := Nat.ne_of_lt (Nat.lt_of_lt_of_le F0.lt (Nat.le_of_eq g2.symm))
  have G3 : Exa Z h2 a "com/example/talthybius/talthybius/AwaitedPings" := F0.ext E2
  have G4 : Fld Z h2 a "com/example/talthybius/talthybius/AwaitedPings" "timeoutNanos" "J" (.long u) := F1.ext E2
  have G5 : Fld Z h2 a "com/example/talthybius/talthybius/AwaitedPings" "sentAt" "[J" .null := F2.ext E2
  have G6 : Fld Z h2 a "com/example/talthybius/talthybius/AwaitedPings" "answered" "[Z" .null := F3.ext E2
  have G7 : Fld Z h2 a "com/example/talthybius/talthybius/AwaitedPings" "oldest" "I" (.int o0) := F4.ext E2
  have G8 : Fld Z h2 a "com/example/talthybius/talthybius/AwaitedPings" "count" "I" (.int k0) := F5.ext E2
  have g_b2 : n0 ≤ b2 := Nat.le_trans Z0 (Nat.le_of_eq g2.symm)
  have sz_b2 : h0.size ≤ b2 := Nat.le_trans (Keep.refl h0 [a]).1 (Nat.le_of_eq g2.symm)
  have K2 : Keep h0 h2 [a] := Keep.ext (Keep.refl h0 [a]) E2
  have Z2 : n0 ≤ h2.size := Nat.le_trans Z0 K2.1
  have G9 : VA Z h2 b2 .long ([(0 : Int64), (0 : Int64), (0 : Int64), (0 : Int64), (0 : Int64), (0 : Int64), (0 : Int64), (0 : Int64)].map Value.long) := A2
  obtain ⟨T10, h10, X10, e10, W10, st10⟩ := putF X2 hx hZ hown (host := "") (Or.inl (hw _ (List.mem_of_getElem? (i := 18) rfl))) Via.refl e2 G5 G3 (Or.inl (hw _ (List.mem_of_getElem? (i := 19) rfl))) (hw _ (List.mem_of_getElem? (i := 10) rfl)) (ty := (.array .long)) (by decide) rfl rfl (g := (mkF m 9 #[.val (.ref a), .val (.long p1), .second] [(.ref b2), (.ref a)])) rfl rfl (hb hby d2_9)
  have G11 : Exa Z h10 a "com/example/talthybius/talthybius/AwaitedPings" := G3.wr W10
  have G12 : Fld Z h10 a "com/example/talthybius/talthybius/AwaitedPings" "timeoutNanos" "J" (.long u) := G4.other W10 (Or.inr (slot_ne (Or.inr (hw _ (List.mem_of_getElem? (i := 24) rfl))) (Or.inl (hw _ (List.mem_of_getElem? (i := 19) rfl))) (by decide) (t := .long) (t' := (.array .long)) (by decide) (by decide)))
  have G13 : Fld Z h10 a "com/example/talthybius/talthybius/AwaitedPings" "sentAt" "[J" (.ref b2) := G5.same W10
  have G14 : Fld Z h10 a "com/example/talthybius/talthybius/AwaitedPings" "answered" "[Z" .null := G6.other W10 (Or.inr (slot_ne (Or.inl (hw _ (List.mem_of_getElem? (i := 22) rfl))) (Or.inl (hw _ (List.mem_of_getElem? (i := 19) rfl))) (by decide) (t := (.array .boolean)) (t' := (.array .long)) (by decide) (by decide)))
  have G15 : Fld Z h10 a "com/example/talthybius/talthybius/AwaitedPings" "oldest" "I" (.int o0) := G7.other W10 (Or.inr (slot_ne (Or.inl (hw _ (List.mem_of_getElem? (i := 41) rfl))) (Or.inl (hw _ (List.mem_of_getElem? (i := 19) rfl))) (by decide) (t := .int) (t' := (.array .long)) (by decide) (by decide)))
  have G16 : Fld Z h10 a "com/example/talthybius/talthybius/AwaitedPings" "count" "I" (.int k0) := G8.other W10 (Or.inr (slot_ne (Or.inl (hw _ (List.mem_of_getElem? (i := 35) rfl))) (Or.inl (hw _ (List.mem_of_getElem? (i := 19) rfl))) (by decide) (t := .int) (t' := (.array .long)) (by decide) (by decide)))
  have G17 : VA Z h10 b2 .long ([(0 : Int64), (0 : Int64), (0 : Int64), (0 : Int64), (0 : Int64), (0 : Int64), (0 : Int64), (0 : Int64)].map Value.long) := G9.other W10 (Ne.symm ne_a_b2)
  have N10 := Fr.snoc X10 N0 g_a
  have K10 : Keep h0 h10 [a] := Keep.wr K2 W10 (Or.inl (List.mem_of_getElem? (i := 0) rfl))
  have Z10 : n0 ≤ h10.size := Nat.le_trans Z0 K10.1
  obtain ⟨T18, h18, X18, e18, E18, A18, st18⟩ := newZ X10 hx hZ (hw _ (List.mem_of_getElem? (i := 20) rfl)) e10 (g := (mkF m 15 #[.val (.ref a), .val (.long p1), .second] [(.int (8 : Int32)), (.ref a)])) rfl (hb hby d2_15) rfl (by decide) (cap := 8) (by decide) (by decide) (Nat.le_trans (Nat.add_le_add_right (Nat.add_le_add_right (Nat.le_refl 0) 1) 1) (by decide)) (Nat.le_trans (Nat.add_le_add_right (Nat.add_le_add_right (Nat.le_refl 0) 8) 8) (by decide))
  obtain ⟨b18, g18⟩ : ∃ z, z = h10.size := ⟨_, rfl⟩
  rw [← g18] at A18 st18
  have ne_a_b18 : a ≠ b18 := Nat.ne_of_lt (Nat.lt_of_lt_of_le G11.lt (Nat.le_of_eq g18.symm))
  have ne_b2_b18 : b2 ≠ b18 := Nat.ne_of_lt (Nat.lt_of_lt_of_le G17.lt (Nat.le_of_eq g18.symm))
  have G19 : Exa Z h18 a "com/example/talthybius/talthybius/AwaitedPings" := G11.ext E18
  have G20 : Fld Z h18 a "com/example/talthybius/talthybius/AwaitedPings" "timeoutNanos" "J" (.long u) := G12.ext E18
  have G21 : Fld Z h18 a "com/example/talthybius/talthybius/AwaitedPings" "sentAt" "[J" (.ref b2) := G13.ext E18
  have G22 : Fld Z h18 a "com/example/talthybius/talthybius/AwaitedPings" "answered" "[Z" .null := G14.ext E18
  have G23 : Fld Z h18 a "com/example/talthybius/talthybius/AwaitedPings" "oldest" "I" (.int o0) := G15.ext E18
  have G24 : Fld Z h18 a "com/example/talthybius/talthybius/AwaitedPings" "count" "I" (.int k0) := G16.ext E18
  have G25 : VA Z h18 b2 .long ([(0 : Int64), (0 : Int64), (0 : Int64), (0 : Int64), (0 : Int64), (0 : Int64), (0 : Int64), (0 : Int64)].map Value.long) := G17.ext E18
  have g_b18 : n0 ≤ b18 := Nat.le_trans Z10 (Nat.le_of_eq g18.symm)
  have sz_b18 : h0.size ≤ b18 := Nat.le_trans K10.1 (Nat.le_of_eq g18.symm)
  have K18 : Keep h0 h18 [a] := Keep.ext K10 E18
  have Z18 : n0 ≤ h18.size := Nat.le_trans Z0 K18.1
  have G26 : VA Z h18 b18 .boolean ([(0 : Int32), (0 : Int32), (0 : Int32), (0 : Int32), (0 : Int32), (0 : Int32), (0 : Int32), (0 : Int32)].map Value.int) := A18
  obtain ⟨T27, h27, X27, e27, W27, st27⟩ := putF X18 hx hZ hown (host := "") (Or.inl (hw _ (List.mem_of_getElem? (i := 21) rfl))) Via.refl e18 G22 G19 (Or.inl (hw _ (List.mem_of_getElem? (i := 22) rfl))) (hw _ (List.mem_of_getElem? (i := 10) rfl)) (ty := (.array .boolean)) (by decide) rfl rfl (g := (mkF m 17 #[.val (.ref a), .val (.long p1), .second] [(.ref b18), (.ref a)])) rfl rfl (hb hby d2_17)
  have G28 : Exa Z h27 a "com/example/talthybius/talthybius/AwaitedPings" := G19.wr W27
  have G29 : Fld Z h27 a "com/example/talthybius/talthybius/AwaitedPings" "timeoutNanos" "J" (.long u) := G20.other W27 (Or.inr (slot_ne (Or.inr (hw _ (List.mem_of_getElem? (i := 24) rfl))) (Or.inl (hw _ (List.mem_of_getElem? (i := 22) rfl))) (by decide) (t := .long) (t' := (.array .boolean)) (by decide) (by decide)))
  have G30 : Fld Z h27 a "com/example/talthybius/talthybius/AwaitedPings" "sentAt" "[J" (.ref b2) := G21.other W27 (Or.inr (slot_ne (Or.inl (hw _ (List.mem_of_getElem? (i := 19) rfl))) (Or.inl (hw _ (List.mem_of_getElem? (i := 22) rfl))) (by decide) (t := (.array .long)) (t' := (.array .boolean)) (by decide) (by decide)))
  have G31 : Fld Z h27 a "com/example/talthybius/talthybius/AwaitedPings" "answered" "[Z" (.ref b18) := G22.same W27
  have G32 : Fld Z h27 a "com/example/talthybius/talthybius/AwaitedPings" "oldest" "I" (.int o0) := G23.other W27 (Or.inr (slot_ne (Or.inl (hw _ (List.mem_of_getElem? (i := 41) rfl))) (Or.inl (hw _ (List.mem_of_getElem? (i := 22) rfl))) (by decide) (t := .int) (t' := (.array .boolean)) (by decide) (by decide)))
  have G33 : Fld Z h27 a "com/example/talthybius/talthybius/AwaitedPings" "count" "I" (.int k0) := G24.other W27 (Or.inr (slot_ne (Or.inl (hw _ (List.mem_of_getElem? (i := 35) rfl))) (Or.inl (hw _ (List.mem_of_getElem? (i := 22) rfl))) (by decide) (t := .int) (t' := (.array .boolean)) (by decide) (by decide)))
  have G34 : VA Z h27 b2 .long ([(0 : Int64), (0 : Int64), (0 : Int64), (0 : Int64), (0 : Int64), (0 : Int64), (0 : Int64), (0 : Int64)].map Value.long) := G25.other W27 (Ne.symm ne_a_b2)
  have G35 : VA Z h27 b18 .boolean ([(0 : Int32), (0 : Int32), (0 : Int32), (0 : Int32), (0 : Int32), (0 : Int32), (0 : Int32), (0 : Int32)].map Value.int) := G26.other W27 (Ne.symm ne_a_b18)
  have N27 := Fr.snoc X27 N10 g_a
  have K27 : Keep h0 h27 [a] := Keep.wr K18 W27 (Or.inl (List.mem_of_getElem? (i := 0) rfl))
  have Z27 : n0 ≤ h27.size := Nat.le_trans Z0 K27.1
  obtain ⟨T36, h36, X36, e36, W36, st36⟩ := putF X27 hx hZ hown (host := "") (Or.inl (hw _ (List.mem_of_getElem? (i := 23) rfl))) Via.refl e27 G29 G28 (Or.inr ⟨(hw _ (List.mem_of_getElem? (i := 24) rfl)), rfl, hnm⟩) (hw _ (List.mem_of_getElem? (i := 10) rfl)) (ty := .long) (by decide) rfl rfl (g := (mkF m 22 #[.val (.ref a), .val (.long p1), .second] [(.long p1), (.ref a)])) rfl rfl (hb hby d2_22)
  have G37 : Exa Z h36 a "com/example/talthybius/talthybius/AwaitedPings" := G28.wr W36
  have G38 : Fld Z h36 a "com/example/talthybius/talthybius/AwaitedPings" "timeoutNanos" "J" (.long p1) := G29.same W36
  have G39 : Fld Z h36 a "com/example/talthybius/talthybius/AwaitedPings" "sentAt" "[J" (.ref b2) := G30.other W36 (Or.inr (slot_ne (Or.inl (hw _ (List.mem_of_getElem? (i := 19) rfl))) (Or.inr (hw _ (List.mem_of_getElem? (i := 24) rfl))) (by decide) (t := (.array .long)) (t' := .long) (by decide) (by decide)))
  have G40 : Fld Z h36 a "com/example/talthybius/talthybius/AwaitedPings" "answered" "[Z" (.ref b18) := G31.other W36 (Or.inr (slot_ne (Or.inl (hw _ (List.mem_of_getElem? (i := 22) rfl))) (Or.inr (hw _ (List.mem_of_getElem? (i := 24) rfl))) (by decide) (t := (.array .boolean)) (t' := .long) (by decide) (by decide)))
  have G41 : Fld Z h36 a "com/example/talthybius/talthybius/AwaitedPings" "oldest" "I" (.int o0) := G32.other W36 (Or.inr (slot_ne (Or.inl (hw _ (List.mem_of_getElem? (i := 41) rfl))) (Or.inr (hw _ (List.mem_of_getElem? (i := 24) rfl))) (by decide) (t := .int) (t' := .long) (by decide) (by decide)))
  have G42 : Fld Z h36 a "com/example/talthybius/talthybius/AwaitedPings" "count" "I" (.int k0) := G33.other W36 (Or.inr (slot_ne (Or.inl (hw _ (List.mem_of_getElem? (i := 35) rfl))) (Or.inr (hw _ (List.mem_of_getElem? (i := 24) rfl))) (by decide) (t := .int) (t' := .long) (by decide) (by decide)))
  have G43 : VA Z h36 b2 .long ([(0 : Int64), (0 : Int64), (0 : Int64), (0 : Int64), (0 : Int64), (0 : Int64), (0 : Int64), (0 : Int64)].map Value.long) := G34.other W36 (Ne.symm ne_a_b2)
  have G44 : VA Z h36 b18 .boolean ([(0 : Int32), (0 : Int32), (0 : Int32), (0 : Int32), (0 : Int32), (0 : Int32), (0 : Int32), (0 : Int32)].map Value.int) := G35.other W36 (Ne.symm ne_a_b18)
  have N36 := Fr.snoc X36 N27 g_a
  have K36 : Keep h0 h36 [a] := Keep.wr K27 W36 (Or.inl (List.mem_of_getElem? (i := 0) rfl))
  have Z36 : n0 ≤ h36.size := Nat.le_trans Z0 K36.1
  refine Go.step (T' := T36) (f' := (mkF m 25 #[.val (.ref a), .val (.long p1), .second] [])) (fun t kt => ?_) ?_
  · show Steps p.tables e below (s₁.setTop (mkF m 0 #[.val (.ref a), .val (.long p1), .second] [])) _
    refine XS.aloadN X0.here hx rfl (hb hby d2_0) rfl rfl ?_
    show Steps p.tables e below (s₁.setTop (mkF m 1 #[.val (.ref a), .val (.long p1), .second] [(.ref a)])) _
    refine st1 _ ?_
    show Steps p.tables e below (T1.setTop (mkF m 4 #[.val (.ref a), .val (.long p1), .second] [])) _
    refine XS.aloadN X1.here hx rfl (hb hby d2_4) rfl rfl ?_
    show Steps p.tables e below (T1.setTop (mkF m 5 #[.val (.ref a), .val (.long p1), .second] [(.ref a)])) _
    refine XS.bipush X1.here hx rfl (hb hby d2_5) ?_
    show Steps p.tables e below (T1.setTop (mkF m 7 #[.val (.ref a), .val (.long p1), .second] [(.int (8 : Int32)), (.ref a)])) _
    refine st2 _ ?_
    show Steps p.tables e below (T2.setTop (mkF m 9 #[.val (.ref a), .val (.long p1), .second] [(.ref b2), (.ref a)])) _
    refine st10 _ ?_
    show Steps p.tables e below (T10.setTop (mkF m 12 #[.val (.ref a), .val (.long p1), .second] [])) _
    refine XS.aloadN X10.here hx rfl (hb hby d2_12) rfl rfl ?_
    show Steps p.tables e below (T10.setTop (mkF m 13 #[.val (.ref a), .val (.long p1), .second] [(.ref a)])) _
    refine XS.bipush X10.here hx rfl (hb hby d2_13) ?_
    show Steps p.tables e below (T10.setTop (mkF m 15 #[.val (.ref a), .val (.long p1), .second] [(.int (8 : Int32)), (.ref a)])) _
    refine st18 _ ?_
    show Steps p.tables e below (T18.setTop (mkF m 17 #[.val (.ref a), .val (.long p1), .second] [(.ref b18), (.ref a)])) _
    refine st27 _ ?_
    show Steps p.tables e below (T27.setTop (mkF m 20 #[.val (.ref a), .val (.long p1), .second] [])) _
    refine XS.aloadN X27.here hx rfl (hb hby d2_20) rfl rfl ?_
    show Steps p.tables e below (T27.setTop (mkF m 21 #[.val (.ref a), .val (.long p1), .second] [(.ref a)])) _
    refine XS.lloadN X27.here hx rfl (hb hby d2_21) rfl ?_
    show Steps p.tables e below (T27.setTop (mkF m 22 #[.val (.ref a), .val (.long p1), .second] [(.long p1), (.ref a)])) _
    refine st36 _ ?_
    exact kt
  refine Go.fin X36 (v := none) (fun _ => rfl) Bd.notSynchronized ?_ (Nat.le_trans (Nat.add_le_add_right (Nat.add_le_add_right (Nat.le_refl 0) 1) 1) (by decide)) (Nat.le_trans (Nat.add_le_add_right (Nat.add_le_add_right (Nat.le_refl 0) 8) 8) (by decide)) (fun fs hr => X36.returnOut hx Bd.returns (hb hby d2_25) hr)
  · show QiniA Z a p1 u o0 k0 h0 n0 _ T36.heap _
    rw [e36]
    exact ⟨b2, b18, rfl, N36, K36, sz_b2, sz_b18, ne_b2_b18, G38, G39, G40, G41, G42, G43, G44⟩
theorem d6_0 : decode prog_10_method_7_code 0 = .ok (.aload_n 0, 1) := by decide +kernel
theorem d6_1 : decode prog_10_method_7_code 1 = .ok (.getfield 40, 3) := by decide +kernel
theorem d6_4 : decode prog_10_method_7_code 4 = .ok (.iload_n 1, 1) := by decide +kernel
theorem d6_5 : decode prog_10_method_7_code 5 = .ok (.iadd, 1) := by decide +kernel
theorem d6_6 : decode prog_10_method_7_code 6 = .ok (.istore_n 2, 1) := by decide +kernel
theorem d6_7 : decode prog_10_method_7_code 7 = .ok (.iload_n 2, 1) := by decide +kernel
theorem d6_8 : decode prog_10_method_7_code 8 = .ok (.aload_n 0, 1) := by decide +kernel
theorem d6_9 : decode prog_10_method_7_code 9 = .ok (.getfield 9, 3) := by decide +kernel
theorem d6_12 : decode prog_10_method_7_code 12 = .ok (.arraylength, 1) := by decide +kernel
theorem d6_13 : decode prog_10_method_7_code 13 = .ok (.if_icmp .ge 7, 3) := by decide +kernel
theorem d6_16 : decode prog_10_method_7_code 16 = .ok (.iload_n 2, 1) := by decide +kernel
theorem d6_17 : decode prog_10_method_7_code 17 = .ok (.goto 10, 3) := by decide +kernel
theorem d6_20 : decode prog_10_method_7_code 20 = .ok (.iload_n 2, 1) := by decide +kernel
theorem d6_21 : decode prog_10_method_7_code 21 = .ok (.aload_n 0, 1) := by decide +kernel
theorem d6_22 : decode prog_10_method_7_code 22 = .ok (.getfield 9, 3) := by decide +kernel
theorem d6_25 : decode prog_10_method_7_code 25 = .ok (.arraylength, 1) := by decide +kernel
theorem d6_26 : decode prog_10_method_7_code 26 = .ok (.isub, 1) := by decide +kernel
theorem d6_27 : decode prog_10_method_7_code 27 = .ok (.ireturn, 1) := by decide +kernel
theorem ef_plaF (m : MethodId) (x0 : Addr) (x1 : Int32) : entryFrame m #[(.ref x0), (.int x1)] 3 = mkF m 0 #[.val (.ref x0), .val (.int x1), .unset] [] := by first | (simp [entryFrame, mkF, argsToLocals, Value.category]; done) | rfl
def plaF (k : Int32) (old : Int32) (sl : List Int64) : Int32 := (if (old + k) < (sl.length.toInt32) then (old + k) else ((old + k) - (sl.length.toInt32)))
def QplaF (Z : State) (a : Addr) (k : Int32) (aS : Addr) (old : Int32) (sl : List Int64) (RES : Int32) (h0 : Heap) (n0 : Nat) (v : Option Value) (h : Heap) (L : List Loc) : Prop := v = some (.int RES) ∧ Fr n0 L ∧ h = h0
set_option maxRecDepth 65536 in
set_option maxHeartbeats 40000000 in
theorem rm_plaF (l : Launch) (Z : State) (a0 : Array Value) (hw : ∀ d ∈ tables_1, d.before a0 Z = true) (ws : List Jvm.Cond) (a : Addr) (k : Int32) (aS : Addr) (old : Int32) (sl : List Int64) (h0 : Heap) (n0 : Nat) (Z0 : n0 ≤ h0.size) (F0 : Fld Z h0 a "com/example/talthybius/talthybius/AwaitedPings" "sentAt" "[J" (.ref aS)) (F1 : Fld Z h0 a "com/example/talthybius/talthybius/AwaitedPings" "oldest" "I" (.int old)) (F2 : VA Z h0 aS .long (sl.map Value.long)) :
    MetFree l (⟨"com/example/talthybius/talthybius/AwaitedPings", "placeOf", "(I)I"⟩ : MethodName) (head1 (Jvm.Cond.code (⟨"com/example/talthybius/talthybius/AwaitedPings", "placeOf", "(I)I"⟩ : MethodName) prog_10_method_7_code 3 (some .int) :: ws) ({ frames := 0, cells := 0, slots := 0, locals := 0 } : Room)) (fun A_ U => A_ = #[(.ref a), (.int k)] ∧ Z.Warmed39 U.vm ∧ U.heap = h0) (fun _ _ _ _ _ => True) (fun _ U o U' => ∃ v L, o = .returned v ∧ QplaF Z a k aS old sl (plaF k old sl) h0 n0 v U'.heap L ∧ FrameEnd U o U' L ({ frames := 0, cells := 0, slots := 0, locals := 0 } : Room).cells ({ frames := 0, cells := 0, slots := 0, locals := 0 } : Room).slots) := by
  refine MetFree.of_bodySF (plainFor_of_name pn_0) hisR ?_
  intro p e s m args below meth c s₁ Bd hml0 hP hK
  obtain ⟨rfl, hZ, hh⟩ := hP
  have hx := Bd.exec
  have hby := Bd.bytes
  have hml : c.maxLocals = 3 := hml0
  have hown : s.vm.findClass "com/example/talthybius/talthybius/AwaitedPings" = some m.cls := findClass_of_methodNamed Bd.named
  have hnm := (name_of_methodNamed Bd.named Bd.method).1
  have X0 : Stand p l e ({ frames := 0, cells := 0, slots := 0, locals := 0 } : Room) s m #[(.ref a), (.int k)] below meth c s₁ [] 0 0 := Stand.of_body Bd
  have e0 : s₁.heap = h0 := by rw [← hh, Bd.state]; rfl
  have N0 := Fr.nil n0
  obtain ⟨RES, hf⟩ : ∃ z, z = plaF k old sl := ⟨_, rfl⟩
  rw [← hf]
  rw [plaF] at hf
  suffices HGO : Go p e below s (QplaF Z a k aS old sl RES h0 n0) ({ frames := 0, cells := 0, slots := 0, locals := 0 } : Room).cells ({ frames := 0, cells := 0, slots := 0, locals := 0 } : Room).slots s₁ (mkF m 0 #[.val (.ref a), .val (.int k), .unset] []) from Go.cast (ef_plaF m a k) HGO
  obtain ⟨T1, X1, e1, st1⟩ := getF X0 hx hZ hown (host := "") (Or.inl (hw _ (List.mem_of_getElem? (i := 40) rfl))) Via.refl e0 F1 (g := (mkF m 1 #[.val (.ref a), .val (.int k), .unset] [(.ref a)])) rfl rfl (hb hby d6_1)
  obtain ⟨T2, X2, e2, st2⟩ := getF X1 hx hZ hown (host := "") (Or.inl (hw _ (List.mem_of_getElem? (i := 18) rfl))) Via.refl e1 F0 (g := (mkF m 9 #[.val (.ref a), .val (.int k), .val (.int (old + k))] [(.ref a), (.int (old + k))])) rfl rfl (hb hby d6_9)
  have ln3 : ((sl.map Value.long).length : Int) = ((sl.length.toInt32)).toInt := (by have q := F2.len; rw [List.length_map] at q; rw [len_toInt q, List.length_map])
  refine Go.step (T' := T2) (f' := (mkF m 13 #[.val (.ref a), .val (.int k), .val (.int (old + k))] [(.int (sl.length.toInt32)), (.int (old + k))])) (fun t kt => ?_) ?_
  · show Steps p.tables e below (s₁.setTop (mkF m 0 #[.val (.ref a), .val (.int k), .unset] [])) _
    refine XS.aloadN X0.here hx rfl (hb hby d6_0) rfl rfl ?_
    show Steps p.tables e below (s₁.setTop (mkF m 1 #[.val (.ref a), .val (.int k), .unset] [(.ref a)])) _
    refine st1 _ ?_
    show Steps p.tables e below (T1.setTop (mkF m 4 #[.val (.ref a), .val (.int k), .unset] [(.int old)])) _
    refine XS.iloadN X1.here hx rfl (hb hby d6_4) rfl ?_
    show Steps p.tables e below (T1.setTop (mkF m 5 #[.val (.ref a), .val (.int k), .unset] [(.int k), (.int old)])) _
    refine XS.iadd X1.here hx rfl (hb hby d6_5) rfl ?_
    show Steps p.tables e below (T1.setTop (mkF m 6 #[.val (.ref a), .val (.int k), .unset] [(.int (old + k))])) _
    refine XS.istoreN X1.here hx rfl (hb hby d6_6) rfl (l' := #[.val (.ref a), .val (.int k), .val (.int (old + k))]) rfl ?_
    show Steps p.tables e below (T1.setTop (mkF m 7 #[.val (.ref a), .val (.int k), .val (.int (old + k))] [])) _
    refine XS.iloadN X1.here hx rfl (hb hby d6_7) rfl ?_
    show Steps p.tables e below (T1.setTop (mkF m 8 #[.val (.ref a), .val (.int k), .val (.int (old + k))] [(.int (old + k))])) _
    refine XS.aloadN X1.here hx rfl (hb hby d6_8) rfl rfl ?_
    show Steps p.tables e below (T1.setTop (mkF m 9 #[.val (.ref a), .val (.int k), .val (.int (old + k))] [(.ref a), (.int (old + k))])) _
    refine st2 _ ?_
    show Steps p.tables e below (T2.setTop (mkF m 12 #[.val (.ref a), .val (.int k), .val (.int (old + k))] [(.ref aS), (.int (old + k))])) _
    refine lenA X2 hx hZ e2 F2 (n := (sl.length.toInt32)) ln3 (g := (mkF m 12 #[.val (.ref a), .val (.int k), .val (.int (old + k))] [(.ref aS), (.int (old + k))])) rfl rfl (hb hby d6_12) _ ?_
    exact kt
  by_cases hc4 : (old + k) < (sl.length.toInt32)
  · rw [if_pos hc4] at hf
    refine Go.step (T' := T2) (f' := (mkF m 16 #[.val (.ref a), .val (.int k), .val (.int (old + k))] [])) (fun t kt => ?_) ?_
    · show Steps p.tables e below (T2.setTop (mkF m 13 #[.val (.ref a), .val (.int k), .val (.int (old + k))] [(.int (sl.length.toInt32)), (.int (old + k))])) _
      refine XS.icmpNo X2.here hx rfl (hb hby d6_13) rfl (tlt hc4).2.1 ?_
      exact kt
    refine Go.step (T' := T2) (f' := (mkF m 27 #[.val (.ref a), .val (.int k), .val (.int (old + k))] [(.int (old + k))])) (fun t kt => ?_) ?_
    · show Steps p.tables e below (T2.setTop (mkF m 16 #[.val (.ref a), .val (.int k), .val (.int (old + k))] [])) _
      refine XS.iloadN X2.here hx rfl (hb hby d6_16) rfl ?_
      show Steps p.tables e below (T2.setTop (mkF m 17 #[.val (.ref a), .val (.int k), .val (.int (old + k))] [(.int (old + k))])) _
      refine XS.goto X2.here hx rfl (pc0 := 17) (pc' := 27) rfl (hb hby d6_17) (by decide) (by decide) ?_
      exact kt
    refine Go.fin X2 (v := some (.int (old + k))) (fun h => by rw [Bd.returns] at h; cases h) Bd.notSynchronized ?_ (Nat.le_trans (Nat.le_refl 0) (by decide)) (Nat.le_trans (Nat.le_refl 0) (by decide)) (fun fs hr => retI X2 hx Bd.returns (hb hby d6_27) hr)
    · exact ⟨by rw [hf], N0, e2⟩
  · rw [if_neg hc4] at hf
    refine Go.step (T' := T2) (f' := (mkF m 20 #[.val (.ref a), .val (.int k), .val (.int (old + k))] [])) (fun t kt => ?_) ?_
    · show Steps p.tables e below (T2.setTop (mkF m 13 #[.val (.ref a), .val (.int k), .val (.int (old + k))] [(.int (sl.length.toInt32)), (.int (old + k))])) _
      refine XS.icmpYes X2.here hx rfl (pc0 := 13) (pc' := 20) rfl (hb hby d6_13) rfl (flt hc4).2.1 (by decide) (by decide) ?_
      exact kt
    obtain ⟨T5, X5, e5, st5⟩ := getF X2 hx hZ hown (host := "") (Or.inl (hw _ (List.mem_of_getElem? (i := 18) rfl))) Via.refl e2 F0 (g := (mkF m 22 #[.val (.ref a), .val (.int k), .val (.int (old + k))] [(.ref a), (.int (old + k))])) rfl rfl (hb hby d6_22)
    have ln6 : ((sl.map Value.long).length : Int) = ((sl.length.toInt32)).toInt := (by have q := F2.len; rw [List.length_map] at q; rw [len_toInt q, List.length_map])
    refine Go.step (T' := T5) (f' := (mkF m 27 #[.val (.ref a), .val (.int k), .val (.int (old + k))] [(.int ((old + k) - (sl.length.toInt32)))])) (fun t kt => ?_) ?_
    · show Steps p.tables e below (T2.setTop (mkF m 20 #[.val (.ref a), .val (.int k), .val (.int (old + k))] [])) _
      refine XS.iloadN X2.here hx rfl (hb hby d6_20) rfl ?_
      show Steps p.tables e below (T2.setTop (mkF m 21 #[.val (.ref a), .val (.int k), .val (.int (old + k))] [(.int (old + k))])) _
      refine XS.aloadN X2.here hx rfl (hb hby d6_21) rfl rfl ?_
      show Steps p.tables e below (T2.setTop (mkF m 22 #[.val (.ref a), .val (.int k), .val (.int (old + k))] [(.ref a), (.int (old + k))])) _
      refine st5 _ ?_
      show Steps p.tables e below (T5.setTop (mkF m 25 #[.val (.ref a), .val (.int k), .val (.int (old + k))] [(.ref aS), (.int (old + k))])) _
      refine lenA X5 hx hZ e5 F2 (n := (sl.length.toInt32)) ln6 (g := (mkF m 25 #[.val (.ref a), .val (.int k), .val (.int (old + k))] [(.ref aS), (.int (old + k))])) rfl rfl (hb hby d6_25) _ ?_
      show Steps p.tables e below (T5.setTop (mkF m 26 #[.val (.ref a), .val (.int k), .val (.int (old + k))] [(.int (sl.length.toInt32)), (.int (old + k))])) _
      refine XS.isub X5.here hx rfl (hb hby d6_26) rfl ?_
      exact kt
    refine Go.fin X5 (v := some (.int ((old + k) - (sl.length.toInt32)))) (fun h => by rw [Bd.returns] at h; cases h) Bd.notSynchronized ?_ (Nat.le_trans (Nat.le_refl 0) (by decide)) (Nat.le_trans (Nat.le_refl 0) (by decide)) (fun fs hr => retI X5 hx Bd.returns (hb hby d6_27) hr)
    · exact ⟨by rw [hf], N0, e5⟩
def own_AP (N : Nat) (sl : List Int64) (al : List Int32) (old cnt : Int32) (q : List (Int64 × Int32)) : Prop :=
  sl.length = N ∧ al.length = N ∧ (N = 8 ∨ N = 16) ∧ 0 ≤ old.toInt ∧ old.toInt < N ∧ cnt.toInt = q.length ∧ q.length ≤ N ∧ (∀ e ∈ q, e.2 = (0 : Int32) ∨ e.2 = (1 : Int32)) ∧
  ∀ (i : Nat) (h : i < q.length), sl.getD ((old.toInt.toNat + i) % N) 0 = (q[i]).1 ∧ al.getD ((old.toInt.toNat + i) % N) 0 = (q[i]).2
def own_dr (now tmo : Int64) (q : List (Int64 × Int32)) : List (Int64 × Int32) := q.dropWhile (fun e => decide (tmo < now - e.1))
def own_srt (q : List (Int64 × Int32)) : Prop := ∀ (i j : Nat) (h : i < j) (hj : j < q.length), (q[i]).1.toInt < (q[j]).1.toInt
def own_mk (ec : Int64) (q : List (Int64 × Int32)) : List (Int64 × Int32) := q.map (fun e => if e.1 = ec then (e.1, (1 : Int32)) else e)
def own_an (ec : Int64) (q : List (Int64 × Int32)) : Int32 := if q.any (fun e => decide (e.1 = ec) && decide (e.2 = (0 : Int32))) then 1 else 0
def own_FR (q : List (Int64 × Int32)) (tm : Int64) (r : Int32) : Prop := (r = -1 ∧ ∀ (i : Nat) (h : i < q.length), (q[i]).1 ≠ tm) ∨ (0 ≤ r.toInt ∧ ∃ h : r.toInt.toNat < q.length, (q[r.toInt.toNat]).1 = tm)
def own_FD (q : List (Int64 × Int32)) (tm : Int64) (x3 x4 x5 : Int32) : Prop :=
  (x5 = -1 ∧ 0 ≤ x3.toInt ∧ x4.toInt < q.length ∧ x3.toInt ≤ x4.toInt + 1 ∧ (∀ (i : Nat) (h : i < q.length), (i : Int) < x3.toInt → (q[i]).1.toInt < tm.toInt) ∧ (∀ (i : Nat) (h : i < q.length), x4.toInt < (i : Int) → tm.toInt < (q[i]).1.toInt)) ∨
  (0 ≤ x5.toInt ∧ ∃ h : x5.toInt.toNat < q.length, (q[x5.toInt.toNat]).1 = tm)
def own_FM (x3 x4 x5 : Int32) : Nat := if x5 = -1 then (x4.toInt - x3.toInt + 1).toNat + 1 else 0
def own_GI (q : List (Int64 × Int32)) (x3 : Int32) (m1 : List Int64) (m2 : List Int32) : Prop := 0 ≤ x3.toInt ∧ x3.toInt ≤ 8 ∧ m1.length = 16 ∧ m2.length = 16 ∧ ∀ (i : Nat) (h : i < q.length), (i : Int) < x3.toInt → m1.getD i 0 = (q[i]).1 ∧ m2.getD i 0 = (q[i]).2
theorem own_cl {j : Int32} (h0 : 0 ≤ j.toInt) : j.toNatClampNeg = j.toInt.toNat := by have := own_nat h0; omega
theorem own_pl {N : Nat} {sl : List Int64} {al : List Int32} {old cnt : Int32} {q : List (Int64 × Int32)} (h : own_AP N sl al old cnt q) {k : Int32} (h0 : 0 ≤ k.toInt) (h1 : k.toInt ≤ N) : (plaF k old sl).toInt = (((old.toInt.toNat + k.toInt.toNat) % N : Nat) : Int) ∧ (plaF k old sl).toNatClampNeg = (old.toInt.toNat + k.toInt.toNat) % N := by
  obtain ⟨l1, l2, hN, o0, o1, -⟩ := h
  have e : (old + k).toInt = old.toInt + k.toInt := own_add (by omega) (by omega)
  have el : sl.length.toInt32.toInt = N := by rw [len_toInt (by omega), l1]
  have key : (plaF k old sl).toInt = (((old.toInt.toNat + k.toInt.toNat) % N : Nat) : Int) := by
    unfold plaF
    split
    · rename_i hlt
      rw [Int32.lt_iff_toInt_lt, e, el] at hlt
      rw [e]
      rcases hN with rfl | rfl <;> omega
    · rename_i hlt
      rw [Int32.lt_iff_toInt_lt, e, el] at hlt
      rw [own_sub (by omega) (by omega), e, el]
      rcases hN with rfl | rfl <;> omega
  refine ⟨key, ?_⟩
  rw [own_cl (by rw [key]; omega), key]; omega
theorem own_f0 {N : Nat} {sl : List Int64} {al : List Int32} {old cnt : Int32} {q : List (Int64 × Int32)} (h : own_AP N sl al old cnt q) : 0 ≤ old.toInt ∧ old.toInt < (sl.length : Int) := by
  obtain ⟨l1, l2, hN, o0, o1, -⟩ := h
  omega
theorem own_hd {N : Nat} {sl : List Int64} {al : List Int32} {old cnt : Int32} {e : Int64 × Int32} {q : List (Int64 × Int32)} (h : own_AP N sl al old cnt (e :: q)) : sl.getD old.toNatClampNeg (0 : Int64) = e.1 := by
  obtain ⟨l1, l2, hN, o0, o1, -, -, -, H⟩ := h
  have := (H 0 (by simp)).1
  rw [own_cl o0]
  rw [Nat.add_zero, Nat.mod_eq_of_lt (by omega)] at this
  exact this
theorem own_f1 {N : Nat} {sl : List Int64} {al : List Int32} {o1 c1 : Int32} {q1 : List (Int64 × Int32)} {now tmo : Int64} (h : own_AP N sl al o1 c1 q1) (h1 : (0 : Int32) < c1) (h2 : tmo < (now - (sl.getD o1.toNatClampNeg (0 : Int64)))) :
    q1.tail.length < q1.length ∧ own_AP N sl al (plaF (1 : Int32) o1 sl) (c1 - (1 : Int32)) q1.tail ∧ own_dr now tmo q1.tail = own_dr now tmo q1 := by
  have k0 : (0 : Int32).toInt = 0 := rfl
  have k1 : (1 : Int32).toInt = 1 := rfl
  rw [Int32.lt_iff_toInt_lt, k0] at h1
  have rc := rng32 c1
  match q1, h with
  | [], h => obtain ⟨-, -, -, -, -, c, -⟩ := h; simp at c; omega
  | e :: t, h =>
    have hd := own_hd h
    have hp := own_pl h (k := 1) (by decide) (by obtain ⟨-, -, hN, -⟩ := h; rw [k1]; omega)
    obtain ⟨l1, l2, hN, a0, a1, c, ql, B, H⟩ := h
    rw [k1] at hp
    simp only [List.length_cons] at c ql
    refine ⟨by simp, ⟨l1, l2, hN, by rw [hp.1]; omega, by rw [hp.1]; have := Nat.mod_lt (o1.toInt.toNat + Int.toNat 1) (show 0 < N by omega); omega, ?_, by simp; omega, fun x hx => B x (List.mem_cons_of_mem _ hx), ?_⟩, ?_⟩
    · rw [own_sub (by omega) (by omega), k1, c]; simp
    · intro i hi
      have := H (i + 1) (by simp at hi ⊢; omega)
      rw [hp.1]
      simp only [List.tail_cons, List.getElem_cons_succ] at this ⊢
      have e1 : ((((o1.toInt.toNat + Int.toNat 1) % N : Nat) : Int).toNat + i) % N = (o1.toInt.toNat + (i + 1)) % N := by
        rcases hN with rfl | rfl <;> omega
      rw [e1]; exact this
    · unfold own_dr
      rw [List.tail_cons, List.dropWhile_cons, if_pos (by rw [hd] at h2; exact decide_eq_true h2)]
theorem own_f2 {N : Nat} {sl : List Int64} {al : List Int32} {o1 c1 : Int32} {q1 : List (Int64 × Int32)} {now tmo : Int64} (h : own_AP N sl al o1 c1 q1) (h1 : ¬ ((0 : Int32) < c1)) : own_AP N sl al o1 c1 (own_dr now tmo q1) := by
  have k0 : (0 : Int32).toInt = 0 := rfl
  rw [Int32.lt_iff_toInt_lt, k0] at h1
  match q1, h with
  | [], h => exact h
  | e :: t, h => obtain ⟨-, -, -, -, -, c, -⟩ := h; simp at c; omega
theorem own_f3 {N : Nat} {sl : List Int64} {al : List Int32} {o1 c1 : Int32} {q1 : List (Int64 × Int32)} {now tmo : Int64} (h : own_AP N sl al o1 c1 q1) (h1 : (0 : Int32) < c1) (h2 : ¬ (tmo < (now - (sl.getD o1.toNatClampNeg (0 : Int64))))) : own_AP N sl al o1 c1 (own_dr now tmo q1) := by
  match q1, h with
  | [], h => exact h
  | e :: t, h =>
    have hd := own_hd h
    have : own_dr now tmo (e :: t) = e :: t := by
      unfold own_dr
      rw [List.dropWhile_cons, if_neg (by rw [hd] at h2; simpa using h2)]
    rw [this]; exact h
theorem own_d0 {N : Nat} {sl : List Int64} {al : List Int32} {old cnt : Int32} {q : List (Int64 × Int32)} {tm : Int64} (h : own_AP N sl al old cnt q) : own_FD q tm (0 : Int32) (cnt - (1 : Int32)) (-1 : Int32) := by
  obtain ⟨l1, l2, hN, a0, a1, c, ql, B, H⟩ := h
  have k0 : (0 : Int32).toInt = 0 := rfl
  have k1 : (1 : Int32).toInt = 1 := rfl
  have e : (cnt - (1 : Int32)).toInt = q.length - 1 := by rw [own_sub (by omega) (by omega), k1, c]
  exact Or.inl ⟨rfl, by decide, by omega, by omega, fun i hi h => by omega, fun i hi h => by omega⟩
theorem own_mid {x3 x4 : Int32} (h0 : 0 ≤ x3.toInt) (h1 : x3.toInt ≤ x4.toInt) (h2 : x4.toInt < 17) : (((x3 + x4).toUInt32 >>> ((1 : Int32) &&& 31).toUInt32).toInt32).toInt = (x3.toInt + x4.toInt) / 2 := by
  have e : (x3 + x4).toInt = x3.toInt + x4.toInt := own_add (by omega) (by omega)
  have q := c_iushr (x3 + x4) 1 1 (by decide) (by decide)
  rw [q, e]; omega
theorem own_FDl {q : List (Int64 × Int32)} {tm : Int64} {x3 x4 x5 : Int32} (hi : own_FD q tm x3 x4 x5) (h5 : x5 < (0 : Int32)) : x5 = -1 ∧ 0 ≤ x3.toInt ∧ x4.toInt < q.length ∧ x3.toInt ≤ x4.toInt + 1 ∧ (∀ (i : Nat) (h : i < q.length), (i : Int) < x3.toInt → (q[i]).1.toInt < tm.toInt) ∧ (∀ (i : Nat) (h : i < q.length), x4.toInt < (i : Int) → tm.toInt < (q[i]).1.toInt) := by
  rcases hi with hi | hi
  · exact hi
  · rw [Int32.lt_iff_toInt_lt] at h5
    have k0 : (0 : Int32).toInt = 0 := rfl
    omega
theorem own_at {N : Nat} {sl : List Int64} {al : List Int32} {old cnt : Int32} {q : List (Int64 × Int32)} (h : own_AP N sl al old cnt q) {k : Int32} (h0 : 0 ≤ k.toInt) (h1 : k.toInt.toNat < q.length) : sl.getD (plaF k old sl).toNatClampNeg (0 : Int64) = (q[k.toInt.toNat]).1 ∧ al.getD (plaF k old sl).toNatClampNeg (0 : Int32) = (q[k.toInt.toNat]).2 := by
  have ql : q.length ≤ N := by obtain ⟨-, -, -, -, -, -, ql, -⟩ := h; exact ql
  have hp := own_pl h h0 (by omega)
  obtain ⟨l1, l2, hN, a0, a1, c, ql, B, H⟩ := h
  rw [hp.2]
  exact H _ h1
theorem own_ib {N : Nat} {sl : List Int64} {al : List Int32} {old cnt : Int32} {q : List (Int64 × Int32)} (h : own_AP N sl al old cnt q) {k : Int32} (h0 : 0 ≤ k.toInt) (h1 : k.toInt ≤ N) : (0 ≤ (plaF k old sl).toInt ∧ (plaF k old sl).toInt < (sl.length : Int)) ∧ (0 ≤ (plaF k old sl).toInt ∧ (plaF k old sl).toInt < (al.length : Int)) := by
  have hp := own_pl h h0 h1
  obtain ⟨l1, l2, hN, -⟩ := h
  have := Nat.mod_lt (old.toInt.toNat + k.toInt.toNat) (show 0 < N by omega)
  rw [hp.1, l1, l2]; omega
theorem own_dI {N : Nat} {sl : List Int64} {al : List Int32} {old cnt : Int32} {q : List (Int64 × Int32)} {tm : Int64} {x3 x4 x5 : Int32} (h : own_AP N sl al old cnt q) (hi : own_FD q tm x3 x4 x5) (h5 : x5 < (0 : Int32)) (h34 : ¬ x4 < x3) : 0 ≤ (plaF (((x3 + x4).toUInt32 >>> ((1 : Int32) &&& 31).toUInt32).toInt32) old sl).toInt ∧ (plaF (((x3 + x4).toUInt32 >>> ((1 : Int32) &&& 31).toUInt32).toInt32) old sl).toInt < (sl.length : Int) := by
  have hd := own_FDl hi h5
  rw [Int32.lt_iff_toInt_lt] at h34
  have ql : q.length ≤ N ∧ (N = 8 ∨ N = 16) := by obtain ⟨-, -, hN, -, -, -, ql, -⟩ := h; exact ⟨ql, hN⟩
  have m := own_mid (x3 := x3) (x4 := x4) hd.2.1 (by omega) (by omega)
  exact (own_ib h (by rw [m]; omega) (by rw [m]; omega)).1
theorem own_midV {N : Nat} {sl : List Int64} {al : List Int32} {old cnt : Int32} {q : List (Int64 × Int32)} {tm : Int64} {x3 x4 x5 : Int32} (h : own_AP N sl al old cnt q) (hi : own_FD q tm x3 x4 x5) (h5 : x5 < (0 : Int32)) (h34 : ¬ x4 < x3) : ∃ (m : Nat) (hm : m < q.length), m < 16 ∧ (((x3 + x4).toUInt32 >>> ((1 : Int32) &&& 31).toUInt32).toInt32).toInt = m ∧ x3.toInt ≤ m ∧ m ≤ x4.toInt ∧ sl.getD (plaF (((x3 + x4).toUInt32 >>> ((1 : Int32) &&& 31).toUInt32).toInt32) old sl).toNatClampNeg (0 : Int64) = (q[m]).1 := by
  have hd := own_FDl hi h5
  rw [Int32.lt_iff_toInt_lt] at h34
  have ql : q.length ≤ N ∧ (N = 8 ∨ N = 16) := by obtain ⟨-, -, hN, -, -, -, ql, -⟩ := h; exact ⟨ql, hN⟩
  have m := own_mid (x3 := x3) (x4 := x4) hd.2.1 (by omega) (by omega)
  have a := (own_at h (k := (((x3 + x4).toUInt32 >>> ((1 : Int32) &&& 31).toUInt32).toInt32)) (by rw [m]; omega) (by rw [m]; omega)).1
  refine ⟨((((x3 + x4).toUInt32 >>> ((1 : Int32) &&& 31).toUInt32).toInt32).toInt).toNat, by rw [m]; omega, by rw [m]; omega, by rw [m]; omega, by rw [m]; omega, by rw [m]; omega, a⟩
theorem own_dL {N : Nat} {sl : List Int64} {al : List Int32} {old cnt : Int32} {q : List (Int64 × Int32)} {tm : Int64} {x3 x4 x5 : Int32} (h : own_AP N sl al old cnt q) (hS : own_srt q) (hi : own_FD q tm x3 x4 x5) (h5 : x5 < (0 : Int32)) (h34 : ¬ x4 < x3) (hc : (sl.getD (plaF (((x3 + x4).toUInt32 >>> ((1 : Int32) &&& 31).toUInt32).toInt32) old sl).toNatClampNeg (0 : Int64)) < tm) :
    own_FM ((((x3 + x4).toUInt32 >>> ((1 : Int32) &&& 31).toUInt32).toInt32) + (1 : Int32)) x4 x5 < own_FM x3 x4 x5 ∧ own_FD q tm ((((x3 + x4).toUInt32 >>> ((1 : Int32) &&& 31).toUInt32).toInt32) + (1 : Int32)) x4 x5 := by
  obtain ⟨m, hm, m16, e1, e2, e3, e4⟩ := own_midV h hi h5 h34
  have hd := own_FDl hi h5
  have r4 := rng32 x4
  have k1 : (1 : Int32).toInt = 1 := rfl
  have ea : ((((x3 + x4).toUInt32 >>> ((1 : Int32) &&& 31).toUInt32).toInt32) + (1 : Int32)).toInt = m + 1 := by rw [own_add (by omega) (by omega), e1, k1]
  rw [e4, Int64.lt_iff_toInt_lt] at hc
  refine ⟨?_, Or.inl ⟨hd.1, by omega, hd.2.2.1, by omega, fun i hi' hlt => ?_, hd.2.2.2.2.2⟩⟩
  · unfold own_FM; rw [if_pos hd.1, if_pos hd.1, ea]; omega
  · by_cases g : i = m
    · subst g; exact hc
    · have := hS i m (by omega) hm; omega
theorem own_dH {N : Nat} {sl : List Int64} {al : List Int32} {old cnt : Int32} {q : List (Int64 × Int32)} {tm : Int64} {x3 x4 x5 : Int32} (h : own_AP N sl al old cnt q) (hS : own_srt q) (hi : own_FD q tm x3 x4 x5) (h5 : x5 < (0 : Int32)) (h34 : ¬ x4 < x3) (hc : tm < (sl.getD (plaF (((x3 + x4).toUInt32 >>> ((1 : Int32) &&& 31).toUInt32).toInt32) old sl).toNatClampNeg (0 : Int64))) :
    own_FM x3 ((((x3 + x4).toUInt32 >>> ((1 : Int32) &&& 31).toUInt32).toInt32) - (1 : Int32)) x5 < own_FM x3 x4 x5 ∧ own_FD q tm x3 ((((x3 + x4).toUInt32 >>> ((1 : Int32) &&& 31).toUInt32).toInt32) - (1 : Int32)) x5 := by
  obtain ⟨m, hm, m16, e1, e2, e3, e4⟩ := own_midV h hi h5 h34
  have hd := own_FDl hi h5
  have r4 := rng32 x4
  have k1 : (1 : Int32).toInt = 1 := rfl
  have ea : ((((x3 + x4).toUInt32 >>> ((1 : Int32) &&& 31).toUInt32).toInt32) - (1 : Int32)).toInt = m - 1 := by rw [own_sub (by omega) (by omega), e1, k1]
  rw [e4, Int64.lt_iff_toInt_lt] at hc
  refine ⟨?_, Or.inl ⟨hd.1, hd.2.1, by omega, by omega, hd.2.2.2.2.1, fun i hi' hlt => ?_⟩⟩
  · unfold own_FM; rw [if_pos hd.1, if_pos hd.1, ea]; omega
  · by_cases g : i = m
    · subst g; exact hc
    · have := hS m i (by omega) hi'; omega
theorem own_dE {N : Nat} {sl : List Int64} {al : List Int32} {old cnt : Int32} {q : List (Int64 × Int32)} {tm : Int64} {x3 x4 x5 : Int32} (h : own_AP N sl al old cnt q) (hS : own_srt q) (hi : own_FD q tm x3 x4 x5) (h5 : x5 < (0 : Int32)) (h34 : ¬ x4 < x3) (hc : ¬ (sl.getD (plaF (((x3 + x4).toUInt32 >>> ((1 : Int32) &&& 31).toUInt32).toInt32) old sl).toNatClampNeg (0 : Int64)) < tm) (hc2 : ¬ tm < (sl.getD (plaF (((x3 + x4).toUInt32 >>> ((1 : Int32) &&& 31).toUInt32).toInt32) old sl).toNatClampNeg (0 : Int64))) :
    own_FM x3 x4 (((x3 + x4).toUInt32 >>> ((1 : Int32) &&& 31).toUInt32).toInt32) < own_FM x3 x4 x5 ∧ own_FD q tm x3 x4 (((x3 + x4).toUInt32 >>> ((1 : Int32) &&& 31).toUInt32).toInt32) := by
  obtain ⟨m, hm, m16, e1, e2, e3, e4⟩ := own_midV h hi h5 h34
  have hd := own_FDl hi h5
  rw [e4, Int64.lt_iff_toInt_lt] at hc hc2
  have km : (-1 : Int32).toInt = -1 := by decide
  refine ⟨?_, Or.inr ⟨by omega, ?_⟩⟩
  · unfold own_FM
    rw [if_pos hd.1, if_neg (fun q => by rw [q] at e1; omega)]
    exact Nat.succ_pos _
  · have e5 : ((((x3 + x4).toUInt32 >>> ((1 : Int32) &&& 31).toUInt32).toInt32).toInt).toNat = m := by omega
    refine ⟨by omega, ?_⟩
    simp only [e5]
    exact Int64.toInt_inj.mp (by omega)
theorem own_dR {N : Nat} {sl : List Int64} {al : List Int32} {old cnt : Int32} {q : List (Int64 × Int32)} {tm : Int64} {x3 x4 x5 : Int32} (h : own_AP N sl al old cnt q) (hi : own_FD q tm x3 x4 x5) (hc : ¬ x5 < (0 : Int32) ∨ x4 < x3) : own_FR q tm x5 := by
  rcases hi with hi | hi
  · refine Or.inl ⟨hi.1, fun i hl e => ?_⟩
    rcases hc with hc | hc
    · exact hc (by rw [hi.1]; decide)
    · rw [Int32.lt_iff_toInt_lt] at hc
      obtain ⟨-, h1, h2, h3, h4, h5⟩ := hi
      by_cases g : (i : Int) < x3.toInt
      · have := h4 i hl g; rw [e] at this; omega
      · have := h5 i hl (by omega); rw [e] at this; omega
  · exact Or.inr hi
theorem own_dsub {now tmo : Int64} {q : List (Int64 × Int32)} : own_dr now tmo q = q.drop (q.length - (own_dr now tmo q).length) := by
  unfold own_dr
  have := List.dropWhile_suffix (fun e : Int64 × Int32 => decide (tmo < now - e.1)) (l := q)
  exact (List.suffix_iff_eq_drop.mp this)
theorem own_sdr {now tmo : Int64} {q : List (Int64 × Int32)} (h : own_srt q) : own_srt (own_dr now tmo q) := by
  rw [own_dsub]
  generalize q.length - (own_dr now tmo q).length = d
  intro i j hij hj
  rw [List.length_drop] at hj
  rw [List.getElem_drop, List.getElem_drop]
  exact h _ _ (by omega) _
theorem own_aI {N : Nat} {sl : List Int64} {al : List Int32} {old cnt : Int32} {q : List (Int64 × Int32)} {ec : Int64} {r : Int32} (h : own_AP N sl al old cnt q) (hR : own_FR q ec r) (hr : ¬ r < (0 : Int32)) : 0 ≤ (plaF r old sl).toInt ∧ (plaF r old sl).toInt < (al.length : Int) := by
  have ql : q.length ≤ N := by obtain ⟨-, -, -, -, -, -, ql, -⟩ := h; exact ql
  rcases hR with ⟨e, -⟩ | ⟨r0, r1, -⟩
  · exact absurd (by rw [e]; decide) hr
  · exact (own_ib h r0 (by omega)).2
theorem own_mk_id {ec : Int64} {q : List (Int64 × Int32)} (h : ∀ (i : Nat) (hi : i < q.length), (q[i]).1 = ec → (q[i]).2 = (1 : Int32)) : own_mk ec q = q := by
  apply List.ext_getElem
  · simp [own_mk]
  · intro i h1 h2
    simp only [own_mk, List.getElem_map]
    split
    · rename_i e
      have := h i h2 e
      exact Prod.ext rfl this.symm
    · rfl
theorem own_a1 {N : Nat} {sl : List Int64} {al : List Int32} {old cnt : Int32} {q : List (Int64 × Int32)} {ec : Int64} {r : Int32} (h : own_AP N sl al old cnt q) (hR : own_FR q ec r) (hr : r < (0 : Int32)) : own_AP N sl al old cnt (own_mk ec q) ∧ (0 : Int32) = own_an ec q := by
  rcases hR with ⟨-, hn⟩ | ⟨r0, -⟩
  · refine ⟨by rw [own_mk_id (fun i hi e => absurd e (hn i hi))]; exact h, ?_⟩
    unfold own_an
    rw [if_neg]
    intro hx
    obtain ⟨x, hx1, hx2⟩ := List.any_eq_true.mp hx
    obtain ⟨i, hi, rfl⟩ := List.getElem_of_mem hx1
    simp only [Bool.and_eq_true, decide_eq_true_eq] at hx2
    exact hn i hi hx2.1
  · rw [Int32.lt_iff_toInt_lt] at hr
    have k0 : (0 : Int32).toInt = 0 := rfl
    omega
theorem own_uniq {q : List (Int64 × Int32)} (hS : own_srt q) {i j : Nat} (hi : i < q.length) (hj : j < q.length) (e : (q[i]).1 = (q[j]).1) : i = j := by
  rcases Nat.lt_trichotomy i j with g | g | g
  · have := hS i j g hj; rw [e] at this; omega
  · exact g
  · have := hS j i g hi; rw [e] at this; omega
theorem own_a2 {N : Nat} {sl : List Int64} {al : List Int32} {old cnt : Int32} {q : List (Int64 × Int32)} {ec : Int64} {r : Int32} (hS : own_srt q) (h : own_AP N sl al old cnt q) (hR : own_FR q ec r) (hr : ¬ r < (0 : Int32)) (hv : ¬ (al.getD (plaF r old sl).toNatClampNeg (0 : Int32)) = (0 : Int32)) : own_AP N sl al old cnt (own_mk ec q) ∧ (0 : Int32) = own_an ec q := by
  rcases hR with ⟨e, -⟩ | ⟨r0, r1, re⟩
  · exact absurd (by rw [e]; decide) hr
  · have ha := (own_at h r0 r1).2
    rw [ha] at hv
    have B : ∀ e ∈ q, e.2 = (0 : Int32) ∨ e.2 = (1 : Int32) := by obtain ⟨-, -, -, -, -, -, -, B, -⟩ := h; exact B
    have h1 : (q[r.toInt.toNat]).2 = (1 : Int32) := (B _ (List.getElem_mem _)).resolve_left hv
    have hall : ∀ (i : Nat) (hi : i < q.length), (q[i]).1 = ec → (q[i]).2 = (1 : Int32) := fun i hi e => by
      have := own_uniq hS hi r1 (e.trans re.symm)
      subst this; exact h1
    refine ⟨by rw [own_mk_id hall]; exact h, ?_⟩
    unfold own_an
    rw [if_neg]
    intro hx
    obtain ⟨x, hx1, hx2⟩ := List.any_eq_true.mp hx
    obtain ⟨i, hi, rfl⟩ := List.getElem_of_mem hx1
    simp only [Bool.and_eq_true, decide_eq_true_eq] at hx2
    have := hall i hi hx2.1
    rw [hx2.2] at this
    exact absurd this (by decide)
theorem own_a3 {N : Nat} {sl : List Int64} {al : List Int32} {old cnt : Int32} {q : List (Int64 × Int32)} {ec : Int64} {r : Int32} (hS : own_srt q) (h : own_AP N sl al old cnt q) (hR : own_FR q ec r) (hr : ¬ r < (0 : Int32)) (hv : (al.getD (plaF r old sl).toNatClampNeg (0 : Int32)) = (0 : Int32)) : own_AP N sl (al.set (plaF r old sl).toNatClampNeg (1 : Int32)) old cnt (own_mk ec q) ∧ (1 : Int32) = own_an ec q := by
  rcases hR with ⟨e, -⟩ | ⟨r0, r1, re⟩
  · exact absurd (by rw [e]; decide) hr
  · have ha := (own_at h r0 r1).2
    have ql : q.length ≤ N := by obtain ⟨-, -, -, -, -, -, ql, -⟩ := h; exact ql
    have hp := own_pl h r0 (by omega)
    rw [hv] at ha
    obtain ⟨l1, l2, hN, a0, a1, c, ql, B, H⟩ := h
    refine ⟨⟨l1, by rw [List.length_set]; exact l2, hN, a0, a1, by simpa [own_mk] using c, by simpa [own_mk] using ql, ?_, ?_⟩, ?_⟩
    · intro e he
      simp only [own_mk, List.mem_map] at he
      obtain ⟨x, hx, rfl⟩ := he
      split
      · exact Or.inr rfl
      · exact B x hx
    · intro i hi
      simp only [own_mk, List.length_map] at hi
      have hh := H i hi
      simp only [own_mk, List.getElem_map]
      rw [hp.2]
      by_cases g : i = r.toInt.toNat
      · subst g
        rw [if_pos re]
        refine ⟨hh.1, ?_⟩
        rw [List.getD_eq_getElem?_getD, List.getElem?_set_self (by rw [l2]; exact Nat.mod_lt _ (by omega))]; rfl
      · have ne : ¬ (q[i]).1 = ec := fun e => g (own_uniq hS hi r1 (e.trans re.symm))
        rw [if_neg ne]
        refine ⟨hh.1, ?_⟩
        rw [List.getD_eq_getElem?_getD, List.getElem?_set_ne (by rcases hN with rfl | rfl <;> omega), ← List.getD_eq_getElem?_getD]; exact hh.2
    · unfold own_an
      rw [if_pos]
      apply List.any_eq_true.mpr
      refine ⟨q[r.toInt.toNat], List.getElem_mem _, ?_⟩
      simp only [Bool.and_eq_true, decide_eq_true_eq]
      exact ⟨re, ha.symm⟩
theorem own_s0 {N : Nat} {sl : List Int64} {al : List Int32} {o1 c1 : Int32} {q : List (Int64 × Int32)} (h : own_AP N sl al o1 c1 q) (hl : q.length < N) : ¬ (c1 = (sl.length.toInt32)) := fun e => by
  obtain ⟨l1, l2, hN, a0, a1, c, ql, B, H⟩ := h
  rw [e, len_toInt (by omega), l1] at c
  omega
theorem own_s4 {sl : List Int64} {al : List Int32} {o1 c1 : Int32} {q : List (Int64 × Int32)} (h : own_AP 8 sl al o1 c1 q) (hl : q.length = 8) : c1 = (sl.length.toInt32) := by
  obtain ⟨l1, l2, hN, a0, a1, c, ql, B, H⟩ := h
  apply Int32.toInt_inj.mp
  rw [len_toInt (by omega), l1, c, hl]
theorem own_s1 {N : Nat} {sl : List Int64} {al : List Int32} {o1 c1 : Int32} {q : List (Int64 × Int32)} (h : own_AP N sl al o1 c1 q) (hl : q.length < N) : 0 ≤ (plaF c1 o1 sl).toInt ∧ (plaF c1 o1 sl).toInt < (sl.length : Int) := by
  have c : c1.toInt = q.length := by obtain ⟨-, -, -, -, -, c, -⟩ := h; exact c
  exact (own_ib h (by omega) (by omega)).1
theorem own_s2 {N : Nat} {sl : List Int64} {al : List Int32} {o1 c1 : Int32} {q : List (Int64 × Int32)} (h : own_AP N sl al o1 c1 q) (hl : q.length < N) : 0 ≤ (plaF c1 o1 sl).toInt ∧ (plaF c1 o1 sl).toInt < (al.length : Int) := by
  have c : c1.toInt = q.length := by obtain ⟨-, -, -, -, -, c, -⟩ := h; exact c
  exact (own_ib h (by omega) (by omega)).2
theorem own_s3 {N : Nat} {sl : List Int64} {al : List Int32} {o1 c1 : Int32} {q : List (Int64 × Int32)} {tm : Int64} (h : own_AP N sl al o1 c1 q) (hl : q.length < N) : own_AP N (sl.set (plaF c1 o1 sl).toNatClampNeg tm) (al.set (plaF c1 o1 sl).toNatClampNeg (0 : Int32)) o1 (c1 + (1 : Int32)) (q ++ [(tm, (0 : Int32))]) := by
  have c : c1.toInt = q.length := by obtain ⟨-, -, -, -, -, c, -⟩ := h; exact c
  have hp := own_pl h (k := c1) (by omega) (by omega)
  obtain ⟨l1, l2, hN, a0, a1, -, ql, B, H⟩ := h
  have k1 : (1 : Int32).toInt = 1 := rfl
  have cn : c1.toInt.toNat = q.length := by omega
  refine ⟨by rw [List.length_set]; exact l1, by rw [List.length_set]; exact l2, hN, a0, a1, ?_, by simp; omega, ?_, ?_⟩
  · rw [own_add (by omega) (by omega), k1, c]; simp
  · intro e he
    rcases List.mem_append.mp he with he | he
    · exact B e he
    · rw [List.mem_singleton.mp he]; exact Or.inl rfl
  · intro i hi
    rw [hp.2, cn]
    by_cases g : i < q.length
    · have hh := H i g
      rw [List.getElem_append_left g]
      constructor
      · rw [List.getD_eq_getElem?_getD, List.getElem?_set_ne (by rcases hN with rfl | rfl <;> omega), ← List.getD_eq_getElem?_getD]; exact hh.1
      · rw [List.getD_eq_getElem?_getD, List.getElem?_set_ne (by rcases hN with rfl | rfl <;> omega), ← List.getD_eq_getElem?_getD]; exact hh.2
    · have e : i = q.length := by simp at hi; omega
      subst e
      rw [List.getElem_append_right (Nat.le_refl _)]
      have hm := Nat.mod_lt (o1.toInt.toNat + q.length) (show 0 < N by omega)
      constructor
      · rw [List.getD_eq_getElem?_getD, List.getElem?_set_self (by rw [l1]; exact hm)]; simp
      · rw [List.getD_eq_getElem?_getD, List.getElem?_set_self (by rw [l2]; exact hm)]; simp
theorem own_g0 {sl : List Int64} {al : List Int32} {old cnt : Int32} {q : List (Int64 × Int32)} (h : own_AP 8 sl al old cnt q) : ((sl.length.toInt32) * (2 : Int32)).toInt = 16 := by
  obtain ⟨l1, -⟩ := h
  rw [l1]; decide
theorem own_g1 {sl : List Int64} {al : List Int32} {old cnt : Int32} {q : List (Int64 × Int32)} (h : own_AP 8 sl al old cnt q) : own_GI q (0 : Int32) (List.replicate ((sl.length.toInt32) * (2 : Int32)).toInt.toNat (0 : Int64)) (List.replicate ((sl.length.toInt32) * (2 : Int32)).toInt.toNat (0 : Int32)) := by
  rw [own_g0 h]
  have k0 : (0 : Int32).toInt = 0 := rfl
  exact ⟨by decide, by decide, by simp, by simp, fun i hi hl => by omega⟩
theorem own_gx {sl : List Int64} {al : List Int32} {old cnt : Int32} {q : List (Int64 × Int32)} {x3 : Int32} {m1 : List Int64} {m2 : List Int32} (h : own_AP 8 sl al old cnt q) (h8 : q.length = 8) (hi : own_GI q x3 m1 m2) (hc : x3 < cnt) : 0 ≤ x3.toInt ∧ x3.toInt < 8 := by
  obtain ⟨-, -, -, -, -, c, -⟩ := h
  rw [Int32.lt_iff_toInt_lt, c, h8] at hc
  exact ⟨hi.1, by omega⟩
theorem own_g3 {sl : List Int64} {al : List Int32} {old cnt : Int32} {q : List (Int64 × Int32)} {x3 : Int32} {m1 : List Int64} {m2 : List Int32} (h : own_AP 8 sl al old cnt q) (h8 : q.length = 8) (hi : own_GI q x3 m1 m2) (hc : x3 < cnt) : (0 ≤ (plaF x3 old sl).toInt ∧ (plaF x3 old sl).toInt < (sl.length : Int)) ∧ (0 ≤ (plaF x3 old sl).toInt ∧ (plaF x3 old sl).toInt < (al.length : Int)) := by
  have g := own_gx h h8 hi hc
  exact own_ib h g.1 (by omega)
theorem own_g4 {sl : List Int64} {al : List Int32} {old cnt : Int32} {q : List (Int64 × Int32)} {x3 : Int32} {m1 : List Int64} {m2 : List Int32} (h : own_AP 8 sl al old cnt q) (h8 : q.length = 8) (hi : own_GI q x3 m1 m2) (hc : x3 < cnt) : (0 ≤ x3.toInt ∧ x3.toInt < (m1.length : Int)) ∧ (0 ≤ x3.toInt ∧ x3.toInt < (m2.length : Int)) := by
  have g := own_gx h h8 hi hc
  obtain ⟨-, -, e1, e2, -⟩ := hi
  omega
theorem own_nb {x : Int32} (h : x = (0 : Int32) ∨ x = (1 : Int32)) : nar .boolean x = x := by rcases h with rfl | rfl <;> rfl
theorem own_g2 {sl : List Int64} {al : List Int32} {old cnt : Int32} {q : List (Int64 × Int32)} {x3 : Int32} {m1 : List Int64} {m2 : List Int32} (h : own_AP 8 sl al old cnt q) (h8 : q.length = 8) (hi : own_GI q x3 m1 m2) (hc : x3 < cnt) :
    8 - (x3 + (1 : Int32)).toInt.toNat < 8 - x3.toInt.toNat ∧ own_GI q (x3 + (1 : Int32)) (m1.set x3.toNatClampNeg (sl.getD (plaF x3 old sl).toNatClampNeg (0 : Int64))) (m2.set x3.toNatClampNeg (nar .boolean (al.getD (plaF x3 old sl).toNatClampNeg (0 : Int32)))) := by
  have g := own_gx h h8 hi hc
  have ha := own_at h g.1 (by omega)
  have B : ∀ e ∈ q, e.2 = (0 : Int32) ∨ e.2 = (1 : Int32) := by obtain ⟨-, -, -, -, -, -, -, B, -⟩ := h; exact B
  obtain ⟨i0, i1, i2, i3, i4⟩ := hi
  have k1 : (1 : Int32).toInt = 1 := rfl
  have e : (x3 + (1 : Int32)).toInt = x3.toInt + 1 := by rw [own_add (by omega) (by omega), k1]
  rw [ha.1, ha.2, own_nb (B _ (List.getElem_mem _)), own_cl g.1]
  refine ⟨by omega, by omega, by omega, by rw [List.length_set]; exact i2, by rw [List.length_set]; exact i3, fun i hi hl => ?_⟩
  by_cases gg : i = x3.toInt.toNat
  · subst gg
    constructor
    · rw [List.getD_eq_getElem?_getD, List.getElem?_set_self (by omega)]; rfl
    · rw [List.getD_eq_getElem?_getD, List.getElem?_set_self (by omega)]; rfl
  · have hh := i4 i hi (by omega)
    constructor
    · rw [List.getD_eq_getElem?_getD, List.getElem?_set_ne (by omega), ← List.getD_eq_getElem?_getD]; exact hh.1
    · rw [List.getD_eq_getElem?_getD, List.getElem?_set_ne (by omega), ← List.getD_eq_getElem?_getD]; exact hh.2
theorem own_g5 {sl : List Int64} {al : List Int32} {old cnt : Int32} {q : List (Int64 × Int32)} {x3 : Int32} {m1 : List Int64} {m2 : List Int32} (h : own_AP 8 sl al old cnt q) (h8 : q.length = 8) (hi : own_GI q x3 m1 m2) (hc : ¬ x3 < cnt) : own_AP 16 m1 m2 (0 : Int32) cnt q := by
  obtain ⟨-, -, -, -, -, c, -, B, -⟩ := h
  obtain ⟨i0, i1, i2, i3, i4⟩ := hi
  rw [Int32.lt_iff_toInt_lt, c] at hc
  have k0 : (0 : Int32).toInt = 0 := rfl
  refine ⟨i2, i3, Or.inr rfl, by decide, by decide, c, by omega, B, fun i hi => ?_⟩
  have := i4 i hi (by omega)
  rw [k0]
  have e : ((0 : Int).toNat + i) % 16 = i := by simp; omega
  rw [e]; exact this
theorem pd_0 : parseMethodDescriptor "(I)I" = some ⟨[.int], some .int⟩ := by decide +kernel
theorem d5_0 : decode prog_10_method_5_code 0 = .ok (.aload_n 0, 1) := by decide +kernel
theorem d5_1 : decode prog_10_method_5_code 1 = .ok (.getfield 25, 3) := by decide +kernel
theorem d5_4 : decode prog_10_method_5_code 4 = .ok (.ifCond .le 44, 3) := by decide +kernel
theorem d5_7 : decode prog_10_method_5_code 7 = .ok (.lload_n 1, 1) := by decide +kernel
theorem d5_8 : decode prog_10_method_5_code 8 = .ok (.aload_n 0, 1) := by decide +kernel
theorem d5_9 : decode prog_10_method_5_code 9 = .ok (.getfield 9, 3) := by decide +kernel
theorem d5_12 : decode prog_10_method_5_code 12 = .ok (.aload_n 0, 1) := by decide +kernel
theorem d5_13 : decode prog_10_method_5_code 13 = .ok (.getfield 40, 3) := by decide +kernel
theorem d5_16 : decode prog_10_method_5_code 16 = .ok (.laload, 1) := by decide +kernel
theorem d5_17 : decode prog_10_method_5_code 17 = .ok (.lsub, 1) := by decide +kernel
theorem d5_18 : decode prog_10_method_5_code 18 = .ok (.aload_n 0, 1) := by decide +kernel
theorem d5_19 : decode prog_10_method_5_code 19 = .ok (.getfield 17, 3) := by decide +kernel
theorem d5_22 : decode prog_10_method_5_code 22 = .ok (.lcmp, 1) := by decide +kernel
theorem d5_23 : decode prog_10_method_5_code 23 = .ok (.ifCond .le 25, 3) := by decide +kernel
theorem d5_26 : decode prog_10_method_5_code 26 = .ok (.aload_n 0, 1) := by decide +kernel
theorem d5_27 : decode prog_10_method_5_code 27 = .ok (.aload_n 0, 1) := by decide +kernel
theorem d5_28 : decode prog_10_method_5_code 28 = .ok (.iconst 1, 1) := by decide +kernel
theorem d5_29 : decode prog_10_method_5_code 29 = .ok (.invokevirtual 32, 3) := by decide +kernel
theorem d5_32 : decode prog_10_method_5_code 32 = .ok (.putfield 40, 3) := by decide +kernel
theorem d5_35 : decode prog_10_method_5_code 35 = .ok (.aload_n 0, 1) := by decide +kernel
theorem d5_36 : decode prog_10_method_5_code 36 = .ok (.dup, 1) := by decide +kernel
theorem d5_37 : decode prog_10_method_5_code 37 = .ok (.getfield 25, 3) := by decide +kernel
theorem d5_40 : decode prog_10_method_5_code 40 = .ok (.iconst 1, 1) := by decide +kernel
theorem d5_41 : decode prog_10_method_5_code 41 = .ok (.isub, 1) := by decide +kernel
theorem d5_42 : decode prog_10_method_5_code 42 = .ok (.putfield 25, 3) := by decide +kernel
theorem d5_45 : decode prog_10_method_5_code 45 = .ok (.goto (-45), 3) := by decide +kernel
theorem d5_48 : decode prog_10_method_5_code 48 = .ok (.return_, 1) := by decide +kernel
theorem ef_fgtA (m : MethodId) (x0 : Addr) (x1 : Int64) : entryFrame m #[(.ref x0), (.long x1)] 3 = mkF m 0 #[.val (.ref x0), .val (.long x1), .second] [] := by first | (simp [entryFrame, mkF, argsToLocals, Value.category]; done) | rfl
def QfgtA (Z : State) (a : Addr) (now : Int64) (aS : Addr) (aA : Addr) (tmo : Int64) (old : Int32) (cnt : Int32) (sl : List Int64) (al : List Int32) (NN : Nat) (q : List (Int64 × Int32)) (h0 : Heap) (n0 : Nat) (v : Option Value) (h : Heap) (L : List Loc) : Prop := ∃ (o1 : Int32), ∃ (c1 : Int32), v = none ∧ Fr n0 L ∧ Keep h0 h [a] ∧ Fld Z h a "com/example/talthybius/talthybius/AwaitedPings" "timeoutNanos" "J" (.long tmo) ∧ Fld Z h a "com/example/talthybius/talthybius/AwaitedPings" "sentAt" "[J" (.ref aS) ∧ Fld Z h a "com/example/talthybius/talthybius/AwaitedPings" "answered" "[Z" (.ref aA) ∧ Fld Z h a "com/example/talthybius/talthybius/AwaitedPings" "oldest" "I" (.int o1) ∧ Fld Z h a "com/example/talthybius/talthybius/AwaitedPings" "count" "I" (.int c1) ∧ (own_AP NN sl al o1 c1 (own_dr now tmo q))
set_option maxRecDepth 65536 in
set_option maxHeartbeats 40000000 in
theorem rm_fgtA (l : Launch) (Z : State) (a0 : Array Value) (hw : ∀ d ∈ tables_1, d.before a0 Z = true) (ws : List Jvm.Cond) (a : Addr) (now : Int64) (aS : Addr) (aA : Addr) (tmo : Int64) (old : Int32) (cnt : Int32) (sl : List Int64) (al : List Int32) (NN : Nat) (q : List (Int64 × Int32)) (h0 : Heap) (n0 : Nat) (Z0 : n0 ≤ h0.size) (F0 : Exa Z h0 a "com/example/talthybius/talthybius/AwaitedPings") (F1 : Fld Z h0 a "com/example/talthybius/talthybius/AwaitedPings" "timeoutNanos" "J" (.long tmo)) (F2 : Fld Z h0 a "com/example/talthybius/talthybius/AwaitedPings" "sentAt" "[J" (.ref aS)) (F3 : Fld Z h0 a "com/example/talthybius/talthybius/AwaitedPings" "answered" "[Z" (.ref aA)) (F4 : Fld Z h0 a "com/example/talthybius/talthybius/AwaitedPings" "oldest" "I" (.int old)) (F5 : Fld Z h0 a "com/example/talthybius/talthybius/AwaitedPings" "count" "I" (.int cnt)) (F6 : VA Z h0 aS .long (sl.map Value.long)) (F7 : VA Z h0 aA .boolean (al.map Value.int)) (g_a : n0 ≤ a) (ne_a_aS : a ≠ aS) (ne_a_aA : a ≠ aA) (ne_aS_aA : aS ≠ aA) (hA : own_AP NN sl al old cnt q) :
    MetFree l (⟨"com/example/talthybius/talthybius/AwaitedPings", "forget", "(J)V"⟩ : MethodName) (head1 (Jvm.Cond.code (⟨"com/example/talthybius/talthybius/AwaitedPings", "forget", "(J)V"⟩ : MethodName) prog_10_method_5_code 3 none :: ws) ({ frames := 1, cells := 0, slots := 0, locals := 15 } : Room)) (fun A_ U => A_ = #[(.ref a), (.long now)] ∧ Z.Warmed39 U.vm ∧ U.heap = h0) (fun _ _ _ _ _ => True) (fun _ U o U' => ∃ v L, o = .returned v ∧ QfgtA Z a now aS aA tmo old cnt sl al NN q h0 n0 v U'.heap L ∧ FrameEnd U o U' L ({ frames := 1, cells := 0, slots := 0, locals := 15 } : Room).cells ({ frames := 1, cells := 0, slots := 0, locals := 15 } : Room).slots) := by
  refine MetFree.of_bodySF (plainFor_of_name pn_0) hisR ?_
  intro p e s m args below meth c s₁ Bd hml0 hP hK
  obtain ⟨rfl, hZ, hh⟩ := hP
  have hx := Bd.exec
  have hby := Bd.bytes
  have hml : c.maxLocals = 3 := hml0
  have hown : s.vm.findClass "com/example/talthybius/talthybius/AwaitedPings" = some m.cls := findClass_of_methodNamed Bd.named
  have hnm := (name_of_methodNamed Bd.named Bd.method).1
  have X0 : Stand p l e ({ frames := 1, cells := 0, slots := 0, locals := 15 } : Room) s m #[(.ref a), (.long now)] below meth c s₁ [] 0 0 := Stand.of_body Bd
  have e0 : s₁.heap = h0 := by rw [← hh, Bd.state]; rfl
  have N0 := Fr.nil n0
  suffices HGO : Go p e below s (QfgtA Z a now aS aA tmo old cnt sl al NN q h0 n0) ({ frames := 1, cells := 0, slots := 0, locals := 15 } : Room).cells ({ frames := 1, cells := 0, slots := 0, locals := 15 } : Room).slots s₁ (mkF m 0 #[.val (.ref a), .val (.long now), .second] []) from Go.cast (ef_fgtA m a now) HGO
  have S0 : ∀ (N_ : Nat) (T : State) (locs : List Loc) (cells slots : Nat) (X : Stand p l e ({ frames := 1, cells := 0, slots := 0, locals := 15 } : Room) s m #[(.ref a), (.long now)] below meth c T locs cells slots) (hcl : cells ≤ 0) (hsl : slots ≤ 0) (h : Heap) (eT : T.heap = h) (N : Fr n0 locs)   (o1 : Int32) (c1 : Int32) (q1 : List (Int64 × Int32)) (K : Keep h0 h [a]) (fc0 : Exa Z h a "com/example/talthybius/talthybius/AwaitedPings") (fc1 : Fld Z h a "com/example/talthybius/talthybius/AwaitedPings" "timeoutNanos" "J" (.long tmo)) (fc2 : Fld Z h a "com/example/talthybius/talthybius/AwaitedPings" "sentAt" "[J" (.ref aS)) (fc3 : Fld Z h a "com/example/talthybius/talthybius/AwaitedPings" "answered" "[Z" (.ref aA)) (fc4 : Fld Z h a "com/example/talthybius/talthybius/AwaitedPings" "oldest" "I" (.int o1)) (fc5 : Fld Z h a "com/example/talthybius/talthybius/AwaitedPings" "count" "I" (.int c1)) (fc6 : VA Z h aS .long (sl.map Value.long)) (fc7 : VA Z h aA .boolean (al.map Value.int)) (hB : own_AP NN sl al o1 c1 q1) (hq : own_dr now tmo q1 = own_dr now tmo q) (hN_ : q1.length = N_), Go p e below s (QfgtA Z a now aS aA tmo old cnt sl al NN q h0 n0) ({ frames := 1, cells := 0, slots := 0, locals := 15 } : Room).cells ({ frames := 1, cells := 0, slots := 0, locals := 15 } : Room).slots T (mkF m 0 #[.val (.ref a), .val (.long now), .second] []) := by
    intro N_; induction N_ using Nat.strongRecOn with | _ N_ IH => ?_
    intro T locs cells slots X hcl hsl h eT N o1 c1 q1 K fc0 fc1 fc2 fc3 fc4 fc5 fc6 fc7 hB hq hN_
    subst hN_
    have Zh : n0 ≤ h.size := Nat.le_trans Z0 K.1
    obtain ⟨T1, X1, e1, st1⟩ := getF X hx hZ hown (host := "") (Or.inl (hw _ (List.mem_of_getElem? (i := 34) rfl))) Via.refl eT fc5 (g := (mkF m 1 #[.val (.ref a), .val (.long now), .second] [(.ref a)])) rfl rfl (hb hby d5_1)
    refine Go.step (T' := T1) (f' := (mkF m 4 #[.val (.ref a), .val (.long now), .second] [(.int c1)])) (fun t kt => ?_) ?_
    · show Steps p.tables e below (T.setTop (mkF m 0 #[.val (.ref a), .val (.long now), .second] [])) _
      refine XS.aloadN X.here hx rfl (hb hby d5_0) rfl rfl ?_
      show Steps p.tables e below (T.setTop (mkF m 1 #[.val (.ref a), .val (.long now), .second] [(.ref a)])) _
      refine st1 _ ?_
      exact kt
    by_cases hc2 : (0 : Int32) < c1
    · have _ := hc2
      refine Go.step (T' := T1) (f' := (mkF m 7 #[.val (.ref a), .val (.long now), .second] [])) (fun t kt => ?_) ?_
      · show Steps p.tables e below (T1.setTop (mkF m 4 #[.val (.ref a), .val (.long now), .second] [(.int c1)])) _
        refine XS.ifNo X1.here hx rfl (hb hby d5_4) rfl ((if0 _ _).trans (tlt hc2).2.2.2) ?_
        exact kt
      obtain ⟨T3, X3, e3, st3⟩ := getF X1 hx hZ hown (host := "") (Or.inl (hw _ (List.mem_of_getElem? (i := 18) rfl))) Via.refl e1 fc2 (g := (mkF m 9 #[.val (.ref a), .val (.long now), .second] [(.ref a), (.long now)])) rfl rfl (hb hby d5_9)
      obtain ⟨T4, X4, e4, st4⟩ := getF X3 hx hZ hown (host := "") (Or.inl (hw _ (List.mem_of_getElem? (i := 40) rfl))) Via.refl e3 fc4 (g := (mkF m 13 #[.val (.ref a), .val (.long now), .second] [(.ref a), (.ref aS), (.long now)])) rfl rfl (hb hby d5_13)
      have ix5 : 0 ≤ (o1).toInt ∧ (o1).toInt < ((sl).length : Int) := own_f0 hB
      obtain ⟨T6, X6, e6, st6⟩ := getF X4 hx hZ hown (host := "") (Or.inl (hw _ (List.mem_of_getElem? (i := 23) rfl))) Via.refl e4 fc1 (g := (mkF m 19 #[.val (.ref a), .val (.long now), .second] [(.ref a), (.long (now - (sl.getD o1.toNatClampNeg (0 : Int64))))])) rfl rfl (hb hby d5_19)
      refine Go.step (T' := T6) (f' := (mkF m 23 #[.val (.ref a), .val (.long now), .second] [(.int (lcmpW (now - (sl.getD o1.toNatClampNeg (0 : Int64))) tmo))])) (fun t kt => ?_) ?_
      · show Steps p.tables e below (T1.setTop (mkF m 7 #[.val (.ref a), .val (.long now), .second] [])) _
        refine XS.lloadN X1.here hx rfl (hb hby d5_7) rfl ?_
        show Steps p.tables e below (T1.setTop (mkF m 8 #[.val (.ref a), .val (.long now), .second] [(.long now)])) _
        refine XS.aloadN X1.here hx rfl (hb hby d5_8) rfl rfl ?_
        show Steps p.tables e below (T1.setTop (mkF m 9 #[.val (.ref a), .val (.long now), .second] [(.ref a), (.long now)])) _
        refine st3 _ ?_
        show Steps p.tables e below (T3.setTop (mkF m 12 #[.val (.ref a), .val (.long now), .second] [(.ref aS), (.long now)])) _
        refine XS.aloadN X3.here hx rfl (hb hby d5_12) rfl rfl ?_
        show Steps p.tables e below (T3.setTop (mkF m 13 #[.val (.ref a), .val (.long now), .second] [(.ref a), (.ref aS), (.long now)])) _
        refine st4 _ ?_
        show Steps p.tables e below (T4.setTop (mkF m 16 #[.val (.ref a), .val (.long now), .second] [(.int o1), (.ref aS), (.long now)])) _
        refine ldJ X4 hx hZ e4 fc6 ix5.1 ix5.2 (g := (mkF m 16 #[.val (.ref a), .val (.long now), .second] [(.int o1), (.ref aS), (.long now)])) rfl rfl (hb hby d5_16) _ ?_
        show Steps p.tables e below (T4.setTop (mkF m 17 #[.val (.ref a), .val (.long now), .second] [(.long (sl.getD o1.toNatClampNeg (0 : Int64))), (.long now)])) _
        refine XS.lsub X4.here hx rfl (hb hby d5_17) rfl ?_
        show Steps p.tables e below (T4.setTop (mkF m 18 #[.val (.ref a), .val (.long now), .second] [(.long (now - (sl.getD o1.toNatClampNeg (0 : Int64))))])) _
        refine XS.aloadN X4.here hx rfl (hb hby d5_18) rfl rfl ?_
        show Steps p.tables e below (T4.setTop (mkF m 19 #[.val (.ref a), .val (.long now), .second] [(.ref a), (.long (now - (sl.getD o1.toNatClampNeg (0 : Int64))))])) _
        refine st6 _ ?_
        show Steps p.tables e below (T6.setTop (mkF m 22 #[.val (.ref a), .val (.long now), .second] [(.long tmo), (.long (now - (sl.getD o1.toNatClampNeg (0 : Int64))))])) _
        refine XS.lcmp X6.here hx rfl (hb hby d5_22) rfl ?_
        exact kt
      by_cases hc7 : tmo < (now - (sl.getD o1.toNatClampNeg (0 : Int64)))
      · have _ := hc7
        refine Go.step (T' := T6) (f' := (mkF m 26 #[.val (.ref a), .val (.long now), .second] [])) (fun t kt => ?_) ?_
        · show Steps p.tables e below (T6.setTop (mkF m 23 #[.val (.ref a), .val (.long now), .second] [(.int (lcmpW (now - (sl.getD o1.toNatClampNeg (0 : Int64))) tmo))])) _
          refine XS.ifNo X6.here hx rfl (hb hby d5_23) rfl ((if0 _ _).trans (tlt ((lw_gt _ _).mpr hc7)).2.2.2) ?_
          exact kt
        obtain ⟨cq8, q8, q8'⟩ := (fc0 : Exa Z h a "com/example/talthybius/talthybius/AwaitedPings").cell
        obtain ⟨_, _, ⟨T8, L8, k8, n8⟩, -, X8, ⟨Lc8, hQ8, l8, y8, z8⟩, st8⟩ := X6.privateBack hx (y := (⟨"com/example/talthybius/talthybius/AwaitedPings", "placeOf", "(I)I"⟩ : MethodName)) hown (mvT hZ (hw _ (List.mem_of_getElem? (i := 36) rfl))) (mvT hZ (hw _ (List.mem_of_getElem? (i := 37) rfl))) (own_psel (mvT hZ (hw _ (List.mem_of_getElem? (i := 10) rfl))) (Cond.privateMethod_at (mvP hZ (hw _ (List.mem_of_getElem? (i := 38) rfl)) (args := #[]))) (mvT hZ (hw _ (List.mem_of_getElem? (i := 37) rfl))) (by decide)) (Cond.privateMethod_at (mvP hZ (hw _ (List.mem_of_getElem? (i := 38) rfl)) (args := #[]))) (mvT hZ (hw _ (List.mem_of_getElem? (i := 39) rfl))) (by decide) (backOf (W := 1) (rm_plaF l Z a0 hw [] a (1 : Int32) aS o1 sl h n0 Zh fc2 fc4 fc6 ) hZ (hw _ (List.mem_of_getElem? (i := 39) rfl)) (hw _ (List.mem_of_getElem? (i := 11) rfl)) (by decide) (by decide)) (g := (mkF m 29 #[.val (.ref a), .val (.long now), .second] [(.int (1 : Int32)), (.ref a), (.ref a)])) rfl (by rw [hml]; rfl) (Steps.refl _) (a := a) (by rw [e6]; exact q8) q8' (argsL := [(.int (1 : Int32))]) (rest := [(.ref a)]) (lenOf pd_0 rfl) rfl (by show 2 * 0 + _ ≤ _; exact Nat.le_of_eq rfl) (hb hby d5_29) (fun _ _ => ⟨rfl, e6, (Nat.le_trans (Nat.add_le_add_right hcl 0) (by decide)), (Nat.le_trans (Nat.add_le_add_right hsl 0) (by decide))⟩)
        dsimp only [Pt.U, Pt.locs, Pt.cells, Pt.slots] at X8 l8 y8 z8 st8 hQ8
        subst l8 y8 z8
        obtain ⟨rfl, N8q, e8⟩ := hQ8
        have N8 := Fr.app N N8q
        obtain ⟨T9, h9, X9, e9, W9, st9⟩ := putF X8 hx hZ hown (host := "") (Or.inl (hw _ (List.mem_of_getElem? (i := 40) rfl))) Via.refl e8 fc4 fc0 (Or.inl (hw _ (List.mem_of_getElem? (i := 41) rfl))) (hw _ (List.mem_of_getElem? (i := 10) rfl)) (ty := .int) (by decide) rfl rfl (g := (mkF m 32 #[.val (.ref a), .val (.long now), .second] [(.int (plaF (1 : Int32) o1 sl)), (.ref a)])) rfl rfl (hb hby d5_32)
        have G10 : Exa Z h9 a "com/example/talthybius/talthybius/AwaitedPings" := fc0.wr W9
        have G11 : Fld Z h9 a "com/example/talthybius/talthybius/AwaitedPings" "timeoutNanos" "J" (.long tmo) := fc1.other W9 (Or.inr (slot_ne (Or.inr (hw _ (List.mem_of_getElem? (i := 24) rfl))) (Or.inl (hw _ (List.mem_of_getElem? (i := 41) rfl))) (by decide) (t := .long) (t' := .int) (by decide) (by decide)))
        have G12 : Fld Z h9 a "com/example/talthybius/talthybius/AwaitedPings" "sentAt" "[J" (.ref aS) := fc2.other W9 (Or.inr (slot_ne (Or.inl (hw _ (List.mem_of_getElem? (i := 19) rfl))) (Or.inl (hw _ (List.mem_of_getElem? (i := 41) rfl))) (by decide) (t := (.array .long)) (t' := .int) (by decide) (by decide)))
        have G13 : Fld Z h9 a "com/example/talthybius/talthybius/AwaitedPings" "answered" "[Z" (.ref aA) := fc3.other W9 (Or.inr (slot_ne (Or.inl (hw _ (List.mem_of_getElem? (i := 22) rfl))) (Or.inl (hw _ (List.mem_of_getElem? (i := 41) rfl))) (by decide) (t := (.array .boolean)) (t' := .int) (by decide) (by decide)))
        have G14 : Fld Z h9 a "com/example/talthybius/talthybius/AwaitedPings" "oldest" "I" (.int (plaF (1 : Int32) o1 sl)) := fc4.same W9
        have G15 : Fld Z h9 a "com/example/talthybius/talthybius/AwaitedPings" "count" "I" (.int c1) := fc5.other W9 (Or.inr (slot_ne (Or.inl (hw _ (List.mem_of_getElem? (i := 35) rfl))) (Or.inl (hw _ (List.mem_of_getElem? (i := 41) rfl))) (by decide) (t := .int) (t' := .int) (by decide) (by decide)))
        have G16 : VA Z h9 aS .long (sl.map Value.long) := fc6.other W9 (Ne.symm ne_a_aS)
        have G17 : VA Z h9 aA .boolean (al.map Value.int) := fc7.other W9 (Ne.symm ne_a_aA)
        have N9 := Fr.snoc X9 N8 g_a
        have K9 : Keep h0 h9 [a] := Keep.wr K W9 (Or.inl (List.mem_of_getElem? (i := 0) rfl))
        have Z9 : n0 ≤ h9.size := Nat.le_trans Z0 K9.1
        obtain ⟨T18, X18, e18, st18⟩ := getF X9 hx hZ hown (host := "") (Or.inl (hw _ (List.mem_of_getElem? (i := 34) rfl))) Via.refl e9 G15 (g := (mkF m 37 #[.val (.ref a), .val (.long now), .second] [(.ref a), (.ref a)])) rfl rfl (hb hby d5_37)
        obtain ⟨T19, h19, X19, e19, W19, st19⟩ := putF X18 hx hZ hown (host := "") (Or.inl (hw _ (List.mem_of_getElem? (i := 34) rfl))) Via.refl e18 G15 G10 (Or.inl (hw _ (List.mem_of_getElem? (i := 35) rfl))) (hw _ (List.mem_of_getElem? (i := 10) rfl)) (ty := .int) (by decide) rfl rfl (g := (mkF m 42 #[.val (.ref a), .val (.long now), .second] [(.int (c1 - (1 : Int32))), (.ref a)])) rfl rfl (hb hby d5_42)
        have G20 : Exa Z h19 a "com/example/talthybius/talthybius/AwaitedPings" := G10.wr W19
        have G21 : Fld Z h19 a "com/example/talthybius/talthybius/AwaitedPings" "timeoutNanos" "J" (.long tmo) := G11.other W19 (Or.inr (slot_ne (Or.inr (hw _ (List.mem_of_getElem? (i := 24) rfl))) (Or.inl (hw _ (List.mem_of_getElem? (i := 35) rfl))) (by decide) (t := .long) (t' := .int) (by decide) (by decide)))
        have G22 : Fld Z h19 a "com/example/talthybius/talthybius/AwaitedPings" "sentAt" "[J" (.ref aS) := G12.other W19 (Or.inr (slot_ne (Or.inl (hw _ (List.mem_of_getElem? (i := 19) rfl))) (Or.inl (hw _ (List.mem_of_getElem? (i := 35) rfl))) (by decide) (t := (.array .long)) (t' := .int) (by decide) (by decide)))
        have G23 : Fld Z h19 a "com/example/talthybius/talthybius/AwaitedPings" "answered" "[Z" (.ref aA) := G13.other W19 (Or.inr (slot_ne (Or.inl (hw _ (List.mem_of_getElem? (i := 22) rfl))) (Or.inl (hw _ (List.mem_of_getElem? (i := 35) rfl))) (by decide) (t := (.array .boolean)) (t' := .int) (by decide) (by decide)))
        have G24 : Fld Z h19 a "com/example/talthybius/talthybius/AwaitedPings" "oldest" "I" (.int (plaF (1 : Int32) o1 sl)) := G14.other W19 (Or.inr (slot_ne (Or.inl (hw _ (List.mem_of_getElem? (i := 41) rfl))) (Or.inl (hw _ (List.mem_of_getElem? (i := 35) rfl))) (by decide) (t := .int) (t' := .int) (by decide) (by decide)))
        have G25 : Fld Z h19 a "com/example/talthybius/talthybius/AwaitedPings" "count" "I" (.int (c1 - (1 : Int32))) := G15.same W19
        have G26 : VA Z h19 aS .long (sl.map Value.long) := G16.other W19 (Ne.symm ne_a_aS)
        have G27 : VA Z h19 aA .boolean (al.map Value.int) := G17.other W19 (Ne.symm ne_a_aA)
        have N19 := Fr.snoc X19 N9 g_a
        have K19 : Keep h0 h19 [a] := Keep.wr K9 W19 (Or.inl (List.mem_of_getElem? (i := 0) rfl))
        have Z19 : n0 ≤ h19.size := Nat.le_trans Z0 K19.1
        refine Go.step (T' := T19) (f' := (mkF m 0 #[.val (.ref a), .val (.long now), .second] [])) (fun t kt => ?_) ?_
        · show Steps p.tables e below (T6.setTop (mkF m 26 #[.val (.ref a), .val (.long now), .second] [])) _
          refine XS.aloadN X6.here hx rfl (hb hby d5_26) rfl rfl ?_
          show Steps p.tables e below (T6.setTop (mkF m 27 #[.val (.ref a), .val (.long now), .second] [(.ref a)])) _
          refine XS.aloadN X6.here hx rfl (hb hby d5_27) rfl rfl ?_
          show Steps p.tables e below (T6.setTop (mkF m 28 #[.val (.ref a), .val (.long now), .second] [(.ref a), (.ref a)])) _
          refine XS.iconst X6.here hx rfl (hb hby d5_28) ?_
          show Steps p.tables e below (T6.setTop (mkF m 29 #[.val (.ref a), .val (.long now), .second] [(.int (1 : Int32)), (.ref a), (.ref a)])) _
          refine st8.trans ?_
          show Steps p.tables e below (T8.setTop (mkF m 32 #[.val (.ref a), .val (.long now), .second] [(.int (plaF (1 : Int32) o1 sl)), (.ref a)])) _
          refine st9 _ ?_
          show Steps p.tables e below (T9.setTop (mkF m 35 #[.val (.ref a), .val (.long now), .second] [])) _
          refine XS.aloadN X9.here hx rfl (hb hby d5_35) rfl rfl ?_
          show Steps p.tables e below (T9.setTop (mkF m 36 #[.val (.ref a), .val (.long now), .second] [(.ref a)])) _
          refine XS.dup X9.here hx rfl (hb hby d5_36) rfl rfl ?_
          show Steps p.tables e below (T9.setTop (mkF m 37 #[.val (.ref a), .val (.long now), .second] [(.ref a), (.ref a)])) _
          refine st18 _ ?_
          show Steps p.tables e below (T18.setTop (mkF m 40 #[.val (.ref a), .val (.long now), .second] [(.int c1), (.ref a)])) _
          refine XS.iconst X18.here hx rfl (hb hby d5_40) ?_
          show Steps p.tables e below (T18.setTop (mkF m 41 #[.val (.ref a), .val (.long now), .second] [(.int (1 : Int32)), (.int c1), (.ref a)])) _
          refine XS.isub X18.here hx rfl (hb hby d5_41) rfl ?_
          show Steps p.tables e below (T18.setTop (mkF m 42 #[.val (.ref a), .val (.long now), .second] [(.int (c1 - (1 : Int32))), (.ref a)])) _
          refine st19 _ ?_
          show Steps p.tables e below (T19.setTop (mkF m 45 #[.val (.ref a), .val (.long now), .second] [])) _
          refine XS.goto X19.here hx rfl (pc0 := 45) (pc' := 0) rfl (hb hby d5_45) (by decide) (by decide) ?_
          exact kt
        exact IH _ ((own_f1 hB (by assumption) (by assumption)).1) _ _ _ _ X19 (Nat.le_trans (Nat.add_le_add_right hcl 0) (by decide)) (Nat.le_trans (Nat.add_le_add_right hsl 0) (by decide)) h19 e19 N19 (plaF (1 : Int32) o1 sl) (c1 - (1 : Int32)) q1.tail K19 G20 G21 G22 G23 G24 G25 G26 G27 (own_f1 hB (by assumption) (by assumption)).2.1 ((own_f1 hB (by assumption) (by assumption)).2.2.trans hq) rfl
      · have _ := hc7
        refine Go.step (T' := T6) (f' := (mkF m 48 #[.val (.ref a), .val (.long now), .second] [])) (fun t kt => ?_) ?_
        · show Steps p.tables e below (T6.setTop (mkF m 23 #[.val (.ref a), .val (.long now), .second] [(.int (lcmpW (now - (sl.getD o1.toNatClampNeg (0 : Int64))) tmo))])) _
          refine XS.ifYes X6.here hx rfl (pc0 := 23) (pc' := 48) rfl (hb hby d5_23) rfl ((if0 _ _).trans (flt (fun q => hc7 ((lw_gt _ _).mp q))).2.2.2) (by decide) (by decide) ?_
          exact kt
        refine Go.fin X6 (v := none) (fun _ => rfl) Bd.notSynchronized ?_ (Nat.le_trans hcl (by decide)) (Nat.le_trans hsl (by decide)) (fun fs hr => X6.returnOut hx Bd.returns (hb hby d5_48) hr)
        · show QfgtA Z a now aS aA tmo old cnt sl al NN q h0 n0 _ T6.heap _
          rw [e6]
          exact ⟨o1, c1, rfl, N, K, fc1, fc2, fc3, fc4, fc5, (hq ▸ own_f3 hB (by assumption) (by assumption))⟩
    · have _ := hc2
      refine Go.step (T' := T1) (f' := (mkF m 48 #[.val (.ref a), .val (.long now), .second] [])) (fun t kt => ?_) ?_
      · show Steps p.tables e below (T1.setTop (mkF m 4 #[.val (.ref a), .val (.long now), .second] [(.int c1)])) _
        refine XS.ifYes X1.here hx rfl (pc0 := 4) (pc' := 48) rfl (hb hby d5_4) rfl ((if0 _ _).trans (flt hc2).2.2.2) (by decide) (by decide) ?_
        exact kt
      refine Go.fin X1 (v := none) (fun _ => rfl) Bd.notSynchronized ?_ (Nat.le_trans hcl (by decide)) (Nat.le_trans hsl (by decide)) (fun fs hr => X1.returnOut hx Bd.returns (hb hby d5_48) hr)
      · show QfgtA Z a now aS aA tmo old cnt sl al NN q h0 n0 _ T1.heap _
        rw [e1]
        exact ⟨o1, c1, rfl, N, K, fc1, fc2, fc3, fc4, fc5, (hq ▸ own_f2 hB (by assumption))⟩
  exact S0 _ _ _ _ _ X0 (Nat.le_trans (Nat.le_refl 0) (by decide)) (Nat.le_trans (Nat.le_refl 0) (by decide)) h0 e0 N0 old cnt q (Keep.refl h0 [a]) F0 F1 F2 F3 F4 F5 F6 F7 hA rfl rfl
theorem d8_0 : decode prog_10_method_6_code 0 = .ok (.iconst 0, 1) := by decide +kernel
theorem d8_1 : decode prog_10_method_6_code 1 = .ok (.istore_n 3, 1) := by decide +kernel
theorem d8_2 : decode prog_10_method_6_code 2 = .ok (.aload_n 0, 1) := by decide +kernel
theorem d8_3 : decode prog_10_method_6_code 3 = .ok (.getfield 25, 3) := by decide +kernel
theorem d8_6 : decode prog_10_method_6_code 6 = .ok (.iconst 1, 1) := by decide +kernel
theorem d8_7 : decode prog_10_method_6_code 7 = .ok (.isub, 1) := by decide +kernel
theorem d8_8 : decode prog_10_method_6_code 8 = .ok (.istore 4, 2) := by decide +kernel
theorem d8_10 : decode prog_10_method_6_code 10 = .ok (.iconst (-1), 1) := by decide +kernel
theorem d8_11 : decode prog_10_method_6_code 11 = .ok (.istore 5, 2) := by decide +kernel
theorem d8_13 : decode prog_10_method_6_code 13 = .ok (.iload 5, 2) := by decide +kernel
theorem d8_15 : decode prog_10_method_6_code 15 = .ok (.ifCond .ge 68, 3) := by decide +kernel
theorem d8_18 : decode prog_10_method_6_code 18 = .ok (.iload_n 3, 1) := by decide +kernel
theorem d8_19 : decode prog_10_method_6_code 19 = .ok (.iload 4, 2) := by decide +kernel
theorem d8_21 : decode prog_10_method_6_code 21 = .ok (.if_icmp .gt 62, 3) := by decide +kernel
theorem d8_24 : decode prog_10_method_6_code 24 = .ok (.iload_n 3, 1) := by decide +kernel
theorem d8_25 : decode prog_10_method_6_code 25 = .ok (.iload 4, 2) := by decide +kernel
theorem d8_27 : decode prog_10_method_6_code 27 = .ok (.iadd, 1) := by decide +kernel
theorem d8_28 : decode prog_10_method_6_code 28 = .ok (.iconst 1, 1) := by decide +kernel
theorem d8_29 : decode prog_10_method_6_code 29 = .ok (.iushr, 1) := by decide +kernel
theorem d8_30 : decode prog_10_method_6_code 30 = .ok (.istore 6, 2) := by decide +kernel
theorem d8_32 : decode prog_10_method_6_code 32 = .ok (.aload_n 0, 1) := by decide +kernel
theorem d8_33 : decode prog_10_method_6_code 33 = .ok (.getfield 9, 3) := by decide +kernel
theorem d8_36 : decode prog_10_method_6_code 36 = .ok (.aload_n 0, 1) := by decide +kernel
theorem d8_37 : decode prog_10_method_6_code 37 = .ok (.iload 6, 2) := by decide +kernel
theorem d8_39 : decode prog_10_method_6_code 39 = .ok (.invokevirtual 32, 3) := by decide +kernel
theorem d8_42 : decode prog_10_method_6_code 42 = .ok (.laload, 1) := by decide +kernel
theorem d8_43 : decode prog_10_method_6_code 43 = .ok (.lstore 7, 2) := by decide +kernel
theorem d8_45 : decode prog_10_method_6_code 45 = .ok (.lload 7, 2) := by decide +kernel
theorem d8_47 : decode prog_10_method_6_code 47 = .ok (.lload_n 1, 1) := by decide +kernel
theorem d8_48 : decode prog_10_method_6_code 48 = .ok (.lcmp, 1) := by decide +kernel
theorem d8_49 : decode prog_10_method_6_code 49 = .ok (.ifCond .ge 11, 3) := by decide +kernel
theorem d8_52 : decode prog_10_method_6_code 52 = .ok (.iload 6, 2) := by decide +kernel
theorem d8_54 : decode prog_10_method_6_code 54 = .ok (.iconst 1, 1) := by decide +kernel
theorem d8_55 : decode prog_10_method_6_code 55 = .ok (.iadd, 1) := by decide +kernel
theorem d8_56 : decode prog_10_method_6_code 56 = .ok (.istore_n 3, 1) := by decide +kernel
theorem d8_57 : decode prog_10_method_6_code 57 = .ok (.goto 23, 3) := by decide +kernel
theorem d8_60 : decode prog_10_method_6_code 60 = .ok (.lload 7, 2) := by decide +kernel
theorem d8_62 : decode prog_10_method_6_code 62 = .ok (.lload_n 1, 1) := by decide +kernel
theorem d8_63 : decode prog_10_method_6_code 63 = .ok (.lcmp, 1) := by decide +kernel
theorem d8_64 : decode prog_10_method_6_code 64 = .ok (.ifCond .le 12, 3) := by decide +kernel
theorem d8_67 : decode prog_10_method_6_code 67 = .ok (.iload 6, 2) := by decide +kernel
theorem d8_69 : decode prog_10_method_6_code 69 = .ok (.iconst 1, 1) := by decide +kernel
theorem d8_70 : decode prog_10_method_6_code 70 = .ok (.isub, 1) := by decide +kernel
theorem d8_71 : decode prog_10_method_6_code 71 = .ok (.istore 4, 2) := by decide +kernel
theorem d8_73 : decode prog_10_method_6_code 73 = .ok (.goto 7, 3) := by decide +kernel
theorem d8_76 : decode prog_10_method_6_code 76 = .ok (.iload 6, 2) := by decide +kernel
theorem d8_78 : decode prog_10_method_6_code 78 = .ok (.istore 5, 2) := by decide +kernel
theorem d8_80 : decode prog_10_method_6_code 80 = .ok (.goto (-67), 3) := by decide +kernel
theorem d8_83 : decode prog_10_method_6_code 83 = .ok (.iload 5, 2) := by decide +kernel
theorem d8_85 : decode prog_10_method_6_code 85 = .ok (.ireturn, 1) := by decide +kernel
theorem ef_finA (m : MethodId) (x0 : Addr) (x1 : Int64) : entryFrame m #[(.ref x0), (.long x1)] 9 = mkF m 0 #[.val (.ref x0), .val (.long x1), .second, .unset, .unset, .unset, .unset, .unset, .unset] [] := by first | (simp [entryFrame, mkF, argsToLocals, Value.category]; done) | rfl
def QfinA (Z : State) (a : Addr) (tm : Int64) (aS : Addr) (aA : Addr) (tmo : Int64) (old : Int32) (cnt : Int32) (sl : List Int64) (al : List Int32) (NN : Nat) (q : List (Int64 × Int32)) (h0 : Heap) (n0 : Nat) (v : Option Value) (h : Heap) (L : List Loc) : Prop := ∃ (r : Int32), v = some (.int r) ∧ Fr n0 L ∧ h = h0 ∧ (own_FR q tm r)
set_option maxRecDepth 65536 in
set_option maxHeartbeats 40000000 in
theorem rm_finA (l : Launch) (Z : State) (a0 : Array Value) (hw : ∀ d ∈ tables_1, d.before a0 Z = true) (ws : List Jvm.Cond) (a : Addr) (tm : Int64) (aS : Addr) (aA : Addr) (tmo : Int64) (old : Int32) (cnt : Int32) (sl : List Int64) (al : List Int32) (NN : Nat) (q : List (Int64 × Int32)) (h0 : Heap) (n0 : Nat) (Z0 : n0 ≤ h0.size) (F0 : Exa Z h0 a "com/example/talthybius/talthybius/AwaitedPings") (F1 : Fld Z h0 a "com/example/talthybius/talthybius/AwaitedPings" "timeoutNanos" "J" (.long tmo)) (F2 : Fld Z h0 a "com/example/talthybius/talthybius/AwaitedPings" "sentAt" "[J" (.ref aS)) (F3 : Fld Z h0 a "com/example/talthybius/talthybius/AwaitedPings" "answered" "[Z" (.ref aA)) (F4 : Fld Z h0 a "com/example/talthybius/talthybius/AwaitedPings" "oldest" "I" (.int old)) (F5 : Fld Z h0 a "com/example/talthybius/talthybius/AwaitedPings" "count" "I" (.int cnt)) (F6 : VA Z h0 aS .long (sl.map Value.long)) (F7 : VA Z h0 aA .boolean (al.map Value.int)) (hA : own_AP NN sl al old cnt q) (hS : own_srt q) :
    MetFree l (⟨"com/example/talthybius/talthybius/AwaitedPings", "find", "(J)I"⟩ : MethodName) (head1 (Jvm.Cond.code (⟨"com/example/talthybius/talthybius/AwaitedPings", "find", "(J)I"⟩ : MethodName) prog_10_method_6_code 9 (some .int) :: ws) ({ frames := 1, cells := 0, slots := 0, locals := 15 } : Room)) (fun A_ U => A_ = #[(.ref a), (.long tm)] ∧ Z.Warmed39 U.vm ∧ U.heap = h0) (fun _ _ _ _ _ => True) (fun _ U o U' => ∃ v L, o = .returned v ∧ QfinA Z a tm aS aA tmo old cnt sl al NN q h0 n0 v U'.heap L ∧ FrameEnd U o U' L ({ frames := 1, cells := 0, slots := 0, locals := 15 } : Room).cells ({ frames := 1, cells := 0, slots := 0, locals := 15 } : Room).slots) := by
  refine MetFree.of_bodySF (plainFor_of_name pn_0) hisR ?_
  intro p e s m args below meth c s₁ Bd hml0 hP hK
  obtain ⟨rfl, hZ, hh⟩ := hP
  have hx := Bd.exec
  have hby := Bd.bytes
  have hml : c.maxLocals = 9 := hml0
  have hown : s.vm.findClass "com/example/talthybius/talthybius/AwaitedPings" = some m.cls := findClass_of_methodNamed Bd.named
  have hnm := (name_of_methodNamed Bd.named Bd.method).1
  have X0 : Stand p l e ({ frames := 1, cells := 0, slots := 0, locals := 15 } : Room) s m #[(.ref a), (.long tm)] below meth c s₁ [] 0 0 := Stand.of_body Bd
  have e0 : s₁.heap = h0 := by rw [← hh, Bd.state]; rfl
  have N0 := Fr.nil n0
  suffices HGO : Go p e below s (QfinA Z a tm aS aA tmo old cnt sl al NN q h0 n0) ({ frames := 1, cells := 0, slots := 0, locals := 15 } : Room).cells ({ frames := 1, cells := 0, slots := 0, locals := 15 } : Room).slots s₁ (mkF m 0 #[.val (.ref a), .val (.long tm), .second, .unset, .unset, .unset, .unset, .unset, .unset] []) from Go.cast (ef_finA m a tm) HGO
  have S13 : ∀ (N_ : Nat) (T : State) (locs : List Loc) (cells slots : Nat) (X : Stand p l e ({ frames := 1, cells := 0, slots := 0, locals := 15 } : Room) s m #[(.ref a), (.long tm)] below meth c T locs cells slots) (hcl : cells ≤ 0) (hsl : slots ≤ 0) (eT : T.heap = h0) (N : Fr n0 locs) (x3 : Int32) (x4 : Int32) (x5 : Int32) (s6 : Slot) (s7 : Slot) (s8 : Slot) (One_s6 : One s6) (Two_s7 : (s7 = .unset ∧ s8 = .unset) ∨ ∃ w : Int64, s7 = .val (.long w) ∧ s8 = .second) (hi : own_FD q tm x3 x4 x5) (hN_ : own_FM x3 x4 x5 = N_), Go p e below s (QfinA Z a tm aS aA tmo old cnt sl al NN q h0 n0) ({ frames := 1, cells := 0, slots := 0, locals := 15 } : Room).cells ({ frames := 1, cells := 0, slots := 0, locals := 15 } : Room).slots T (mkF m 13 #[.val (.ref a), .val (.long tm), .second, .val (.int x3), .val (.int x4), .val (.int x5), s6, s7, s8] []) := by
    intro N_; induction N_ using Nat.strongRecOn with | _ N_ IH => ?_
    intro T locs cells slots X hcl hsl eT N x3 x4 x5 s6 s7 s8 One_s6 Two_s7 hi hN_
    subst hN_
    refine Go.step (T' := T) (f' := (mkF m 15 #[.val (.ref a), .val (.long tm), .second, .val (.int x3), .val (.int x4), .val (.int x5), s6, s7, s8] [(.int x5)])) (fun t kt => ?_) ?_
    · show Steps p.tables e below (T.setTop (mkF m 13 #[.val (.ref a), .val (.long tm), .second, .val (.int x3), .val (.int x4), .val (.int x5), s6, s7, s8] [])) _
      refine XS.iload X.here hx rfl (hb hby d8_13) rfl ?_
      exact kt
    by_cases hc1 : x5 < (0 : Int32)
    · have _ := hc1
      refine Go.step (T' := T) (f' := (mkF m 18 #[.val (.ref a), .val (.long tm), .second, .val (.int x3), .val (.int x4), .val (.int x5), s6, s7, s8] [])) (fun t kt => ?_) ?_
      · show Steps p.tables e below (T.setTop (mkF m 15 #[.val (.ref a), .val (.long tm), .second, .val (.int x3), .val (.int x4), .val (.int x5), s6, s7, s8] [(.int x5)])) _
        refine XS.ifNo X.here hx rfl (hb hby d8_15) rfl ((if0 _ _).trans (tlt hc1).2.1) ?_
        exact kt
      refine Go.step (T' := T) (f' := (mkF m 21 #[.val (.ref a), .val (.long tm), .second, .val (.int x3), .val (.int x4), .val (.int x5), s6, s7, s8] [(.int x4), (.int x3)])) (fun t kt => ?_) ?_
      · show Steps p.tables e below (T.setTop (mkF m 18 #[.val (.ref a), .val (.long tm), .second, .val (.int x3), .val (.int x4), .val (.int x5), s6, s7, s8] [])) _
        refine XS.iloadN X.here hx rfl (hb hby d8_18) rfl ?_
        show Steps p.tables e below (T.setTop (mkF m 19 #[.val (.ref a), .val (.long tm), .second, .val (.int x3), .val (.int x4), .val (.int x5), s6, s7, s8] [(.int x3)])) _
        refine XS.iload X.here hx rfl (hb hby d8_19) rfl ?_
        exact kt
      by_cases hc2 : x4 < x3
      · have _ := hc2
        refine Go.step (T' := T) (f' := (mkF m 83 #[.val (.ref a), .val (.long tm), .second, .val (.int x3), .val (.int x4), .val (.int x5), s6, s7, s8] [])) (fun t kt => ?_) ?_
        · show Steps p.tables e below (T.setTop (mkF m 21 #[.val (.ref a), .val (.long tm), .second, .val (.int x3), .val (.int x4), .val (.int x5), s6, s7, s8] [(.int x4), (.int x3)])) _
          refine XS.icmpYes X.here hx rfl (pc0 := 21) (pc' := 83) rfl (hb hby d8_21) rfl (tlt hc2).2.2.1 (by decide) (by decide) ?_
          exact kt
        refine Go.step (T' := T) (f' := (mkF m 85 #[.val (.ref a), .val (.long tm), .second, .val (.int x3), .val (.int x4), .val (.int x5), s6, s7, s8] [(.int x5)])) (fun t kt => ?_) ?_
        · show Steps p.tables e below (T.setTop (mkF m 83 #[.val (.ref a), .val (.long tm), .second, .val (.int x3), .val (.int x4), .val (.int x5), s6, s7, s8] [])) _
          refine XS.iload X.here hx rfl (hb hby d8_83) rfl ?_
          exact kt
        refine Go.fin X (v := some (.int x5)) (fun h => by rw [Bd.returns] at h; cases h) Bd.notSynchronized ?_ (Nat.le_trans hcl (by decide)) (Nat.le_trans hsl (by decide)) (fun fs hr => retI X hx Bd.returns (hb hby d8_85) hr)
        · show QfinA Z a tm aS aA tmo old cnt sl al NN q h0 n0 _ T.heap _
          exact ⟨x5, rfl, N, eT, own_dR hA hi (by first | exact Or.inl (by assumption) | exact Or.inr (by assumption))⟩
      · have _ := hc2
        refine Go.step (T' := T) (f' := (mkF m 24 #[.val (.ref a), .val (.long tm), .second, .val (.int x3), .val (.int x4), .val (.int x5), s6, s7, s8] [])) (fun t kt => ?_) ?_
        · show Steps p.tables e below (T.setTop (mkF m 21 #[.val (.ref a), .val (.long tm), .second, .val (.int x3), .val (.int x4), .val (.int x5), s6, s7, s8] [(.int x4), (.int x3)])) _
          refine XS.icmpNo X.here hx rfl (hb hby d8_21) rfl (flt hc2).2.2.1 ?_
          exact kt
        obtain ⟨T3, X3, e3, st3⟩ := getF X hx hZ hown (host := "") (Or.inl (hw _ (List.mem_of_getElem? (i := 18) rfl))) Via.refl eT F2 (g := (mkF m 33 #[.val (.ref a), .val (.long tm), .second, .val (.int x3), .val (.int x4), .val (.int x5), .val (.int (((x3 + x4).toUInt32 >>> ((1 : Int32) &&& 31).toUInt32).toInt32)), s7, s8] [(.ref a)])) rfl rfl (hb hby d8_33)
        obtain ⟨cq4, q4, q4'⟩ := (F0 : Exa Z h0 a "com/example/talthybius/talthybius/AwaitedPings").cell
        obtain ⟨_, _, ⟨T4, L4, k4, n4⟩, -, X4, ⟨Lc4, hQ4, l4, y4, z4⟩, st4⟩ := X3.privateBack hx (y := (⟨"com/example/talthybius/talthybius/AwaitedPings", "placeOf", "(I)I"⟩ : MethodName)) hown (mvT hZ (hw _ (List.mem_of_getElem? (i := 36) rfl))) (mvT hZ (hw _ (List.mem_of_getElem? (i := 37) rfl))) (own_psel (mvT hZ (hw _ (List.mem_of_getElem? (i := 10) rfl))) (Cond.privateMethod_at (mvP hZ (hw _ (List.mem_of_getElem? (i := 38) rfl)) (args := #[]))) (mvT hZ (hw _ (List.mem_of_getElem? (i := 37) rfl))) (by decide)) (Cond.privateMethod_at (mvP hZ (hw _ (List.mem_of_getElem? (i := 38) rfl)) (args := #[]))) (mvT hZ (hw _ (List.mem_of_getElem? (i := 39) rfl))) (by decide) (backOf (W := 1) (rm_plaF l Z a0 hw [] a (((x3 + x4).toUInt32 >>> ((1 : Int32) &&& 31).toUInt32).toInt32) aS old sl h0 n0 Z0 F2 F4 F6 ) hZ (hw _ (List.mem_of_getElem? (i := 39) rfl)) (hw _ (List.mem_of_getElem? (i := 11) rfl)) (by decide) (by decide)) (g := (mkF m 39 #[.val (.ref a), .val (.long tm), .second, .val (.int x3), .val (.int x4), .val (.int x5), .val (.int (((x3 + x4).toUInt32 >>> ((1 : Int32) &&& 31).toUInt32).toInt32)), s7, s8] [(.int (((x3 + x4).toUInt32 >>> ((1 : Int32) &&& 31).toUInt32).toInt32)), (.ref a), (.ref aS)])) rfl (by rw [hml]; rfl) (Steps.refl _) (a := a) (by rw [e3]; exact q4) q4' (argsL := [(.int (((x3 + x4).toUInt32 >>> ((1 : Int32) &&& 31).toUInt32).toInt32))]) (rest := [(.ref aS)]) (lenOf pd_0 rfl) rfl (by show 2 * 0 + _ ≤ _; exact Nat.le_of_eq rfl) (hb hby d8_39) (fun _ _ => ⟨rfl, e3, (Nat.le_trans (Nat.add_le_add_right hcl 0) (by decide)), (Nat.le_trans (Nat.add_le_add_right hsl 0) (by decide))⟩)
        dsimp only [Pt.U, Pt.locs, Pt.cells, Pt.slots] at X4 l4 y4 z4 st4 hQ4
        subst l4 y4 z4
        obtain ⟨rfl, N4q, e4⟩ := hQ4
        have N4 := Fr.app N N4q
        have ix5 : 0 ≤ ((plaF (((x3 + x4).toUInt32 >>> ((1 : Int32) &&& 31).toUInt32).toInt32) old sl)).toInt ∧ ((plaF (((x3 + x4).toUInt32 >>> ((1 : Int32) &&& 31).toUInt32).toInt32) old sl)).toInt < ((sl).length : Int) := own_dI hA hi (by assumption) (by assumption)
        refine Go.step (T' := T4) (f' := (mkF m 49 #[.val (.ref a), .val (.long tm), .second, .val (.int x3), .val (.int x4), .val (.int x5), .val (.int (((x3 + x4).toUInt32 >>> ((1 : Int32) &&& 31).toUInt32).toInt32)), .val (.long (sl.getD (plaF (((x3 + x4).toUInt32 >>> ((1 : Int32) &&& 31).toUInt32).toInt32) old sl).toNatClampNeg (0 : Int64))), .second] [(.int (lcmpW (sl.getD (plaF (((x3 + x4).toUInt32 >>> ((1 : Int32) &&& 31).toUInt32).toInt32) old sl).toNatClampNeg (0 : Int64)) tm))])) (fun t kt => ?_) ?_
        · show Steps p.tables e below (T.setTop (mkF m 24 #[.val (.ref a), .val (.long tm), .second, .val (.int x3), .val (.int x4), .val (.int x5), s6, s7, s8] [])) _
          refine XS.iloadN X.here hx rfl (hb hby d8_24) rfl ?_
          show Steps p.tables e below (T.setTop (mkF m 25 #[.val (.ref a), .val (.long tm), .second, .val (.int x3), .val (.int x4), .val (.int x5), s6, s7, s8] [(.int x3)])) _
          refine XS.iload X.here hx rfl (hb hby d8_25) rfl ?_
          show Steps p.tables e below (T.setTop (mkF m 27 #[.val (.ref a), .val (.long tm), .second, .val (.int x3), .val (.int x4), .val (.int x5), s6, s7, s8] [(.int x4), (.int x3)])) _
          refine XS.iadd X.here hx rfl (hb hby d8_27) rfl ?_
          show Steps p.tables e below (T.setTop (mkF m 28 #[.val (.ref a), .val (.long tm), .second, .val (.int x3), .val (.int x4), .val (.int x5), s6, s7, s8] [(.int (x3 + x4))])) _
          refine XS.iconst X.here hx rfl (hb hby d8_28) ?_
          show Steps p.tables e below (T.setTop (mkF m 29 #[.val (.ref a), .val (.long tm), .second, .val (.int x3), .val (.int x4), .val (.int x5), s6, s7, s8] [(.int (1 : Int32)), (.int (x3 + x4))])) _
          refine XS.iushr X.here hx rfl (hb hby d8_29) rfl ?_
          show Steps p.tables e below (T.setTop (mkF m 30 #[.val (.ref a), .val (.long tm), .second, .val (.int x3), .val (.int x4), .val (.int x5), s6, s7, s8] [(.int (((x3 + x4).toUInt32 >>> ((1 : Int32) &&& 31).toUInt32).toInt32))])) _
          refine XS.istoreS X.here hx rfl (hb hby d8_30) rfl rfl One_s6 ?_
          show Steps p.tables e below (T.setTop (mkF m 32 #[.val (.ref a), .val (.long tm), .second, .val (.int x3), .val (.int x4), .val (.int x5), .val (.int (((x3 + x4).toUInt32 >>> ((1 : Int32) &&& 31).toUInt32).toInt32)), s7, s8] [])) _
          refine XS.aloadN X.here hx rfl (hb hby d8_32) rfl rfl ?_
          show Steps p.tables e below (T.setTop (mkF m 33 #[.val (.ref a), .val (.long tm), .second, .val (.int x3), .val (.int x4), .val (.int x5), .val (.int (((x3 + x4).toUInt32 >>> ((1 : Int32) &&& 31).toUInt32).toInt32)), s7, s8] [(.ref a)])) _
          refine st3 _ ?_
          show Steps p.tables e below (T3.setTop (mkF m 36 #[.val (.ref a), .val (.long tm), .second, .val (.int x3), .val (.int x4), .val (.int x5), .val (.int (((x3 + x4).toUInt32 >>> ((1 : Int32) &&& 31).toUInt32).toInt32)), s7, s8] [(.ref aS)])) _
          refine XS.aloadN X3.here hx rfl (hb hby d8_36) rfl rfl ?_
          show Steps p.tables e below (T3.setTop (mkF m 37 #[.val (.ref a), .val (.long tm), .second, .val (.int x3), .val (.int x4), .val (.int x5), .val (.int (((x3 + x4).toUInt32 >>> ((1 : Int32) &&& 31).toUInt32).toInt32)), s7, s8] [(.ref a), (.ref aS)])) _
          refine XS.iload X3.here hx rfl (hb hby d8_37) rfl ?_
          show Steps p.tables e below (T3.setTop (mkF m 39 #[.val (.ref a), .val (.long tm), .second, .val (.int x3), .val (.int x4), .val (.int x5), .val (.int (((x3 + x4).toUInt32 >>> ((1 : Int32) &&& 31).toUInt32).toInt32)), s7, s8] [(.int (((x3 + x4).toUInt32 >>> ((1 : Int32) &&& 31).toUInt32).toInt32)), (.ref a), (.ref aS)])) _
          refine st4.trans ?_
          show Steps p.tables e below (T4.setTop (mkF m 42 #[.val (.ref a), .val (.long tm), .second, .val (.int x3), .val (.int x4), .val (.int x5), .val (.int (((x3 + x4).toUInt32 >>> ((1 : Int32) &&& 31).toUInt32).toInt32)), s7, s8] [(.int (plaF (((x3 + x4).toUInt32 >>> ((1 : Int32) &&& 31).toUInt32).toInt32) old sl)), (.ref aS)])) _
          refine ldJ X4 hx hZ e4 F6 ix5.1 ix5.2 (g := (mkF m 42 #[.val (.ref a), .val (.long tm), .second, .val (.int x3), .val (.int x4), .val (.int x5), .val (.int (((x3 + x4).toUInt32 >>> ((1 : Int32) &&& 31).toUInt32).toInt32)), s7, s8] [(.int (plaF (((x3 + x4).toUInt32 >>> ((1 : Int32) &&& 31).toUInt32).toInt32) old sl)), (.ref aS)])) rfl rfl (hb hby d8_42) _ ?_
          show Steps p.tables e below (T4.setTop (mkF m 43 #[.val (.ref a), .val (.long tm), .second, .val (.int x3), .val (.int x4), .val (.int x5), .val (.int (((x3 + x4).toUInt32 >>> ((1 : Int32) &&& 31).toUInt32).toInt32)), s7, s8] [(.long (sl.getD (plaF (((x3 + x4).toUInt32 >>> ((1 : Int32) &&& 31).toUInt32).toInt32) old sl).toNatClampNeg (0 : Int64)))])) _
          refine XS.lstore X4.here hx rfl (hb hby d8_43) rfl (l' := #[.val (.ref a), .val (.long tm), .second, .val (.int x3), .val (.int x4), .val (.int x5), .val (.int (((x3 + x4).toUInt32 >>> ((1 : Int32) &&& 31).toUInt32).toInt32)), .val (.long (sl.getD (plaF (((x3 + x4).toUInt32 >>> ((1 : Int32) &&& 31).toUInt32).toInt32) old sl).toNatClampNeg (0 : Int64))), .second]) (by rcases Two_s7 with ⟨q1, q2⟩ | ⟨w, q1, q2⟩ <;> (rw [q1, q2]; rfl)) ?_
          show Steps p.tables e below (T4.setTop (mkF m 45 #[.val (.ref a), .val (.long tm), .second, .val (.int x3), .val (.int x4), .val (.int x5), .val (.int (((x3 + x4).toUInt32 >>> ((1 : Int32) &&& 31).toUInt32).toInt32)), .val (.long (sl.getD (plaF (((x3 + x4).toUInt32 >>> ((1 : Int32) &&& 31).toUInt32).toInt32) old sl).toNatClampNeg (0 : Int64))), .second] [])) _
          refine XS.lload X4.here hx rfl (hb hby d8_45) rfl ?_
          show Steps p.tables e below (T4.setTop (mkF m 47 #[.val (.ref a), .val (.long tm), .second, .val (.int x3), .val (.int x4), .val (.int x5), .val (.int (((x3 + x4).toUInt32 >>> ((1 : Int32) &&& 31).toUInt32).toInt32)), .val (.long (sl.getD (plaF (((x3 + x4).toUInt32 >>> ((1 : Int32) &&& 31).toUInt32).toInt32) old sl).toNatClampNeg (0 : Int64))), .second] [(.long (sl.getD (plaF (((x3 + x4).toUInt32 >>> ((1 : Int32) &&& 31).toUInt32).toInt32) old sl).toNatClampNeg (0 : Int64)))])) _
          refine XS.lloadN X4.here hx rfl (hb hby d8_47) rfl ?_
          show Steps p.tables e below (T4.setTop (mkF m 48 #[.val (.ref a), .val (.long tm), .second, .val (.int x3), .val (.int x4), .val (.int x5), .val (.int (((x3 + x4).toUInt32 >>> ((1 : Int32) &&& 31).toUInt32).toInt32)), .val (.long (sl.getD (plaF (((x3 + x4).toUInt32 >>> ((1 : Int32) &&& 31).toUInt32).toInt32) old sl).toNatClampNeg (0 : Int64))), .second] [(.long tm), (.long (sl.getD (plaF (((x3 + x4).toUInt32 >>> ((1 : Int32) &&& 31).toUInt32).toInt32) old sl).toNatClampNeg (0 : Int64)))])) _
          refine XS.lcmp X4.here hx rfl (hb hby d8_48) rfl ?_
          exact kt
        by_cases hc6 : (sl.getD (plaF (((x3 + x4).toUInt32 >>> ((1 : Int32) &&& 31).toUInt32).toInt32) old sl).toNatClampNeg (0 : Int64)) < tm
        · have _ := hc6
          refine Go.step (T' := T4) (f' := (mkF m 52 #[.val (.ref a), .val (.long tm), .second, .val (.int x3), .val (.int x4), .val (.int x5), .val (.int (((x3 + x4).toUInt32 >>> ((1 : Int32) &&& 31).toUInt32).toInt32)), .val (.long (sl.getD (plaF (((x3 + x4).toUInt32 >>> ((1 : Int32) &&& 31).toUInt32).toInt32) old sl).toNatClampNeg (0 : Int64))), .second] [])) (fun t kt => ?_) ?_
          · show Steps p.tables e below (T4.setTop (mkF m 49 #[.val (.ref a), .val (.long tm), .second, .val (.int x3), .val (.int x4), .val (.int x5), .val (.int (((x3 + x4).toUInt32 >>> ((1 : Int32) &&& 31).toUInt32).toInt32)), .val (.long (sl.getD (plaF (((x3 + x4).toUInt32 >>> ((1 : Int32) &&& 31).toUInt32).toInt32) old sl).toNatClampNeg (0 : Int64))), .second] [(.int (lcmpW (sl.getD (plaF (((x3 + x4).toUInt32 >>> ((1 : Int32) &&& 31).toUInt32).toInt32) old sl).toNatClampNeg (0 : Int64)) tm))])) _
            refine XS.ifNo X4.here hx rfl (hb hby d8_49) rfl ((if0 _ _).trans (tlt ((lw_lt _ _).mpr hc6)).2.1) ?_
            exact kt
          refine Go.step (T' := T4) (f' := (mkF m 13 #[.val (.ref a), .val (.long tm), .second, .val (.int ((((x3 + x4).toUInt32 >>> ((1 : Int32) &&& 31).toUInt32).toInt32) + (1 : Int32))), .val (.int x4), .val (.int x5), .val (.int (((x3 + x4).toUInt32 >>> ((1 : Int32) &&& 31).toUInt32).toInt32)), .val (.long (sl.getD (plaF (((x3 + x4).toUInt32 >>> ((1 : Int32) &&& 31).toUInt32).toInt32) old sl).toNatClampNeg (0 : Int64))), .second] [])) (fun t kt => ?_) ?_
          · show Steps p.tables e below (T4.setTop (mkF m 52 #[.val (.ref a), .val (.long tm), .second, .val (.int x3), .val (.int x4), .val (.int x5), .val (.int (((x3 + x4).toUInt32 >>> ((1 : Int32) &&& 31).toUInt32).toInt32)), .val (.long (sl.getD (plaF (((x3 + x4).toUInt32 >>> ((1 : Int32) &&& 31).toUInt32).toInt32) old sl).toNatClampNeg (0 : Int64))), .second] [])) _
            refine XS.iload X4.here hx rfl (hb hby d8_52) rfl ?_
            show Steps p.tables e below (T4.setTop (mkF m 54 #[.val (.ref a), .val (.long tm), .second, .val (.int x3), .val (.int x4), .val (.int x5), .val (.int (((x3 + x4).toUInt32 >>> ((1 : Int32) &&& 31).toUInt32).toInt32)), .val (.long (sl.getD (plaF (((x3 + x4).toUInt32 >>> ((1 : Int32) &&& 31).toUInt32).toInt32) old sl).toNatClampNeg (0 : Int64))), .second] [(.int (((x3 + x4).toUInt32 >>> ((1 : Int32) &&& 31).toUInt32).toInt32))])) _
            refine XS.iconst X4.here hx rfl (hb hby d8_54) ?_
            show Steps p.tables e below (T4.setTop (mkF m 55 #[.val (.ref a), .val (.long tm), .second, .val (.int x3), .val (.int x4), .val (.int x5), .val (.int (((x3 + x4).toUInt32 >>> ((1 : Int32) &&& 31).toUInt32).toInt32)), .val (.long (sl.getD (plaF (((x3 + x4).toUInt32 >>> ((1 : Int32) &&& 31).toUInt32).toInt32) old sl).toNatClampNeg (0 : Int64))), .second] [(.int (1 : Int32)), (.int (((x3 + x4).toUInt32 >>> ((1 : Int32) &&& 31).toUInt32).toInt32))])) _
            refine XS.iadd X4.here hx rfl (hb hby d8_55) rfl ?_
            show Steps p.tables e below (T4.setTop (mkF m 56 #[.val (.ref a), .val (.long tm), .second, .val (.int x3), .val (.int x4), .val (.int x5), .val (.int (((x3 + x4).toUInt32 >>> ((1 : Int32) &&& 31).toUInt32).toInt32)), .val (.long (sl.getD (plaF (((x3 + x4).toUInt32 >>> ((1 : Int32) &&& 31).toUInt32).toInt32) old sl).toNatClampNeg (0 : Int64))), .second] [(.int ((((x3 + x4).toUInt32 >>> ((1 : Int32) &&& 31).toUInt32).toInt32) + (1 : Int32)))])) _
            refine XS.istoreN X4.here hx rfl (hb hby d8_56) rfl (l' := #[.val (.ref a), .val (.long tm), .second, .val (.int ((((x3 + x4).toUInt32 >>> ((1 : Int32) &&& 31).toUInt32).toInt32) + (1 : Int32))), .val (.int x4), .val (.int x5), .val (.int (((x3 + x4).toUInt32 >>> ((1 : Int32) &&& 31).toUInt32).toInt32)), .val (.long (sl.getD (plaF (((x3 + x4).toUInt32 >>> ((1 : Int32) &&& 31).toUInt32).toInt32) old sl).toNatClampNeg (0 : Int64))), .second]) rfl ?_
            show Steps p.tables e below (T4.setTop (mkF m 57 #[.val (.ref a), .val (.long tm), .second, .val (.int ((((x3 + x4).toUInt32 >>> ((1 : Int32) &&& 31).toUInt32).toInt32) + (1 : Int32))), .val (.int x4), .val (.int x5), .val (.int (((x3 + x4).toUInt32 >>> ((1 : Int32) &&& 31).toUInt32).toInt32)), .val (.long (sl.getD (plaF (((x3 + x4).toUInt32 >>> ((1 : Int32) &&& 31).toUInt32).toInt32) old sl).toNatClampNeg (0 : Int64))), .second] [])) _
            refine XS.goto X4.here hx rfl (pc0 := 57) (pc' := 80) rfl (hb hby d8_57) (by decide) (by decide) ?_
            show Steps p.tables e below (T4.setTop (mkF m 80 #[.val (.ref a), .val (.long tm), .second, .val (.int ((((x3 + x4).toUInt32 >>> ((1 : Int32) &&& 31).toUInt32).toInt32) + (1 : Int32))), .val (.int x4), .val (.int x5), .val (.int (((x3 + x4).toUInt32 >>> ((1 : Int32) &&& 31).toUInt32).toInt32)), .val (.long (sl.getD (plaF (((x3 + x4).toUInt32 >>> ((1 : Int32) &&& 31).toUInt32).toInt32) old sl).toNatClampNeg (0 : Int64))), .second] [])) _
            refine XS.goto X4.here hx rfl (pc0 := 80) (pc' := 13) rfl (hb hby d8_80) (by decide) (by decide) ?_
            exact kt
          have hz := own_dL hA hS hi (by assumption) (by assumption) (by assumption)
          exact IH _ (hz.1) _ _ _ _ X4 (Nat.le_trans (Nat.add_le_add_right hcl 0) (by decide)) (Nat.le_trans (Nat.add_le_add_right hsl 0) (by decide)) e4 N4 ((((x3 + x4).toUInt32 >>> ((1 : Int32) &&& 31).toUInt32).toInt32) + (1 : Int32)) x4 x5 (.val (.int (((x3 + x4).toUInt32 >>> ((1 : Int32) &&& 31).toUInt32).toInt32))) (.val (.long (sl.getD (plaF (((x3 + x4).toUInt32 >>> ((1 : Int32) &&& 31).toUInt32).toInt32) old sl).toNatClampNeg (0 : Int64)))) (.second) (One.val rfl) (Or.inr ⟨_, rfl, rfl⟩) hz.2 rfl
        · have _ := hc6
          refine Go.step (T' := T4) (f' := (mkF m 60 #[.val (.ref a), .val (.long tm), .second, .val (.int x3), .val (.int x4), .val (.int x5), .val (.int (((x3 + x4).toUInt32 >>> ((1 : Int32) &&& 31).toUInt32).toInt32)), .val (.long (sl.getD (plaF (((x3 + x4).toUInt32 >>> ((1 : Int32) &&& 31).toUInt32).toInt32) old sl).toNatClampNeg (0 : Int64))), .second] [])) (fun t kt => ?_) ?_
          · show Steps p.tables e below (T4.setTop (mkF m 49 #[.val (.ref a), .val (.long tm), .second, .val (.int x3), .val (.int x4), .val (.int x5), .val (.int (((x3 + x4).toUInt32 >>> ((1 : Int32) &&& 31).toUInt32).toInt32)), .val (.long (sl.getD (plaF (((x3 + x4).toUInt32 >>> ((1 : Int32) &&& 31).toUInt32).toInt32) old sl).toNatClampNeg (0 : Int64))), .second] [(.int (lcmpW (sl.getD (plaF (((x3 + x4).toUInt32 >>> ((1 : Int32) &&& 31).toUInt32).toInt32) old sl).toNatClampNeg (0 : Int64)) tm))])) _
            refine XS.ifYes X4.here hx rfl (pc0 := 49) (pc' := 60) rfl (hb hby d8_49) rfl ((if0 _ _).trans (flt (fun q => hc6 ((lw_lt _ _).mp q))).2.1) (by decide) (by decide) ?_
            exact kt
          refine Go.step (T' := T4) (f' := (mkF m 64 #[.val (.ref a), .val (.long tm), .second, .val (.int x3), .val (.int x4), .val (.int x5), .val (.int (((x3 + x4).toUInt32 >>> ((1 : Int32) &&& 31).toUInt32).toInt32)), .val (.long (sl.getD (plaF (((x3 + x4).toUInt32 >>> ((1 : Int32) &&& 31).toUInt32).toInt32) old sl).toNatClampNeg (0 : Int64))), .second] [(.int (lcmpW (sl.getD (plaF (((x3 + x4).toUInt32 >>> ((1 : Int32) &&& 31).toUInt32).toInt32) old sl).toNatClampNeg (0 : Int64)) tm))])) (fun t kt => ?_) ?_
          · show Steps p.tables e below (T4.setTop (mkF m 60 #[.val (.ref a), .val (.long tm), .second, .val (.int x3), .val (.int x4), .val (.int x5), .val (.int (((x3 + x4).toUInt32 >>> ((1 : Int32) &&& 31).toUInt32).toInt32)), .val (.long (sl.getD (plaF (((x3 + x4).toUInt32 >>> ((1 : Int32) &&& 31).toUInt32).toInt32) old sl).toNatClampNeg (0 : Int64))), .second] [])) _
            refine XS.lload X4.here hx rfl (hb hby d8_60) rfl ?_
            show Steps p.tables e below (T4.setTop (mkF m 62 #[.val (.ref a), .val (.long tm), .second, .val (.int x3), .val (.int x4), .val (.int x5), .val (.int (((x3 + x4).toUInt32 >>> ((1 : Int32) &&& 31).toUInt32).toInt32)), .val (.long (sl.getD (plaF (((x3 + x4).toUInt32 >>> ((1 : Int32) &&& 31).toUInt32).toInt32) old sl).toNatClampNeg (0 : Int64))), .second] [(.long (sl.getD (plaF (((x3 + x4).toUInt32 >>> ((1 : Int32) &&& 31).toUInt32).toInt32) old sl).toNatClampNeg (0 : Int64)))])) _
            refine XS.lloadN X4.here hx rfl (hb hby d8_62) rfl ?_
            show Steps p.tables e below (T4.setTop (mkF m 63 #[.val (.ref a), .val (.long tm), .second, .val (.int x3), .val (.int x4), .val (.int x5), .val (.int (((x3 + x4).toUInt32 >>> ((1 : Int32) &&& 31).toUInt32).toInt32)), .val (.long (sl.getD (plaF (((x3 + x4).toUInt32 >>> ((1 : Int32) &&& 31).toUInt32).toInt32) old sl).toNatClampNeg (0 : Int64))), .second] [(.long tm), (.long (sl.getD (plaF (((x3 + x4).toUInt32 >>> ((1 : Int32) &&& 31).toUInt32).toInt32) old sl).toNatClampNeg (0 : Int64)))])) _
            refine XS.lcmp X4.here hx rfl (hb hby d8_63) rfl ?_
            exact kt
          by_cases hc7 : tm < (sl.getD (plaF (((x3 + x4).toUInt32 >>> ((1 : Int32) &&& 31).toUInt32).toInt32) old sl).toNatClampNeg (0 : Int64))
          · have _ := hc7
            refine Go.step (T' := T4) (f' := (mkF m 67 #[.val (.ref a), .val (.long tm), .second, .val (.int x3), .val (.int x4), .val (.int x5), .val (.int (((x3 + x4).toUInt32 >>> ((1 : Int32) &&& 31).toUInt32).toInt32)), .val (.long (sl.getD (plaF (((x3 + x4).toUInt32 >>> ((1 : Int32) &&& 31).toUInt32).toInt32) old sl).toNatClampNeg (0 : Int64))), .second] [])) (fun t kt => ?_) ?_
            · show Steps p.tables e below (T4.setTop (mkF m 64 #[.val (.ref a), .val (.long tm), .second, .val (.int x3), .val (.int x4), .val (.int x5), .val (.int (((x3 + x4).toUInt32 >>> ((1 : Int32) &&& 31).toUInt32).toInt32)), .val (.long (sl.getD (plaF (((x3 + x4).toUInt32 >>> ((1 : Int32) &&& 31).toUInt32).toInt32) old sl).toNatClampNeg (0 : Int64))), .second] [(.int (lcmpW (sl.getD (plaF (((x3 + x4).toUInt32 >>> ((1 : Int32) &&& 31).toUInt32).toInt32) old sl).toNatClampNeg (0 : Int64)) tm))])) _
              refine XS.ifNo X4.here hx rfl (hb hby d8_64) rfl ((if0 _ _).trans (tlt ((lw_gt _ _).mpr hc7)).2.2.2) ?_
              exact kt
            refine Go.step (T' := T4) (f' := (mkF m 13 #[.val (.ref a), .val (.long tm), .second, .val (.int x3), .val (.int ((((x3 + x4).toUInt32 >>> ((1 : Int32) &&& 31).toUInt32).toInt32) - (1 : Int32))), .val (.int x5), .val (.int (((x3 + x4).toUInt32 >>> ((1 : Int32) &&& 31).toUInt32).toInt32)), .val (.long (sl.getD (plaF (((x3 + x4).toUInt32 >>> ((1 : Int32) &&& 31).toUInt32).toInt32) old sl).toNatClampNeg (0 : Int64))), .second] [])) (fun t kt => ?_) ?_
            · show Steps p.tables e below (T4.setTop (mkF m 67 #[.val (.ref a), .val (.long tm), .second, .val (.int x3), .val (.int x4), .val (.int x5), .val (.int (((x3 + x4).toUInt32 >>> ((1 : Int32) &&& 31).toUInt32).toInt32)), .val (.long (sl.getD (plaF (((x3 + x4).toUInt32 >>> ((1 : Int32) &&& 31).toUInt32).toInt32) old sl).toNatClampNeg (0 : Int64))), .second] [])) _
              refine XS.iload X4.here hx rfl (hb hby d8_67) rfl ?_
              show Steps p.tables e below (T4.setTop (mkF m 69 #[.val (.ref a), .val (.long tm), .second, .val (.int x3), .val (.int x4), .val (.int x5), .val (.int (((x3 + x4).toUInt32 >>> ((1 : Int32) &&& 31).toUInt32).toInt32)), .val (.long (sl.getD (plaF (((x3 + x4).toUInt32 >>> ((1 : Int32) &&& 31).toUInt32).toInt32) old sl).toNatClampNeg (0 : Int64))), .second] [(.int (((x3 + x4).toUInt32 >>> ((1 : Int32) &&& 31).toUInt32).toInt32))])) _
              refine XS.iconst X4.here hx rfl (hb hby d8_69) ?_
              show Steps p.tables e below (T4.setTop (mkF m 70 #[.val (.ref a), .val (.long tm), .second, .val (.int x3), .val (.int x4), .val (.int x5), .val (.int (((x3 + x4).toUInt32 >>> ((1 : Int32) &&& 31).toUInt32).toInt32)), .val (.long (sl.getD (plaF (((x3 + x4).toUInt32 >>> ((1 : Int32) &&& 31).toUInt32).toInt32) old sl).toNatClampNeg (0 : Int64))), .second] [(.int (1 : Int32)), (.int (((x3 + x4).toUInt32 >>> ((1 : Int32) &&& 31).toUInt32).toInt32))])) _
              refine XS.isub X4.here hx rfl (hb hby d8_70) rfl ?_
              show Steps p.tables e below (T4.setTop (mkF m 71 #[.val (.ref a), .val (.long tm), .second, .val (.int x3), .val (.int x4), .val (.int x5), .val (.int (((x3 + x4).toUInt32 >>> ((1 : Int32) &&& 31).toUInt32).toInt32)), .val (.long (sl.getD (plaF (((x3 + x4).toUInt32 >>> ((1 : Int32) &&& 31).toUInt32).toInt32) old sl).toNatClampNeg (0 : Int64))), .second] [(.int ((((x3 + x4).toUInt32 >>> ((1 : Int32) &&& 31).toUInt32).toInt32) - (1 : Int32)))])) _
              refine XS.istore X4.here hx rfl (hb hby d8_71) rfl (l' := #[.val (.ref a), .val (.long tm), .second, .val (.int x3), .val (.int ((((x3 + x4).toUInt32 >>> ((1 : Int32) &&& 31).toUInt32).toInt32) - (1 : Int32))), .val (.int x5), .val (.int (((x3 + x4).toUInt32 >>> ((1 : Int32) &&& 31).toUInt32).toInt32)), .val (.long (sl.getD (plaF (((x3 + x4).toUInt32 >>> ((1 : Int32) &&& 31).toUInt32).toInt32) old sl).toNatClampNeg (0 : Int64))), .second]) rfl ?_
              show Steps p.tables e below (T4.setTop (mkF m 73 #[.val (.ref a), .val (.long tm), .second, .val (.int x3), .val (.int ((((x3 + x4).toUInt32 >>> ((1 : Int32) &&& 31).toUInt32).toInt32) - (1 : Int32))), .val (.int x5), .val (.int (((x3 + x4).toUInt32 >>> ((1 : Int32) &&& 31).toUInt32).toInt32)), .val (.long (sl.getD (plaF (((x3 + x4).toUInt32 >>> ((1 : Int32) &&& 31).toUInt32).toInt32) old sl).toNatClampNeg (0 : Int64))), .second] [])) _
              refine XS.goto X4.here hx rfl (pc0 := 73) (pc' := 80) rfl (hb hby d8_73) (by decide) (by decide) ?_
              show Steps p.tables e below (T4.setTop (mkF m 80 #[.val (.ref a), .val (.long tm), .second, .val (.int x3), .val (.int ((((x3 + x4).toUInt32 >>> ((1 : Int32) &&& 31).toUInt32).toInt32) - (1 : Int32))), .val (.int x5), .val (.int (((x3 + x4).toUInt32 >>> ((1 : Int32) &&& 31).toUInt32).toInt32)), .val (.long (sl.getD (plaF (((x3 + x4).toUInt32 >>> ((1 : Int32) &&& 31).toUInt32).toInt32) old sl).toNatClampNeg (0 : Int64))), .second] [])) _
              refine XS.goto X4.here hx rfl (pc0 := 80) (pc' := 13) rfl (hb hby d8_80) (by decide) (by decide) ?_
              exact kt
            have hz := own_dH hA hS hi (by assumption) (by assumption) (by assumption)
            exact IH _ (hz.1) _ _ _ _ X4 (Nat.le_trans (Nat.add_le_add_right hcl 0) (by decide)) (Nat.le_trans (Nat.add_le_add_right hsl 0) (by decide)) e4 N4 x3 ((((x3 + x4).toUInt32 >>> ((1 : Int32) &&& 31).toUInt32).toInt32) - (1 : Int32)) x5 (.val (.int (((x3 + x4).toUInt32 >>> ((1 : Int32) &&& 31).toUInt32).toInt32))) (.val (.long (sl.getD (plaF (((x3 + x4).toUInt32 >>> ((1 : Int32) &&& 31).toUInt32).toInt32) old sl).toNatClampNeg (0 : Int64)))) (.second) (One.val rfl) (Or.inr ⟨_, rfl, rfl⟩) hz.2 rfl
          · have _ := hc7
            refine Go.step (T' := T4) (f' := (mkF m 76 #[.val (.ref a), .val (.long tm), .second, .val (.int x3), .val (.int x4), .val (.int x5), .val (.int (((x3 + x4).toUInt32 >>> ((1 : Int32) &&& 31).toUInt32).toInt32)), .val (.long (sl.getD (plaF (((x3 + x4).toUInt32 >>> ((1 : Int32) &&& 31).toUInt32).toInt32) old sl).toNatClampNeg (0 : Int64))), .second] [])) (fun t kt => ?_) ?_
            · show Steps p.tables e below (T4.setTop (mkF m 64 #[.val (.ref a), .val (.long tm), .second, .val (.int x3), .val (.int x4), .val (.int x5), .val (.int (((x3 + x4).toUInt32 >>> ((1 : Int32) &&& 31).toUInt32).toInt32)), .val (.long (sl.getD (plaF (((x3 + x4).toUInt32 >>> ((1 : Int32) &&& 31).toUInt32).toInt32) old sl).toNatClampNeg (0 : Int64))), .second] [(.int (lcmpW (sl.getD (plaF (((x3 + x4).toUInt32 >>> ((1 : Int32) &&& 31).toUInt32).toInt32) old sl).toNatClampNeg (0 : Int64)) tm))])) _
              refine XS.ifYes X4.here hx rfl (pc0 := 64) (pc' := 76) rfl (hb hby d8_64) rfl ((if0 _ _).trans (flt (fun q => hc7 ((lw_gt _ _).mp q))).2.2.2) (by decide) (by decide) ?_
              exact kt
            refine Go.step (T' := T4) (f' := (mkF m 13 #[.val (.ref a), .val (.long tm), .second, .val (.int x3), .val (.int x4), .val (.int (((x3 + x4).toUInt32 >>> ((1 : Int32) &&& 31).toUInt32).toInt32)), .val (.int (((x3 + x4).toUInt32 >>> ((1 : Int32) &&& 31).toUInt32).toInt32)), .val (.long (sl.getD (plaF (((x3 + x4).toUInt32 >>> ((1 : Int32) &&& 31).toUInt32).toInt32) old sl).toNatClampNeg (0 : Int64))), .second] [])) (fun t kt => ?_) ?_
            · show Steps p.tables e below (T4.setTop (mkF m 76 #[.val (.ref a), .val (.long tm), .second, .val (.int x3), .val (.int x4), .val (.int x5), .val (.int (((x3 + x4).toUInt32 >>> ((1 : Int32) &&& 31).toUInt32).toInt32)), .val (.long (sl.getD (plaF (((x3 + x4).toUInt32 >>> ((1 : Int32) &&& 31).toUInt32).toInt32) old sl).toNatClampNeg (0 : Int64))), .second] [])) _
              refine XS.iload X4.here hx rfl (hb hby d8_76) rfl ?_
              show Steps p.tables e below (T4.setTop (mkF m 78 #[.val (.ref a), .val (.long tm), .second, .val (.int x3), .val (.int x4), .val (.int x5), .val (.int (((x3 + x4).toUInt32 >>> ((1 : Int32) &&& 31).toUInt32).toInt32)), .val (.long (sl.getD (plaF (((x3 + x4).toUInt32 >>> ((1 : Int32) &&& 31).toUInt32).toInt32) old sl).toNatClampNeg (0 : Int64))), .second] [(.int (((x3 + x4).toUInt32 >>> ((1 : Int32) &&& 31).toUInt32).toInt32))])) _
              refine XS.istore X4.here hx rfl (hb hby d8_78) rfl (l' := #[.val (.ref a), .val (.long tm), .second, .val (.int x3), .val (.int x4), .val (.int (((x3 + x4).toUInt32 >>> ((1 : Int32) &&& 31).toUInt32).toInt32)), .val (.int (((x3 + x4).toUInt32 >>> ((1 : Int32) &&& 31).toUInt32).toInt32)), .val (.long (sl.getD (plaF (((x3 + x4).toUInt32 >>> ((1 : Int32) &&& 31).toUInt32).toInt32) old sl).toNatClampNeg (0 : Int64))), .second]) rfl ?_
              show Steps p.tables e below (T4.setTop (mkF m 80 #[.val (.ref a), .val (.long tm), .second, .val (.int x3), .val (.int x4), .val (.int (((x3 + x4).toUInt32 >>> ((1 : Int32) &&& 31).toUInt32).toInt32)), .val (.int (((x3 + x4).toUInt32 >>> ((1 : Int32) &&& 31).toUInt32).toInt32)), .val (.long (sl.getD (plaF (((x3 + x4).toUInt32 >>> ((1 : Int32) &&& 31).toUInt32).toInt32) old sl).toNatClampNeg (0 : Int64))), .second] [])) _
              refine XS.goto X4.here hx rfl (pc0 := 80) (pc' := 13) rfl (hb hby d8_80) (by decide) (by decide) ?_
              exact kt
            have hz := own_dE hA hS hi (by assumption) (by assumption) (by assumption) (by assumption)
            exact IH _ (hz.1) _ _ _ _ X4 (Nat.le_trans (Nat.add_le_add_right hcl 0) (by decide)) (Nat.le_trans (Nat.add_le_add_right hsl 0) (by decide)) e4 N4 x3 x4 (((x3 + x4).toUInt32 >>> ((1 : Int32) &&& 31).toUInt32).toInt32) (.val (.int (((x3 + x4).toUInt32 >>> ((1 : Int32) &&& 31).toUInt32).toInt32))) (.val (.long (sl.getD (plaF (((x3 + x4).toUInt32 >>> ((1 : Int32) &&& 31).toUInt32).toInt32) old sl).toNatClampNeg (0 : Int64)))) (.second) (One.val rfl) (Or.inr ⟨_, rfl, rfl⟩) hz.2 rfl
    · have _ := hc1
      refine Go.step (T' := T) (f' := (mkF m 83 #[.val (.ref a), .val (.long tm), .second, .val (.int x3), .val (.int x4), .val (.int x5), s6, s7, s8] [])) (fun t kt => ?_) ?_
      · show Steps p.tables e below (T.setTop (mkF m 15 #[.val (.ref a), .val (.long tm), .second, .val (.int x3), .val (.int x4), .val (.int x5), s6, s7, s8] [(.int x5)])) _
        refine XS.ifYes X.here hx rfl (pc0 := 15) (pc' := 83) rfl (hb hby d8_15) rfl ((if0 _ _).trans (flt hc1).2.1) (by decide) (by decide) ?_
        exact kt
      refine Go.step (T' := T) (f' := (mkF m 85 #[.val (.ref a), .val (.long tm), .second, .val (.int x3), .val (.int x4), .val (.int x5), s6, s7, s8] [(.int x5)])) (fun t kt => ?_) ?_
      · show Steps p.tables e below (T.setTop (mkF m 83 #[.val (.ref a), .val (.long tm), .second, .val (.int x3), .val (.int x4), .val (.int x5), s6, s7, s8] [])) _
        refine XS.iload X.here hx rfl (hb hby d8_83) rfl ?_
        exact kt
      refine Go.fin X (v := some (.int x5)) (fun h => by rw [Bd.returns] at h; cases h) Bd.notSynchronized ?_ (Nat.le_trans hcl (by decide)) (Nat.le_trans hsl (by decide)) (fun fs hr => retI X hx Bd.returns (hb hby d8_85) hr)
      · show QfinA Z a tm aS aA tmo old cnt sl al NN q h0 n0 _ T.heap _
        exact ⟨x5, rfl, N, eT, own_dR hA hi (by first | exact Or.inl (by assumption) | exact Or.inr (by assumption))⟩
  obtain ⟨T8, X8, e8, st8⟩ := getF X0 hx hZ hown (host := "") (Or.inl (hw _ (List.mem_of_getElem? (i := 34) rfl))) Via.refl e0 F5 (g := (mkF m 3 #[.val (.ref a), .val (.long tm), .second, .val (.int (0 : Int32)), .unset, .unset, .unset, .unset, .unset] [(.ref a)])) rfl rfl (hb hby d8_3)
  refine Go.step (T' := T8) (f' := (mkF m 13 #[.val (.ref a), .val (.long tm), .second, .val (.int (0 : Int32)), .val (.int (cnt - (1 : Int32))), .val (.int (-1 : Int32)), .unset, .unset, .unset] [])) (fun t kt => ?_) ?_
  · show Steps p.tables e below (s₁.setTop (mkF m 0 #[.val (.ref a), .val (.long tm), .second, .unset, .unset, .unset, .unset, .unset, .unset] [])) _
    refine XS.iconst X0.here hx rfl (hb hby d8_0) ?_
    show Steps p.tables e below (s₁.setTop (mkF m 1 #[.val (.ref a), .val (.long tm), .second, .unset, .unset, .unset, .unset, .unset, .unset] [(.int (0 : Int32))])) _
    refine XS.istoreN X0.here hx rfl (hb hby d8_1) rfl (l' := #[.val (.ref a), .val (.long tm), .second, .val (.int (0 : Int32)), .unset, .unset, .unset, .unset, .unset]) rfl ?_
    show Steps p.tables e below (s₁.setTop (mkF m 2 #[.val (.ref a), .val (.long tm), .second, .val (.int (0 : Int32)), .unset, .unset, .unset, .unset, .unset] [])) _
    refine XS.aloadN X0.here hx rfl (hb hby d8_2) rfl rfl ?_
    show Steps p.tables e below (s₁.setTop (mkF m 3 #[.val (.ref a), .val (.long tm), .second, .val (.int (0 : Int32)), .unset, .unset, .unset, .unset, .unset] [(.ref a)])) _
    refine st8 _ ?_
    show Steps p.tables e below (T8.setTop (mkF m 6 #[.val (.ref a), .val (.long tm), .second, .val (.int (0 : Int32)), .unset, .unset, .unset, .unset, .unset] [(.int cnt)])) _
    refine XS.iconst X8.here hx rfl (hb hby d8_6) ?_
    show Steps p.tables e below (T8.setTop (mkF m 7 #[.val (.ref a), .val (.long tm), .second, .val (.int (0 : Int32)), .unset, .unset, .unset, .unset, .unset] [(.int (1 : Int32)), (.int cnt)])) _
    refine XS.isub X8.here hx rfl (hb hby d8_7) rfl ?_
    show Steps p.tables e below (T8.setTop (mkF m 8 #[.val (.ref a), .val (.long tm), .second, .val (.int (0 : Int32)), .unset, .unset, .unset, .unset, .unset] [(.int (cnt - (1 : Int32)))])) _
    refine XS.istore X8.here hx rfl (hb hby d8_8) rfl (l' := #[.val (.ref a), .val (.long tm), .second, .val (.int (0 : Int32)), .val (.int (cnt - (1 : Int32))), .unset, .unset, .unset, .unset]) rfl ?_
    show Steps p.tables e below (T8.setTop (mkF m 10 #[.val (.ref a), .val (.long tm), .second, .val (.int (0 : Int32)), .val (.int (cnt - (1 : Int32))), .unset, .unset, .unset, .unset] [])) _
    refine XS.iconst X8.here hx rfl (hb hby d8_10) ?_
    show Steps p.tables e below (T8.setTop (mkF m 11 #[.val (.ref a), .val (.long tm), .second, .val (.int (0 : Int32)), .val (.int (cnt - (1 : Int32))), .unset, .unset, .unset, .unset] [(.int (-1 : Int32))])) _
    refine XS.istore X8.here hx rfl (hb hby d8_11) rfl (l' := #[.val (.ref a), .val (.long tm), .second, .val (.int (0 : Int32)), .val (.int (cnt - (1 : Int32))), .val (.int (-1 : Int32)), .unset, .unset, .unset]) rfl ?_
    exact kt
  exact S13 _ _ _ _ _ X8 (Nat.le_trans (Nat.le_refl 0) (by decide)) (Nat.le_trans (Nat.le_refl 0) (by decide)) e8 N0 (0 : Int32) (cnt - (1 : Int32)) (-1 : Int32) (.unset) (.unset) (.unset) (One.u) (Or.inl ⟨rfl, rfl⟩) (own_d0 hA) rfl
theorem pd_1 : parseMethodDescriptor "(J)V" = some ⟨[.long], none⟩ := by decide +kernel
theorem pd_2 : parseMethodDescriptor "(J)I" = some ⟨[.long], some .int⟩ := by decide +kernel
theorem d7_0 : decode prog_10_method_3_code 0 = .ok (.aload_n 0, 1) := by decide +kernel
theorem d7_1 : decode prog_10_method_3_code 1 = .ok (.lload_n 3, 1) := by decide +kernel
theorem d7_2 : decode prog_10_method_3_code 2 = .ok (.invokevirtual 21, 3) := by decide +kernel
theorem d7_5 : decode prog_10_method_3_code 5 = .ok (.aload_n 0, 1) := by decide +kernel
theorem d7_6 : decode prog_10_method_3_code 6 = .ok (.lload_n 1, 1) := by decide +kernel
theorem d7_7 : decode prog_10_method_3_code 7 = .ok (.invokevirtual 36, 3) := by decide +kernel
theorem d7_10 : decode prog_10_method_3_code 10 = .ok (.istore 5, 2) := by decide +kernel
theorem d7_12 : decode prog_10_method_3_code 12 = .ok (.iload 5, 2) := by decide +kernel
theorem d7_14 : decode prog_10_method_3_code 14 = .ok (.ifCond .lt 21, 3) := by decide +kernel
theorem d7_17 : decode prog_10_method_3_code 17 = .ok (.aload_n 0, 1) := by decide +kernel
theorem d7_18 : decode prog_10_method_3_code 18 = .ok (.getfield 13, 3) := by decide +kernel
theorem d7_21 : decode prog_10_method_3_code 21 = .ok (.aload_n 0, 1) := by decide +kernel
theorem d7_22 : decode prog_10_method_3_code 22 = .ok (.iload 5, 2) := by decide +kernel
theorem d7_24 : decode prog_10_method_3_code 24 = .ok (.invokevirtual 32, 3) := by decide +kernel
theorem d7_27 : decode prog_10_method_3_code 27 = .ok (.baload, 1) := by decide +kernel
theorem d7_28 : decode prog_10_method_3_code 28 = .ok (.ifCond .ne 7, 3) := by decide +kernel
theorem d7_31 : decode prog_10_method_3_code 31 = .ok (.iconst 1, 1) := by decide +kernel
theorem d7_32 : decode prog_10_method_3_code 32 = .ok (.goto 4, 3) := by decide +kernel
theorem d7_35 : decode prog_10_method_3_code 35 = .ok (.iconst 0, 1) := by decide +kernel
theorem d7_36 : decode prog_10_method_3_code 36 = .ok (.istore 6, 2) := by decide +kernel
theorem d7_38 : decode prog_10_method_3_code 38 = .ok (.iload 6, 2) := by decide +kernel
theorem d7_40 : decode prog_10_method_3_code 40 = .ok (.ifCond .eq 15, 3) := by decide +kernel
theorem d7_43 : decode prog_10_method_3_code 43 = .ok (.aload_n 0, 1) := by decide +kernel
theorem d7_44 : decode prog_10_method_3_code 44 = .ok (.getfield 13, 3) := by decide +kernel
theorem d7_47 : decode prog_10_method_3_code 47 = .ok (.aload_n 0, 1) := by decide +kernel
theorem d7_48 : decode prog_10_method_3_code 48 = .ok (.iload 5, 2) := by decide +kernel
theorem d7_50 : decode prog_10_method_3_code 50 = .ok (.invokevirtual 32, 3) := by decide +kernel
theorem d7_53 : decode prog_10_method_3_code 53 = .ok (.iconst 1, 1) := by decide +kernel
theorem d7_54 : decode prog_10_method_3_code 54 = .ok (.bastore, 1) := by decide +kernel
theorem d7_55 : decode prog_10_method_3_code 55 = .ok (.iload 6, 2) := by decide +kernel
theorem d7_57 : decode prog_10_method_3_code 57 = .ok (.ireturn, 1) := by decide +kernel
theorem ef_ansA (m : MethodId) (x0 : Addr) (x1 : Int64) (x2 : Int64) : entryFrame m #[(.ref x0), (.long x1), (.long x2)] 7 = mkF m 0 #[.val (.ref x0), .val (.long x1), .second, .val (.long x2), .second, .unset, .unset] [] := by first | (simp [entryFrame, mkF, argsToLocals, Value.category]; done) | rfl
def QansA (Z : State) (a : Addr) (ec : Int64) (now : Int64) (aS : Addr) (aA : Addr) (tmo : Int64) (old : Int32) (cnt : Int32) (sl : List Int64) (al : List Int32) (NN : Nat) (q : List (Int64 × Int32)) (h0 : Heap) (n0 : Nat) (v : Option Value) (h : Heap) (L : List Loc) : Prop := ∃ (o1 : Int32), ∃ (c1 : Int32), ∃ (al1 : List Int32), ∃ (b : Int32), v = some (.int b) ∧ Fr n0 L ∧ Keep h0 h [a, aA] ∧ Fld Z h a "com/example/talthybius/talthybius/AwaitedPings" "timeoutNanos" "J" (.long tmo) ∧ Fld Z h a "com/example/talthybius/talthybius/AwaitedPings" "sentAt" "[J" (.ref aS) ∧ Fld Z h a "com/example/talthybius/talthybius/AwaitedPings" "answered" "[Z" (.ref aA) ∧ Fld Z h a "com/example/talthybius/talthybius/AwaitedPings" "oldest" "I" (.int o1) ∧ Fld Z h a "com/example/talthybius/talthybius/AwaitedPings" "count" "I" (.int c1) ∧ VA Z h aA .boolean (al1.map Value.int) ∧ (own_AP NN sl al1 o1 c1 (own_mk ec (own_dr now tmo q)) ∧ b = own_an ec (own_dr now tmo q))
set_option maxRecDepth 65536 in
set_option maxHeartbeats 40000000 in
theorem rm_ansA (l : Launch) (Z : State) (a0 : Array Value) (hw : ∀ d ∈ tables_1, d.before a0 Z = true) (ws : List Jvm.Cond) (a : Addr) (ec : Int64) (now : Int64) (aS : Addr) (aA : Addr) (tmo : Int64) (old : Int32) (cnt : Int32) (sl : List Int64) (al : List Int32) (NN : Nat) (q : List (Int64 × Int32)) (h0 : Heap) (n0 : Nat) (Z0 : n0 ≤ h0.size) (F0 : Exa Z h0 a "com/example/talthybius/talthybius/AwaitedPings") (F1 : Fld Z h0 a "com/example/talthybius/talthybius/AwaitedPings" "timeoutNanos" "J" (.long tmo)) (F2 : Fld Z h0 a "com/example/talthybius/talthybius/AwaitedPings" "sentAt" "[J" (.ref aS)) (F3 : Fld Z h0 a "com/example/talthybius/talthybius/AwaitedPings" "answered" "[Z" (.ref aA)) (F4 : Fld Z h0 a "com/example/talthybius/talthybius/AwaitedPings" "oldest" "I" (.int old)) (F5 : Fld Z h0 a "com/example/talthybius/talthybius/AwaitedPings" "count" "I" (.int cnt)) (F6 : VA Z h0 aS .long (sl.map Value.long)) (F7 : VA Z h0 aA .boolean (al.map Value.int)) (g_a : n0 ≤ a) (g_aA : n0 ≤ aA) (ne_a_aS : a ≠ aS) (ne_a_aA : a ≠ aA) (ne_aS_aA : aS ≠ aA) (hA : own_AP NN sl al old cnt q) (hS : own_srt q) :
    MetFree l (⟨"com/example/talthybius/talthybius/AwaitedPings", "answer", "(JJ)Z"⟩ : MethodName) (head1 (Jvm.Cond.code (⟨"com/example/talthybius/talthybius/AwaitedPings", "answer", "(JJ)Z"⟩ : MethodName) prog_10_method_3_code 7 (some .boolean) :: ws) ({ frames := 2, cells := 0, slots := 0, locals := 35 } : Room)) (fun A_ U => A_ = #[(.ref a), (.long ec), (.long now)] ∧ Z.Warmed39 U.vm ∧ U.heap = h0) (fun _ _ _ _ _ => True) (fun _ U o U' => ∃ v L, o = .returned v ∧ QansA Z a ec now aS aA tmo old cnt sl al NN q h0 n0 v U'.heap L ∧ FrameEnd U o U' L ({ frames := 2, cells := 0, slots := 0, locals := 35 } : Room).cells ({ frames := 2, cells := 0, slots := 0, locals := 35 } : Room).slots) := by
  refine MetFree.of_bodySF (plainFor_of_name pn_0) hisR ?_
  intro p e s m args below meth c s₁ Bd hml0 hP hK
  obtain ⟨rfl, hZ, hh⟩ := hP
  have hx := Bd.exec
  have hby := Bd.bytes
  have hml : c.maxLocals = 7 := hml0
  have hown : s.vm.findClass "com/example/talthybius/talthybius/AwaitedPings" = some m.cls := findClass_of_methodNamed Bd.named
  have hnm := (name_of_methodNamed Bd.named Bd.method).1
  have X0 : Stand p l e ({ frames := 2, cells := 0, slots := 0, locals := 35 } : Room) s m #[(.ref a), (.long ec), (.long now)] below meth c s₁ [] 0 0 := Stand.of_body Bd
  have e0 : s₁.heap = h0 := by rw [← hh, Bd.state]; rfl
  have N0 := Fr.nil n0
  suffices HGO : Go p e below s (QansA Z a ec now aS aA tmo old cnt sl al NN q h0 n0) ({ frames := 2, cells := 0, slots := 0, locals := 35 } : Room).cells ({ frames := 2, cells := 0, slots := 0, locals := 35 } : Room).slots s₁ (mkF m 0 #[.val (.ref a), .val (.long ec), .second, .val (.long now), .second, .unset, .unset] []) from Go.cast (ef_ansA m a ec now) HGO
  obtain ⟨cq1, q1, q1'⟩ := (F0 : Exa Z h0 a "com/example/talthybius/talthybius/AwaitedPings").cell
  obtain ⟨_, _, ⟨T1, L1, k1, n1⟩, -, X1, ⟨Lc1, hQ1, l1, y1, z1⟩, st1⟩ := X0.privateBack hx (y := (⟨"com/example/talthybius/talthybius/AwaitedPings", "forget", "(J)V"⟩ : MethodName)) hown (mvT hZ (hw _ (List.mem_of_getElem? (i := 30) rfl))) (mvT hZ (hw _ (List.mem_of_getElem? (i := 31) rfl))) (own_psel (mvT hZ (hw _ (List.mem_of_getElem? (i := 10) rfl))) (Cond.privateMethod_at (mvP hZ (hw _ (List.mem_of_getElem? (i := 32) rfl)) (args := #[]))) (mvT hZ (hw _ (List.mem_of_getElem? (i := 31) rfl))) (by decide)) (Cond.privateMethod_at (mvP hZ (hw _ (List.mem_of_getElem? (i := 32) rfl)) (args := #[]))) (mvT hZ (hw _ (List.mem_of_getElem? (i := 33) rfl))) (by decide) (backOf (W := 0) (rm_fgtA l Z a0 hw [] a now aS aA tmo old cnt sl al NN q h0 n0 Z0 F0 F1 F2 F3 F4 F5 F6 F7 g_a ne_a_aS ne_a_aA ne_aS_aA hA) hZ (hw _ (List.mem_of_getElem? (i := 33) rfl)) (hw _ (List.mem_of_getElem? (i := 11) rfl)) (by decide) (by decide)) (g := (mkF m 2 #[.val (.ref a), .val (.long ec), .second, .val (.long now), .second, .unset, .unset] [(.long now), (.ref a)])) rfl (by rw [hml]; rfl) (Steps.refl _) (a := a) (by rw [e0]; exact q1) q1' (argsL := [(.long now)]) (rest := []) (lenOf pd_1 rfl) rfl (by show 2 * 0 + _ ≤ _; exact Nat.le_of_eq rfl) (hb hby d7_2) (fun _ _ => ⟨rfl, e0, (Nat.le_trans (Nat.add_le_add_right (Nat.le_refl 0) 0) (by decide)), (Nat.le_trans (Nat.add_le_add_right (Nat.le_refl 0) 0) (by decide))⟩)
  dsimp only [Pt.U, Pt.locs, Pt.cells, Pt.slots] at X1 l1 y1 z1 st1 hQ1
  subst l1 y1 z1
  obtain ⟨o1_1, c1_1, rfl, N1q, Kq1, pf1_0, pf1_1, pf1_2, pf1_3, pf1_4, ph1_0⟩ := hQ1
  have G2 : Exa Z T1.heap a "com/example/talthybius/talthybius/AwaitedPings" := Exa.keep F0 Kq1
  have G3 : VA Z T1.heap aS .long (sl.map Value.long) := F6.keep Kq1 (ninS (Ne.symm ne_a_aS) nin0)
  have G4 : VA Z T1.heap aA .boolean (al.map Value.int) := F7.keep Kq1 (ninS (Ne.symm ne_a_aA) nin0)
  have K1 : Keep h0 T1.heap [a, aA] := Keep.trans (Keep.refl h0 [a, aA]) Kq1 (allS (Or.inl (List.mem_of_getElem? (i := 0) rfl)) all0)
  have Z1 : n0 ≤ T1.heap.size := Nat.le_trans Z0 K1.1
  have N1 := Fr.app N0 N1q
  have hF := ph1_0
  obtain ⟨cq5, q5, q5'⟩ := (G2 : Exa Z T1.heap a "com/example/talthybius/talthybius/AwaitedPings").cell
  obtain ⟨_, _, ⟨T5, L5, k5, n5⟩, -, X5, ⟨Lc5, hQ5, l5, y5, z5⟩, st5⟩ := X1.privateBack hx (y := (⟨"com/example/talthybius/talthybius/AwaitedPings", "find", "(J)I"⟩ : MethodName)) hown (mvT hZ (hw _ (List.mem_of_getElem? (i := 47) rfl))) (mvT hZ (hw _ (List.mem_of_getElem? (i := 48) rfl))) (own_psel (mvT hZ (hw _ (List.mem_of_getElem? (i := 10) rfl))) (Cond.privateMethod_at (mvP hZ (hw _ (List.mem_of_getElem? (i := 49) rfl)) (args := #[]))) (mvT hZ (hw _ (List.mem_of_getElem? (i := 48) rfl))) (by decide)) (Cond.privateMethod_at (mvP hZ (hw _ (List.mem_of_getElem? (i := 49) rfl)) (args := #[]))) (mvT hZ (hw _ (List.mem_of_getElem? (i := 50) rfl))) (by decide) (backOf (W := 0) (rm_finA l Z a0 hw [] a ec aS aA tmo o1_1 c1_1 sl al NN (own_dr now tmo q) T1.heap n0 Z1 G2 pf1_0 pf1_1 pf1_2 pf1_3 pf1_4 G3 G4 hF (own_sdr hS)) hZ (hw _ (List.mem_of_getElem? (i := 50) rfl)) (hw _ (List.mem_of_getElem? (i := 11) rfl)) (by decide) (by decide)) (g := (mkF m 7 #[.val (.ref a), .val (.long ec), .second, .val (.long now), .second, .unset, .unset] [(.long ec), (.ref a)])) rfl (by rw [hml]; rfl) (Steps.refl _) (a := a) q5 q5' (argsL := [(.long ec)]) (rest := []) (lenOf pd_2 rfl) rfl (by show 2 * 0 + _ ≤ _; exact Nat.le_of_eq rfl) (hb hby d7_7) (fun _ _ => ⟨rfl, rfl, (Nat.le_trans (Nat.add_le_add_right (Nat.add_le_add_right (Nat.le_refl 0) 0) 0) (by decide)), (Nat.le_trans (Nat.add_le_add_right (Nat.add_le_add_right (Nat.le_refl 0) 0) 0) (by decide))⟩)
  dsimp only [Pt.U, Pt.locs, Pt.cells, Pt.slots] at X5 l5 y5 z5 st5 hQ5
  subst l5 y5 z5
  obtain ⟨r_5, rfl, N5q, e5, ph5_0⟩ := hQ5
  have N5 := Fr.app N1 N5q
  have hR := ph5_0
  refine Go.step (T' := T5) (f' := (mkF m 14 #[.val (.ref a), .val (.long ec), .second, .val (.long now), .second, .val (.int r_5), .unset] [(.int r_5)])) (fun t kt => ?_) ?_
  · show Steps p.tables e below (s₁.setTop (mkF m 0 #[.val (.ref a), .val (.long ec), .second, .val (.long now), .second, .unset, .unset] [])) _
    refine XS.aloadN X0.here hx rfl (hb hby d7_0) rfl rfl ?_
    show Steps p.tables e below (s₁.setTop (mkF m 1 #[.val (.ref a), .val (.long ec), .second, .val (.long now), .second, .unset, .unset] [(.ref a)])) _
    refine XS.lloadN X0.here hx rfl (hb hby d7_1) rfl ?_
    show Steps p.tables e below (s₁.setTop (mkF m 2 #[.val (.ref a), .val (.long ec), .second, .val (.long now), .second, .unset, .unset] [(.long now), (.ref a)])) _
    refine st1.trans ?_
    show Steps p.tables e below (T1.setTop (mkF m 5 #[.val (.ref a), .val (.long ec), .second, .val (.long now), .second, .unset, .unset] [])) _
    refine XS.aloadN X1.here hx rfl (hb hby d7_5) rfl rfl ?_
    show Steps p.tables e below (T1.setTop (mkF m 6 #[.val (.ref a), .val (.long ec), .second, .val (.long now), .second, .unset, .unset] [(.ref a)])) _
    refine XS.lloadN X1.here hx rfl (hb hby d7_6) rfl ?_
    show Steps p.tables e below (T1.setTop (mkF m 7 #[.val (.ref a), .val (.long ec), .second, .val (.long now), .second, .unset, .unset] [(.long ec), (.ref a)])) _
    refine st5.trans ?_
    show Steps p.tables e below (T5.setTop (mkF m 10 #[.val (.ref a), .val (.long ec), .second, .val (.long now), .second, .unset, .unset] [(.int r_5)])) _
    refine XS.istore X5.here hx rfl (hb hby d7_10) rfl (l' := #[.val (.ref a), .val (.long ec), .second, .val (.long now), .second, .val (.int r_5), .unset]) rfl ?_
    show Steps p.tables e below (T5.setTop (mkF m 12 #[.val (.ref a), .val (.long ec), .second, .val (.long now), .second, .val (.int r_5), .unset] [])) _
    refine XS.iload X5.here hx rfl (hb hby d7_12) rfl ?_
    exact kt
  by_cases hc6 : r_5 < (0 : Int32)
  · have _ := hc6
    refine Go.step (T' := T5) (f' := (mkF m 35 #[.val (.ref a), .val (.long ec), .second, .val (.long now), .second, .val (.int r_5), .unset] [])) (fun t kt => ?_) ?_
    · show Steps p.tables e below (T5.setTop (mkF m 14 #[.val (.ref a), .val (.long ec), .second, .val (.long now), .second, .val (.int r_5), .unset] [(.int r_5)])) _
      refine XS.ifYes X5.here hx rfl (pc0 := 14) (pc' := 35) rfl (hb hby d7_14) rfl ((if0 _ _).trans (tlt hc6).1) (by decide) (by decide) ?_
      exact kt
    refine Go.step (T' := T5) (f' := (mkF m 57 #[.val (.ref a), .val (.long ec), .second, .val (.long now), .second, .val (.int r_5), .val (.int (0 : Int32))] [(.int (0 : Int32))])) (fun t kt => ?_) ?_
    · show Steps p.tables e below (T5.setTop (mkF m 35 #[.val (.ref a), .val (.long ec), .second, .val (.long now), .second, .val (.int r_5), .unset] [])) _
      refine XS.iconst X5.here hx rfl (hb hby d7_35) ?_
      show Steps p.tables e below (T5.setTop (mkF m 36 #[.val (.ref a), .val (.long ec), .second, .val (.long now), .second, .val (.int r_5), .unset] [(.int (0 : Int32))])) _
      refine XS.istore X5.here hx rfl (hb hby d7_36) rfl (l' := #[.val (.ref a), .val (.long ec), .second, .val (.long now), .second, .val (.int r_5), .val (.int (0 : Int32))]) rfl ?_
      show Steps p.tables e below (T5.setTop (mkF m 38 #[.val (.ref a), .val (.long ec), .second, .val (.long now), .second, .val (.int r_5), .val (.int (0 : Int32))] [])) _
      refine XS.iload X5.here hx rfl (hb hby d7_38) rfl ?_
      show Steps p.tables e below (T5.setTop (mkF m 40 #[.val (.ref a), .val (.long ec), .second, .val (.long now), .second, .val (.int r_5), .val (.int (0 : Int32))] [(.int (0 : Int32))])) _
      refine XS.ifYes X5.here hx rfl (pc0 := 40) (pc' := 55) rfl (hb hby d7_40) rfl ((if0 _ _).trans (teq (by decide : ((0 : Int32) = (0 : Int32)))).1) (by decide) (by decide) ?_
      show Steps p.tables e below (T5.setTop (mkF m 55 #[.val (.ref a), .val (.long ec), .second, .val (.long now), .second, .val (.int r_5), .val (.int (0 : Int32))] [])) _
      refine XS.iload X5.here hx rfl (hb hby d7_55) rfl ?_
      exact kt
    refine Go.fin X5 (v := some (.int (0 : Int32))) (fun h => by rw [Bd.returns] at h; cases h) Bd.notSynchronized ?_ (Nat.le_trans (Nat.add_le_add_right (Nat.add_le_add_right (Nat.le_refl 0) 0) 0) (by decide)) (Nat.le_trans (Nat.add_le_add_right (Nat.add_le_add_right (Nat.le_refl 0) 0) 0) (by decide)) (fun fs hr => retN X5 hx (t := .boolean) Bd.returns (by simp) (hb hby d7_57) hr)
    · show QansA Z a ec now aS aA tmo old cnt sl al NN q h0 n0 _ T5.heap _
      rw [e5]
      exact ⟨o1_1, c1_1, al, (0 : Int32), rfl, N5, K1, pf1_0, pf1_1, pf1_2, pf1_3, pf1_4, G4, own_a1 hF hR (by assumption)⟩
  · have _ := hc6
    refine Go.step (T' := T5) (f' := (mkF m 17 #[.val (.ref a), .val (.long ec), .second, .val (.long now), .second, .val (.int r_5), .unset] [])) (fun t kt => ?_) ?_
    · show Steps p.tables e below (T5.setTop (mkF m 14 #[.val (.ref a), .val (.long ec), .second, .val (.long now), .second, .val (.int r_5), .unset] [(.int r_5)])) _
      refine XS.ifNo X5.here hx rfl (hb hby d7_14) rfl ((if0 _ _).trans (flt hc6).1) ?_
      exact kt
    obtain ⟨T7, X7, e7, st7⟩ := getF X5 hx hZ hown (host := "") (Or.inl (hw _ (List.mem_of_getElem? (i := 21) rfl))) Via.refl e5 pf1_2 (g := (mkF m 18 #[.val (.ref a), .val (.long ec), .second, .val (.long now), .second, .val (.int r_5), .unset] [(.ref a)])) rfl rfl (hb hby d7_18)
    obtain ⟨cq8, q8, q8'⟩ := (G2 : Exa Z T1.heap a "com/example/talthybius/talthybius/AwaitedPings").cell
    obtain ⟨_, _, ⟨T8, L8, k8, n8⟩, -, X8, ⟨Lc8, hQ8, l8, y8, z8⟩, st8⟩ := X7.privateBack hx (y := (⟨"com/example/talthybius/talthybius/AwaitedPings", "placeOf", "(I)I"⟩ : MethodName)) hown (mvT hZ (hw _ (List.mem_of_getElem? (i := 36) rfl))) (mvT hZ (hw _ (List.mem_of_getElem? (i := 37) rfl))) (own_psel (mvT hZ (hw _ (List.mem_of_getElem? (i := 10) rfl))) (Cond.privateMethod_at (mvP hZ (hw _ (List.mem_of_getElem? (i := 38) rfl)) (args := #[]))) (mvT hZ (hw _ (List.mem_of_getElem? (i := 37) rfl))) (by decide)) (Cond.privateMethod_at (mvP hZ (hw _ (List.mem_of_getElem? (i := 38) rfl)) (args := #[]))) (mvT hZ (hw _ (List.mem_of_getElem? (i := 39) rfl))) (by decide) (backOf (W := 1) (rm_plaF l Z a0 hw [] a r_5 aS o1_1 sl T1.heap n0 Z1 pf1_1 pf1_3 G3 ) hZ (hw _ (List.mem_of_getElem? (i := 39) rfl)) (hw _ (List.mem_of_getElem? (i := 11) rfl)) (by decide) (by decide)) (g := (mkF m 24 #[.val (.ref a), .val (.long ec), .second, .val (.long now), .second, .val (.int r_5), .unset] [(.int r_5), (.ref a), (.ref aA)])) rfl (by rw [hml]; rfl) (Steps.refl _) (a := a) (by rw [e7]; exact q8) q8' (argsL := [(.int r_5)]) (rest := [(.ref aA)]) (lenOf pd_0 rfl) rfl (by show 2 * 0 + _ ≤ _; exact Nat.le_of_eq rfl) (hb hby d7_24) (fun _ _ => ⟨rfl, e7, (Nat.le_trans (Nat.add_le_add_right (Nat.add_le_add_right (Nat.add_le_add_right (Nat.le_refl 0) 0) 0) 0) (by decide)), (Nat.le_trans (Nat.add_le_add_right (Nat.add_le_add_right (Nat.add_le_add_right (Nat.le_refl 0) 0) 0) 0) (by decide))⟩)
    dsimp only [Pt.U, Pt.locs, Pt.cells, Pt.slots] at X8 l8 y8 z8 st8 hQ8
    subst l8 y8 z8
    obtain ⟨rfl, N8q, e8⟩ := hQ8
    have N8 := Fr.app N5 N8q
    have ix9 : 0 ≤ ((plaF r_5 o1_1 sl)).toInt ∧ ((plaF r_5 o1_1 sl)).toInt < ((al).length : Int) := own_aI hF hR (by assumption)
    refine Go.step (T' := T8) (f' := (mkF m 28 #[.val (.ref a), .val (.long ec), .second, .val (.long now), .second, .val (.int r_5), .unset] [(.int (al.getD (plaF r_5 o1_1 sl).toNatClampNeg (0 : Int32)))])) (fun t kt => ?_) ?_
    · show Steps p.tables e below (T5.setTop (mkF m 17 #[.val (.ref a), .val (.long ec), .second, .val (.long now), .second, .val (.int r_5), .unset] [])) _
      refine XS.aloadN X5.here hx rfl (hb hby d7_17) rfl rfl ?_
      show Steps p.tables e below (T5.setTop (mkF m 18 #[.val (.ref a), .val (.long ec), .second, .val (.long now), .second, .val (.int r_5), .unset] [(.ref a)])) _
      refine st7 _ ?_
      show Steps p.tables e below (T7.setTop (mkF m 21 #[.val (.ref a), .val (.long ec), .second, .val (.long now), .second, .val (.int r_5), .unset] [(.ref aA)])) _
      refine XS.aloadN X7.here hx rfl (hb hby d7_21) rfl rfl ?_
      show Steps p.tables e below (T7.setTop (mkF m 22 #[.val (.ref a), .val (.long ec), .second, .val (.long now), .second, .val (.int r_5), .unset] [(.ref a), (.ref aA)])) _
      refine XS.iload X7.here hx rfl (hb hby d7_22) rfl ?_
      show Steps p.tables e below (T7.setTop (mkF m 24 #[.val (.ref a), .val (.long ec), .second, .val (.long now), .second, .val (.int r_5), .unset] [(.int r_5), (.ref a), (.ref aA)])) _
      refine st8.trans ?_
      show Steps p.tables e below (T8.setTop (mkF m 27 #[.val (.ref a), .val (.long ec), .second, .val (.long now), .second, .val (.int r_5), .unset] [(.int (plaF r_5 o1_1 sl)), (.ref aA)])) _
      refine ldZ X8 hx hZ e8 G4 ix9.1 ix9.2 (g := (mkF m 27 #[.val (.ref a), .val (.long ec), .second, .val (.long now), .second, .val (.int r_5), .unset] [(.int (plaF r_5 o1_1 sl)), (.ref aA)])) rfl rfl (hb hby d7_27) _ ?_
      exact kt
    by_cases hc10 : (al.getD (plaF r_5 o1_1 sl).toNatClampNeg (0 : Int32)) = (0 : Int32)
    · have _ := hc10
      refine Go.step (T' := T8) (f' := (mkF m 31 #[.val (.ref a), .val (.long ec), .second, .val (.long now), .second, .val (.int r_5), .unset] [])) (fun t kt => ?_) ?_
      · show Steps p.tables e below (T8.setTop (mkF m 28 #[.val (.ref a), .val (.long ec), .second, .val (.long now), .second, .val (.int r_5), .unset] [(.int (al.getD (plaF r_5 o1_1 sl).toNatClampNeg (0 : Int32)))])) _
        refine XS.ifNo X8.here hx rfl (hb hby d7_28) rfl ((if0 _ _).trans (teq hc10).2) ?_
        exact kt
      obtain ⟨T11, X11, e11, st11⟩ := getF X8 hx hZ hown (host := "") (Or.inl (hw _ (List.mem_of_getElem? (i := 21) rfl))) Via.refl e8 pf1_2 (g := (mkF m 44 #[.val (.ref a), .val (.long ec), .second, .val (.long now), .second, .val (.int r_5), .val (.int (1 : Int32))] [(.ref a)])) rfl rfl (hb hby d7_44)
      obtain ⟨cq12, q12, q12'⟩ := (G2 : Exa Z T1.heap a "com/example/talthybius/talthybius/AwaitedPings").cell
      obtain ⟨_, _, ⟨T12, L12, k12, n12⟩, -, X12, ⟨Lc12, hQ12, l12, y12, z12⟩, st12⟩ := X11.privateBack hx (y := (⟨"com/example/talthybius/talthybius/AwaitedPings", "placeOf", "(I)I"⟩ : MethodName)) hown (mvT hZ (hw _ (List.mem_of_getElem? (i := 36) rfl))) (mvT hZ (hw _ (List.mem_of_getElem? (i := 37) rfl))) (own_psel (mvT hZ (hw _ (List.mem_of_getElem? (i := 10) rfl))) (Cond.privateMethod_at (mvP hZ (hw _ (List.mem_of_getElem? (i := 38) rfl)) (args := #[]))) (mvT hZ (hw _ (List.mem_of_getElem? (i := 37) rfl))) (by decide)) (Cond.privateMethod_at (mvP hZ (hw _ (List.mem_of_getElem? (i := 38) rfl)) (args := #[]))) (mvT hZ (hw _ (List.mem_of_getElem? (i := 39) rfl))) (by decide) (backOf (W := 1) (rm_plaF l Z a0 hw [] a r_5 aS o1_1 sl T1.heap n0 Z1 pf1_1 pf1_3 G3 ) hZ (hw _ (List.mem_of_getElem? (i := 39) rfl)) (hw _ (List.mem_of_getElem? (i := 11) rfl)) (by decide) (by decide)) (g := (mkF m 50 #[.val (.ref a), .val (.long ec), .second, .val (.long now), .second, .val (.int r_5), .val (.int (1 : Int32))] [(.int r_5), (.ref a), (.ref aA)])) rfl (by rw [hml]; rfl) (Steps.refl _) (a := a) (by rw [e11]; exact q12) q12' (argsL := [(.int r_5)]) (rest := [(.ref aA)]) (lenOf pd_0 rfl) rfl (by show 2 * 0 + _ ≤ _; exact Nat.le_of_eq rfl) (hb hby d7_50) (fun _ _ => ⟨rfl, e11, (Nat.le_trans (Nat.add_le_add_right (Nat.add_le_add_right (Nat.add_le_add_right (Nat.add_le_add_right (Nat.le_refl 0) 0) 0) 0) 0) (by decide)), (Nat.le_trans (Nat.add_le_add_right (Nat.add_le_add_right (Nat.add_le_add_right (Nat.add_le_add_right (Nat.le_refl 0) 0) 0) 0) 0) (by decide))⟩)
      dsimp only [Pt.U, Pt.locs, Pt.cells, Pt.slots] at X12 l12 y12 z12 st12 hQ12
      subst l12 y12 z12
      obtain ⟨rfl, N12q, e12⟩ := hQ12
      have N12 := Fr.app N8 N12q
      have ix13 : 0 ≤ ((plaF r_5 o1_1 sl)).toInt ∧ ((plaF r_5 o1_1 sl)).toInt < ((al).length : Int) := own_aI hF hR (by assumption)
      obtain ⟨T14, h14, X14, e14, W14, V14, st14⟩ := putZ X12 hx hZ e12 G4 ix13.1 ix13.2 (g := (mkF m 54 #[.val (.ref a), .val (.long ec), .second, .val (.long now), .second, .val (.int r_5), .val (.int (1 : Int32))] [(.int (1 : Int32)), (.int (plaF r_5 o1_1 sl)), (.ref aA)])) rfl rfl (hb hby d7_54)
      have G15 : Exa Z h14 a "com/example/talthybius/talthybius/AwaitedPings" := G2.wr W14
      have G16 : Fld Z h14 a "com/example/talthybius/talthybius/AwaitedPings" "timeoutNanos" "J" (.long tmo) := pf1_0.other W14 (Or.inl ne_a_aA)
      have G17 : Fld Z h14 a "com/example/talthybius/talthybius/AwaitedPings" "sentAt" "[J" (.ref aS) := pf1_1.other W14 (Or.inl ne_a_aA)
      have G18 : Fld Z h14 a "com/example/talthybius/talthybius/AwaitedPings" "answered" "[Z" (.ref aA) := pf1_2.other W14 (Or.inl ne_a_aA)
      have G19 : Fld Z h14 a "com/example/talthybius/talthybius/AwaitedPings" "oldest" "I" (.int o1_1) := pf1_3.other W14 (Or.inl ne_a_aA)
      have G20 : Fld Z h14 a "com/example/talthybius/talthybius/AwaitedPings" "count" "I" (.int c1_1) := pf1_4.other W14 (Or.inl ne_a_aA)
      have G21 : VA Z h14 aS .long (sl.map Value.long) := G3.other W14 ne_aS_aA
      have G22 : VA Z h14 aA .boolean ((al.set (plaF r_5 o1_1 sl).toNatClampNeg (1 : Int32)).map Value.int) := V14
      have N14 := Fr.snoc X14 N12 g_aA
      have K14 : Keep h0 h14 [a, aA] := Keep.wr K1 W14 (Or.inl (List.mem_of_getElem? (i := 1) rfl))
      have Z14 : n0 ≤ h14.size := Nat.le_trans Z0 K14.1
      refine Go.step (T' := T14) (f' := (mkF m 57 #[.val (.ref a), .val (.long ec), .second, .val (.long now), .second, .val (.int r_5), .val (.int (1 : Int32))] [(.int (1 : Int32))])) (fun t kt => ?_) ?_
      · show Steps p.tables e below (T8.setTop (mkF m 31 #[.val (.ref a), .val (.long ec), .second, .val (.long now), .second, .val (.int r_5), .unset] [])) _
        refine XS.iconst X8.here hx rfl (hb hby d7_31) ?_
        show Steps p.tables e below (T8.setTop (mkF m 32 #[.val (.ref a), .val (.long ec), .second, .val (.long now), .second, .val (.int r_5), .unset] [(.int (1 : Int32))])) _
        refine XS.goto X8.here hx rfl (pc0 := 32) (pc' := 36) rfl (hb hby d7_32) (by decide) (by decide) ?_
        show Steps p.tables e below (T8.setTop (mkF m 36 #[.val (.ref a), .val (.long ec), .second, .val (.long now), .second, .val (.int r_5), .unset] [(.int (1 : Int32))])) _
        refine XS.istore X8.here hx rfl (hb hby d7_36) rfl (l' := #[.val (.ref a), .val (.long ec), .second, .val (.long now), .second, .val (.int r_5), .val (.int (1 : Int32))]) rfl ?_
        show Steps p.tables e below (T8.setTop (mkF m 38 #[.val (.ref a), .val (.long ec), .second, .val (.long now), .second, .val (.int r_5), .val (.int (1 : Int32))] [])) _
        refine XS.iload X8.here hx rfl (hb hby d7_38) rfl ?_
        show Steps p.tables e below (T8.setTop (mkF m 40 #[.val (.ref a), .val (.long ec), .second, .val (.long now), .second, .val (.int r_5), .val (.int (1 : Int32))] [(.int (1 : Int32))])) _
        refine XS.ifNo X8.here hx rfl (hb hby d7_40) rfl ((if0 _ _).trans (feq (by decide : ¬ ((1 : Int32) = (0 : Int32)))).1) ?_
        show Steps p.tables e below (T8.setTop (mkF m 43 #[.val (.ref a), .val (.long ec), .second, .val (.long now), .second, .val (.int r_5), .val (.int (1 : Int32))] [])) _
        refine XS.aloadN X8.here hx rfl (hb hby d7_43) rfl rfl ?_
        show Steps p.tables e below (T8.setTop (mkF m 44 #[.val (.ref a), .val (.long ec), .second, .val (.long now), .second, .val (.int r_5), .val (.int (1 : Int32))] [(.ref a)])) _
        refine st11 _ ?_
        show Steps p.tables e below (T11.setTop (mkF m 47 #[.val (.ref a), .val (.long ec), .second, .val (.long now), .second, .val (.int r_5), .val (.int (1 : Int32))] [(.ref aA)])) _
        refine XS.aloadN X11.here hx rfl (hb hby d7_47) rfl rfl ?_
        show Steps p.tables e below (T11.setTop (mkF m 48 #[.val (.ref a), .val (.long ec), .second, .val (.long now), .second, .val (.int r_5), .val (.int (1 : Int32))] [(.ref a), (.ref aA)])) _
        refine XS.iload X11.here hx rfl (hb hby d7_48) rfl ?_
        show Steps p.tables e below (T11.setTop (mkF m 50 #[.val (.ref a), .val (.long ec), .second, .val (.long now), .second, .val (.int r_5), .val (.int (1 : Int32))] [(.int r_5), (.ref a), (.ref aA)])) _
        refine st12.trans ?_
        show Steps p.tables e below (T12.setTop (mkF m 53 #[.val (.ref a), .val (.long ec), .second, .val (.long now), .second, .val (.int r_5), .val (.int (1 : Int32))] [(.int (plaF r_5 o1_1 sl)), (.ref aA)])) _
        refine XS.iconst X12.here hx rfl (hb hby d7_53) ?_
        show Steps p.tables e below (T12.setTop (mkF m 54 #[.val (.ref a), .val (.long ec), .second, .val (.long now), .second, .val (.int r_5), .val (.int (1 : Int32))] [(.int (1 : Int32)), (.int (plaF r_5 o1_1 sl)), (.ref aA)])) _
        refine st14 _ ?_
        show Steps p.tables e below (T14.setTop (mkF m 55 #[.val (.ref a), .val (.long ec), .second, .val (.long now), .second, .val (.int r_5), .val (.int (1 : Int32))] [])) _
        refine XS.iload X14.here hx rfl (hb hby d7_55) rfl ?_
        exact kt
      refine Go.fin X14 (v := some (.int (1 : Int32))) (fun h => by rw [Bd.returns] at h; cases h) Bd.notSynchronized ?_ (Nat.le_trans (Nat.add_le_add_right (Nat.add_le_add_right (Nat.add_le_add_right (Nat.add_le_add_right (Nat.le_refl 0) 0) 0) 0) 0) (by decide)) (Nat.le_trans (Nat.add_le_add_right (Nat.add_le_add_right (Nat.add_le_add_right (Nat.add_le_add_right (Nat.le_refl 0) 0) 0) 0) 0) (by decide)) (fun fs hr => retN X14 hx (t := .boolean) Bd.returns (by simp) (hb hby d7_57) hr)
      · show QansA Z a ec now aS aA tmo old cnt sl al NN q h0 n0 _ T14.heap _
        rw [e14]
        exact ⟨o1_1, c1_1, (al.set (plaF r_5 o1_1 sl).toNatClampNeg (1 : Int32)), (1 : Int32), rfl, N14, K14, G16, G17, G18, G19, G20, G22, own_a3 (own_sdr hS) hF hR (by assumption) (by assumption)⟩
    · have _ := hc10
      refine Go.step (T' := T8) (f' := (mkF m 35 #[.val (.ref a), .val (.long ec), .second, .val (.long now), .second, .val (.int r_5), .unset] [])) (fun t kt => ?_) ?_
      · show Steps p.tables e below (T8.setTop (mkF m 28 #[.val (.ref a), .val (.long ec), .second, .val (.long now), .second, .val (.int r_5), .unset] [(.int (al.getD (plaF r_5 o1_1 sl).toNatClampNeg (0 : Int32)))])) _
        refine XS.ifYes X8.here hx rfl (pc0 := 28) (pc' := 35) rfl (hb hby d7_28) rfl ((if0 _ _).trans (feq hc10).2) (by decide) (by decide) ?_
        exact kt
      refine Go.step (T' := T8) (f' := (mkF m 57 #[.val (.ref a), .val (.long ec), .second, .val (.long now), .second, .val (.int r_5), .val (.int (0 : Int32))] [(.int (0 : Int32))])) (fun t kt => ?_) ?_
      · show Steps p.tables e below (T8.setTop (mkF m 35 #[.val (.ref a), .val (.long ec), .second, .val (.long now), .second, .val (.int r_5), .unset] [])) _
        refine XS.iconst X8.here hx rfl (hb hby d7_35) ?_
        show Steps p.tables e below (T8.setTop (mkF m 36 #[.val (.ref a), .val (.long ec), .second, .val (.long now), .second, .val (.int r_5), .unset] [(.int (0 : Int32))])) _
        refine XS.istore X8.here hx rfl (hb hby d7_36) rfl (l' := #[.val (.ref a), .val (.long ec), .second, .val (.long now), .second, .val (.int r_5), .val (.int (0 : Int32))]) rfl ?_
        show Steps p.tables e below (T8.setTop (mkF m 38 #[.val (.ref a), .val (.long ec), .second, .val (.long now), .second, .val (.int r_5), .val (.int (0 : Int32))] [])) _
        refine XS.iload X8.here hx rfl (hb hby d7_38) rfl ?_
        show Steps p.tables e below (T8.setTop (mkF m 40 #[.val (.ref a), .val (.long ec), .second, .val (.long now), .second, .val (.int r_5), .val (.int (0 : Int32))] [(.int (0 : Int32))])) _
        refine XS.ifYes X8.here hx rfl (pc0 := 40) (pc' := 55) rfl (hb hby d7_40) rfl ((if0 _ _).trans (teq (by decide : ((0 : Int32) = (0 : Int32)))).1) (by decide) (by decide) ?_
        show Steps p.tables e below (T8.setTop (mkF m 55 #[.val (.ref a), .val (.long ec), .second, .val (.long now), .second, .val (.int r_5), .val (.int (0 : Int32))] [])) _
        refine XS.iload X8.here hx rfl (hb hby d7_55) rfl ?_
        exact kt
      refine Go.fin X8 (v := some (.int (0 : Int32))) (fun h => by rw [Bd.returns] at h; cases h) Bd.notSynchronized ?_ (Nat.le_trans (Nat.add_le_add_right (Nat.add_le_add_right (Nat.add_le_add_right (Nat.le_refl 0) 0) 0) 0) (by decide)) (Nat.le_trans (Nat.add_le_add_right (Nat.add_le_add_right (Nat.add_le_add_right (Nat.le_refl 0) 0) 0) 0) (by decide)) (fun fs hr => retN X8 hx (t := .boolean) Bd.returns (by simp) (hb hby d7_57) hr)
      · show QansA Z a ec now aS aA tmo old cnt sl al NN q h0 n0 _ T8.heap _
        rw [e8]
        exact ⟨o1_1, c1_1, al, (0 : Int32), rfl, N8, K1, pf1_0, pf1_1, pf1_2, pf1_3, pf1_4, G4, own_a2 (own_sdr hS) hF hR (by assumption) (by assumption)⟩
theorem d4_0 : decode prog_10_method_2_code 0 = .ok (.aload_n 0, 1) := by decide +kernel
theorem d4_1 : decode prog_10_method_2_code 1 = .ok (.lload_n 1, 1) := by decide +kernel
theorem d4_2 : decode prog_10_method_2_code 2 = .ok (.invokevirtual 21, 3) := by decide +kernel
theorem d4_5 : decode prog_10_method_2_code 5 = .ok (.aload_n 0, 1) := by decide +kernel
theorem d4_6 : decode prog_10_method_2_code 6 = .ok (.getfield 25, 3) := by decide +kernel
theorem d4_9 : decode prog_10_method_2_code 9 = .ok (.aload_n 0, 1) := by decide +kernel
theorem d4_10 : decode prog_10_method_2_code 10 = .ok (.getfield 9, 3) := by decide +kernel
theorem d4_13 : decode prog_10_method_2_code 13 = .ok (.arraylength, 1) := by decide +kernel
theorem d4_14 : decode prog_10_method_2_code 14 = .ok (.if_icmp .ne 7, 3) := by decide +kernel
theorem d4_21 : decode prog_10_method_2_code 21 = .ok (.aload_n 0, 1) := by decide +kernel
theorem d4_22 : decode prog_10_method_2_code 22 = .ok (.aload_n 0, 1) := by decide +kernel
theorem d4_23 : decode prog_10_method_2_code 23 = .ok (.getfield 25, 3) := by decide +kernel
theorem d4_26 : decode prog_10_method_2_code 26 = .ok (.invokevirtual 32, 3) := by decide +kernel
theorem d4_29 : decode prog_10_method_2_code 29 = .ok (.istore_n 3, 1) := by decide +kernel
theorem d4_30 : decode prog_10_method_2_code 30 = .ok (.aload_n 0, 1) := by decide +kernel
theorem d4_31 : decode prog_10_method_2_code 31 = .ok (.getfield 9, 3) := by decide +kernel
theorem d4_34 : decode prog_10_method_2_code 34 = .ok (.iload_n 3, 1) := by decide +kernel
theorem d4_35 : decode prog_10_method_2_code 35 = .ok (.lload_n 1, 1) := by decide +kernel
theorem d4_36 : decode prog_10_method_2_code 36 = .ok (.lastore, 1) := by decide +kernel
theorem d4_37 : decode prog_10_method_2_code 37 = .ok (.aload_n 0, 1) := by decide +kernel
theorem d4_38 : decode prog_10_method_2_code 38 = .ok (.getfield 13, 3) := by decide +kernel
theorem d4_41 : decode prog_10_method_2_code 41 = .ok (.iload_n 3, 1) := by decide +kernel
theorem d4_42 : decode prog_10_method_2_code 42 = .ok (.iconst 0, 1) := by decide +kernel
theorem d4_43 : decode prog_10_method_2_code 43 = .ok (.bastore, 1) := by decide +kernel
theorem d4_44 : decode prog_10_method_2_code 44 = .ok (.aload_n 0, 1) := by decide +kernel
theorem d4_45 : decode prog_10_method_2_code 45 = .ok (.dup, 1) := by decide +kernel
theorem d4_46 : decode prog_10_method_2_code 46 = .ok (.getfield 25, 3) := by decide +kernel
theorem d4_49 : decode prog_10_method_2_code 49 = .ok (.iconst 1, 1) := by decide +kernel
theorem d4_50 : decode prog_10_method_2_code 50 = .ok (.iadd, 1) := by decide +kernel
theorem d4_51 : decode prog_10_method_2_code 51 = .ok (.putfield 25, 3) := by decide +kernel
theorem d4_54 : decode prog_10_method_2_code 54 = .ok (.return_, 1) := by decide +kernel
theorem ef_senN (m : MethodId) (x0 : Addr) (x1 : Int64) : entryFrame m #[(.ref x0), (.long x1)] 4 = mkF m 0 #[.val (.ref x0), .val (.long x1), .second, .unset] [] := by first | (simp [entryFrame, mkF, argsToLocals, Value.category]; done) | rfl
def QsenN (Z : State) (a : Addr) (tm : Int64) (aS : Addr) (aA : Addr) (tmo : Int64) (old : Int32) (cnt : Int32) (sl : List Int64) (al : List Int32) (NN : Nat) (q : List (Int64 × Int32)) (h0 : Heap) (n0 : Nat) (v : Option Value) (h : Heap) (L : List Loc) : Prop := ∃ (o1 : Int32), ∃ (c1 : Int32), ∃ (sl1 : List Int64), ∃ (al1 : List Int32), v = none ∧ Fr n0 L ∧ Keep h0 h [a, aS, aA] ∧ Fld Z h a "com/example/talthybius/talthybius/AwaitedPings" "timeoutNanos" "J" (.long tmo) ∧ Fld Z h a "com/example/talthybius/talthybius/AwaitedPings" "sentAt" "[J" (.ref aS) ∧ Fld Z h a "com/example/talthybius/talthybius/AwaitedPings" "answered" "[Z" (.ref aA) ∧ Fld Z h a "com/example/talthybius/talthybius/AwaitedPings" "oldest" "I" (.int o1) ∧ Fld Z h a "com/example/talthybius/talthybius/AwaitedPings" "count" "I" (.int c1) ∧ VA Z h aS .long (sl1.map Value.long) ∧ VA Z h aA .boolean (al1.map Value.int) ∧ (own_AP NN sl1 al1 o1 c1 (own_dr tm tmo q ++ [(tm, 0)]))
set_option maxRecDepth 65536 in
set_option maxHeartbeats 40000000 in
theorem rm_senN (l : Launch) (Z : State) (a0 : Array Value) (hw : ∀ d ∈ tables_1, d.before a0 Z = true) (ws : List Jvm.Cond) (a : Addr) (tm : Int64) (aS : Addr) (aA : Addr) (tmo : Int64) (old : Int32) (cnt : Int32) (sl : List Int64) (al : List Int32) (NN : Nat) (q : List (Int64 × Int32)) (h0 : Heap) (n0 : Nat) (Z0 : n0 ≤ h0.size) (F0 : Exa Z h0 a "com/example/talthybius/talthybius/AwaitedPings") (F1 : Fld Z h0 a "com/example/talthybius/talthybius/AwaitedPings" "timeoutNanos" "J" (.long tmo)) (F2 : Fld Z h0 a "com/example/talthybius/talthybius/AwaitedPings" "sentAt" "[J" (.ref aS)) (F3 : Fld Z h0 a "com/example/talthybius/talthybius/AwaitedPings" "answered" "[Z" (.ref aA)) (F4 : Fld Z h0 a "com/example/talthybius/talthybius/AwaitedPings" "oldest" "I" (.int old)) (F5 : Fld Z h0 a "com/example/talthybius/talthybius/AwaitedPings" "count" "I" (.int cnt)) (F6 : VA Z h0 aS .long (sl.map Value.long)) (F7 : VA Z h0 aA .boolean (al.map Value.int)) (g_a : n0 ≤ a) (g_aS : n0 ≤ aS) (g_aA : n0 ≤ aA) (ne_a_aS : a ≠ aS) (ne_a_aA : a ≠ aA) (ne_aS_aA : aS ≠ aA) (hA : own_AP NN sl al old cnt q) (hlt : (own_dr tm tmo q).length < NN) :
    MetFree l (⟨"com/example/talthybius/talthybius/AwaitedPings", "sent", "(J)V"⟩ : MethodName) (head1 (Jvm.Cond.code (⟨"com/example/talthybius/talthybius/AwaitedPings", "sent", "(J)V"⟩ : MethodName) prog_10_method_2_code 4 none :: ws) ({ frames := 2, cells := 0, slots := 0, locals := 29 } : Room)) (fun A_ U => A_ = #[(.ref a), (.long tm)] ∧ Z.Warmed39 U.vm ∧ U.heap = h0) (fun _ _ _ _ _ => True) (fun _ U o U' => ∃ v L, o = .returned v ∧ QsenN Z a tm aS aA tmo old cnt sl al NN q h0 n0 v U'.heap L ∧ FrameEnd U o U' L ({ frames := 2, cells := 0, slots := 0, locals := 29 } : Room).cells ({ frames := 2, cells := 0, slots := 0, locals := 29 } : Room).slots) := by
  refine MetFree.of_bodySF (plainFor_of_name pn_0) hisR ?_
  intro p e s m args below meth c s₁ Bd hml0 hP hK
  obtain ⟨rfl, hZ, hh⟩ := hP
  have hx := Bd.exec
  have hby := Bd.bytes
  have hml : c.maxLocals = 4 := hml0
  have hown : s.vm.findClass "com/example/talthybius/talthybius/AwaitedPings" = some m.cls := findClass_of_methodNamed Bd.named
  have hnm := (name_of_methodNamed Bd.named Bd.method).1
  have X0 : Stand p l e ({ frames := 2, cells := 0, slots := 0, locals := 29 } : Room) s m #[(.ref a), (.long tm)] below meth c s₁ [] 0 0 := Stand.of_body Bd
  have e0 : s₁.heap = h0 := by rw [← hh, Bd.state]; rfl
  have N0 := Fr.nil n0
  suffices HGO : Go p e below s (QsenN Z a tm aS aA tmo old cnt sl al NN q h0 n0) ({ frames := 2, cells := 0, slots := 0, locals := 29 } : Room).cells ({ frames := 2, cells := 0, slots := 0, locals := 29 } : Room).slots s₁ (mkF m 0 #[.val (.ref a), .val (.long tm), .second, .unset] []) from Go.cast (ef_senN m a tm) HGO
  obtain ⟨cq1, q1, q1'⟩ := (F0 : Exa Z h0 a "com/example/talthybius/talthybius/AwaitedPings").cell
  obtain ⟨_, _, ⟨T1, L1, k1, n1⟩, -, X1, ⟨Lc1, hQ1, l1, y1, z1⟩, st1⟩ := X0.privateBack hx (y := (⟨"com/example/talthybius/talthybius/AwaitedPings", "forget", "(J)V"⟩ : MethodName)) hown (mvT hZ (hw _ (List.mem_of_getElem? (i := 30) rfl))) (mvT hZ (hw _ (List.mem_of_getElem? (i := 31) rfl))) (own_psel (mvT hZ (hw _ (List.mem_of_getElem? (i := 10) rfl))) (Cond.privateMethod_at (mvP hZ (hw _ (List.mem_of_getElem? (i := 32) rfl)) (args := #[]))) (mvT hZ (hw _ (List.mem_of_getElem? (i := 31) rfl))) (by decide)) (Cond.privateMethod_at (mvP hZ (hw _ (List.mem_of_getElem? (i := 32) rfl)) (args := #[]))) (mvT hZ (hw _ (List.mem_of_getElem? (i := 33) rfl))) (by decide) (backOf (W := 0) (rm_fgtA l Z a0 hw [] a tm aS aA tmo old cnt sl al NN q h0 n0 Z0 F0 F1 F2 F3 F4 F5 F6 F7 g_a ne_a_aS ne_a_aA ne_aS_aA hA) hZ (hw _ (List.mem_of_getElem? (i := 33) rfl)) (hw _ (List.mem_of_getElem? (i := 11) rfl)) (by decide) (by decide)) (g := (mkF m 2 #[.val (.ref a), .val (.long tm), .second, .unset] [(.long tm), (.ref a)])) rfl (by rw [hml]; rfl) (Steps.refl _) (a := a) (by rw [e0]; exact q1) q1' (argsL := [(.long tm)]) (rest := []) (lenOf pd_1 rfl) rfl (by show 2 * 0 + _ ≤ _; exact Nat.le_of_eq rfl) (hb hby d4_2) (fun _ _ => ⟨rfl, e0, (Nat.le_trans (Nat.add_le_add_right (Nat.le_refl 0) 0) (by decide)), (Nat.le_trans (Nat.add_le_add_right (Nat.le_refl 0) 0) (by decide))⟩)
  dsimp only [Pt.U, Pt.locs, Pt.cells, Pt.slots] at X1 l1 y1 z1 st1 hQ1
  subst l1 y1 z1
  obtain ⟨o1_1, c1_1, rfl, N1q, Kq1, pf1_0, pf1_1, pf1_2, pf1_3, pf1_4, ph1_0⟩ := hQ1
  have G2 : Exa Z T1.heap a "com/example/talthybius/talthybius/AwaitedPings" := Exa.keep F0 Kq1
  have G3 : VA Z T1.heap aS .long (sl.map Value.long) := F6.keep Kq1 (ninS (Ne.symm ne_a_aS) nin0)
  have G4 : VA Z T1.heap aA .boolean (al.map Value.int) := F7.keep Kq1 (ninS (Ne.symm ne_a_aA) nin0)
  have K1 : Keep h0 T1.heap [a, aS, aA] := Keep.trans (Keep.refl h0 [a, aS, aA]) Kq1 (allS (Or.inl (List.mem_of_getElem? (i := 0) rfl)) all0)
  have Z1 : n0 ≤ T1.heap.size := Nat.le_trans Z0 K1.1
  have N1 := Fr.app N0 N1q
  have hF := ph1_0
  obtain ⟨T5, X5, e5, st5⟩ := getF X1 hx hZ hown (host := "") (Or.inl (hw _ (List.mem_of_getElem? (i := 34) rfl))) Via.refl rfl pf1_4 (g := (mkF m 6 #[.val (.ref a), .val (.long tm), .second, .unset] [(.ref a)])) rfl rfl (hb hby d4_6)
  obtain ⟨T6, X6, e6, st6⟩ := getF X5 hx hZ hown (host := "") (Or.inl (hw _ (List.mem_of_getElem? (i := 18) rfl))) Via.refl e5 pf1_1 (g := (mkF m 10 #[.val (.ref a), .val (.long tm), .second, .unset] [(.ref a), (.int c1_1)])) rfl rfl (hb hby d4_10)
  have ln7 : ((sl.map Value.long).length : Int) = ((sl.length.toInt32)).toInt := (by have q := G3.len; rw [List.length_map] at q; rw [len_toInt q, List.length_map])
  refine Go.step (T' := T6) (f' := (mkF m 14 #[.val (.ref a), .val (.long tm), .second, .unset] [(.int (sl.length.toInt32)), (.int c1_1)])) (fun t kt => ?_) ?_
  · show Steps p.tables e below (s₁.setTop (mkF m 0 #[.val (.ref a), .val (.long tm), .second, .unset] [])) _
    refine XS.aloadN X0.here hx rfl (hb hby d4_0) rfl rfl ?_
    show Steps p.tables e below (s₁.setTop (mkF m 1 #[.val (.ref a), .val (.long tm), .second, .unset] [(.ref a)])) _
    refine XS.lloadN X0.here hx rfl (hb hby d4_1) rfl ?_
    show Steps p.tables e below (s₁.setTop (mkF m 2 #[.val (.ref a), .val (.long tm), .second, .unset] [(.long tm), (.ref a)])) _
    refine st1.trans ?_
    show Steps p.tables e below (T1.setTop (mkF m 5 #[.val (.ref a), .val (.long tm), .second, .unset] [])) _
    refine XS.aloadN X1.here hx rfl (hb hby d4_5) rfl rfl ?_
    show Steps p.tables e below (T1.setTop (mkF m 6 #[.val (.ref a), .val (.long tm), .second, .unset] [(.ref a)])) _
    refine st5 _ ?_
    show Steps p.tables e below (T5.setTop (mkF m 9 #[.val (.ref a), .val (.long tm), .second, .unset] [(.int c1_1)])) _
    refine XS.aloadN X5.here hx rfl (hb hby d4_9) rfl rfl ?_
    show Steps p.tables e below (T5.setTop (mkF m 10 #[.val (.ref a), .val (.long tm), .second, .unset] [(.ref a), (.int c1_1)])) _
    refine st6 _ ?_
    show Steps p.tables e below (T6.setTop (mkF m 13 #[.val (.ref a), .val (.long tm), .second, .unset] [(.ref aS), (.int c1_1)])) _
    refine lenA X6 hx hZ e6 G3 (n := (sl.length.toInt32)) ln7 (g := (mkF m 13 #[.val (.ref a), .val (.long tm), .second, .unset] [(.ref aS), (.int c1_1)])) rfl rfl (hb hby d4_13) _ ?_
    exact kt
  have hd8 : ¬ (c1_1 = (sl.length.toInt32)) := own_s0 hF hlt
  obtain ⟨T9, X9, e9, st9⟩ := getF X6 hx hZ hown (host := "") (Or.inl (hw _ (List.mem_of_getElem? (i := 34) rfl))) Via.refl e6 pf1_4 (g := (mkF m 23 #[.val (.ref a), .val (.long tm), .second, .unset] [(.ref a), (.ref a)])) rfl rfl (hb hby d4_23)
  obtain ⟨cq10, q10, q10'⟩ := (G2 : Exa Z T1.heap a "com/example/talthybius/talthybius/AwaitedPings").cell
  obtain ⟨_, _, ⟨T10, L10, k10, n10⟩, -, X10, ⟨Lc10, hQ10, l10, y10, z10⟩, st10⟩ := X9.privateBack hx (y := (⟨"com/example/talthybius/talthybius/AwaitedPings", "placeOf", "(I)I"⟩ : MethodName)) hown (mvT hZ (hw _ (List.mem_of_getElem? (i := 36) rfl))) (mvT hZ (hw _ (List.mem_of_getElem? (i := 37) rfl))) (own_psel (mvT hZ (hw _ (List.mem_of_getElem? (i := 10) rfl))) (Cond.privateMethod_at (mvP hZ (hw _ (List.mem_of_getElem? (i := 38) rfl)) (args := #[]))) (mvT hZ (hw _ (List.mem_of_getElem? (i := 37) rfl))) (by decide)) (Cond.privateMethod_at (mvP hZ (hw _ (List.mem_of_getElem? (i := 38) rfl)) (args := #[]))) (mvT hZ (hw _ (List.mem_of_getElem? (i := 39) rfl))) (by decide) (backOf (W := 0) (rm_plaF l Z a0 hw [] a c1_1 aS o1_1 sl T1.heap n0 Z1 pf1_1 pf1_3 G3 ) hZ (hw _ (List.mem_of_getElem? (i := 39) rfl)) (hw _ (List.mem_of_getElem? (i := 11) rfl)) (by decide) (by decide)) (g := (mkF m 26 #[.val (.ref a), .val (.long tm), .second, .unset] [(.int c1_1), (.ref a)])) rfl (by rw [hml]; rfl) (Steps.refl _) (a := a) (by rw [e9]; exact q10) q10' (argsL := [(.int c1_1)]) (rest := []) (lenOf pd_0 rfl) rfl (by show 2 * 0 + _ ≤ _; exact Nat.le_of_eq rfl) (hb hby d4_26) (fun _ _ => ⟨rfl, e9, (Nat.le_trans (Nat.add_le_add_right (Nat.add_le_add_right (Nat.le_refl 0) 0) 0) (by decide)), (Nat.le_trans (Nat.add_le_add_right (Nat.add_le_add_right (Nat.le_refl 0) 0) 0) (by decide))⟩)
  dsimp only [Pt.U, Pt.locs, Pt.cells, Pt.slots] at X10 l10 y10 z10 st10 hQ10
  subst l10 y10 z10
  obtain ⟨rfl, N10q, e10⟩ := hQ10
  have N10 := Fr.app N1 N10q
  obtain ⟨T11, X11, e11, st11⟩ := getF X10 hx hZ hown (host := "") (Or.inl (hw _ (List.mem_of_getElem? (i := 18) rfl))) Via.refl e10 pf1_1 (g := (mkF m 31 #[.val (.ref a), .val (.long tm), .second, .val (.int (plaF c1_1 o1_1 sl))] [(.ref a)])) rfl rfl (hb hby d4_31)
  have ix12 : 0 ≤ ((plaF c1_1 o1_1 sl)).toInt ∧ ((plaF c1_1 o1_1 sl)).toInt < ((sl).length : Int) := own_s1 hF hlt
  obtain ⟨T13, h13, X13, e13, W13, V13, st13⟩ := putJ X11 hx hZ e11 G3 ix12.1 ix12.2 (g := (mkF m 36 #[.val (.ref a), .val (.long tm), .second, .val (.int (plaF c1_1 o1_1 sl))] [(.long tm), (.int (plaF c1_1 o1_1 sl)), (.ref aS)])) rfl rfl (hb hby d4_36)
  have G14 : Exa Z h13 a "com/example/talthybius/talthybius/AwaitedPings" := G2.wr W13
  have G15 : Fld Z h13 a "com/example/talthybius/talthybius/AwaitedPings" "timeoutNanos" "J" (.long tmo) := pf1_0.other W13 (Or.inl ne_a_aS)
  have G16 : Fld Z h13 a "com/example/talthybius/talthybius/AwaitedPings" "sentAt" "[J" (.ref aS) := pf1_1.other W13 (Or.inl ne_a_aS)
  have G17 : Fld Z h13 a "com/example/talthybius/talthybius/AwaitedPings" "answered" "[Z" (.ref aA) := pf1_2.other W13 (Or.inl ne_a_aS)
  have G18 : Fld Z h13 a "com/example/talthybius/talthybius/AwaitedPings" "oldest" "I" (.int o1_1) := pf1_3.other W13 (Or.inl ne_a_aS)
  have G19 : Fld Z h13 a "com/example/talthybius/talthybius/AwaitedPings" "count" "I" (.int c1_1) := pf1_4.other W13 (Or.inl ne_a_aS)
  have G20 : VA Z h13 aS .long ((sl.set (plaF c1_1 o1_1 sl).toNatClampNeg tm).map Value.long) := V13
  have G21 : VA Z h13 aA .boolean (al.map Value.int) := G4.other W13 (Ne.symm ne_aS_aA)
  have N13 := Fr.snoc X13 N10 g_aS
  have K13 : Keep h0 h13 [a, aS, aA] := Keep.wr K1 W13 (Or.inl (List.mem_of_getElem? (i := 1) rfl))
  have Z13 : n0 ≤ h13.size := Nat.le_trans Z0 K13.1
  obtain ⟨T22, X22, e22, st22⟩ := getF X13 hx hZ hown (host := "") (Or.inl (hw _ (List.mem_of_getElem? (i := 21) rfl))) Via.refl e13 G17 (g := (mkF m 38 #[.val (.ref a), .val (.long tm), .second, .val (.int (plaF c1_1 o1_1 sl))] [(.ref a)])) rfl rfl (hb hby d4_38)
  have ix23 : 0 ≤ ((plaF c1_1 o1_1 sl)).toInt ∧ ((plaF c1_1 o1_1 sl)).toInt < ((al).length : Int) := own_s2 hF hlt
  obtain ⟨T24, h24, X24, e24, W24, V24, st24⟩ := putZ X22 hx hZ e22 G21 ix23.1 ix23.2 (g := (mkF m 43 #[.val (.ref a), .val (.long tm), .second, .val (.int (plaF c1_1 o1_1 sl))] [(.int (0 : Int32)), (.int (plaF c1_1 o1_1 sl)), (.ref aA)])) rfl rfl (hb hby d4_43)
  have G25 : Exa Z h24 a "com/example/talthybius/talthybius/AwaitedPings" := G14.wr W24
  have G26 : Fld Z h24 a "com/example/talthybius/talthybius/AwaitedPings" "timeoutNanos" "J" (.long tmo) := G15.other W24 (Or.inl ne_a_aA)
  have G27 : Fld Z h24 a "com/example/talthybius/talthybius/AwaitedPings" "sentAt" "[J" (.ref aS) := G16.other W24 (Or.inl ne_a_aA)
  have G28 : Fld Z h24 a "com/example/talthybius/talthybius/AwaitedPings" "answered" "[Z" (.ref aA) := G17.other W24 (Or.inl ne_a_aA)
  have G29 : Fld Z h24 a "com/example/talthybius/talthybius/AwaitedPings" "oldest" "I" (.int o1_1) := G18.other W24 (Or.inl ne_a_aA)
  have G30 : Fld Z h24 a "com/example/talthybius/talthybius/AwaitedPings" "count" "I" (.int c1_1) := G19.other W24 (Or.inl ne_a_aA)
  have G31 : VA Z h24 aS .long ((sl.set (plaF c1_1 o1_1 sl).toNatClampNeg tm).map Value.long) := G20.other W24 ne_aS_aA
  have G32 : VA Z h24 aA .boolean ((al.set (plaF c1_1 o1_1 sl).toNatClampNeg (0 : Int32)).map Value.int) := V24
  have N24 := Fr.snoc X24 N13 g_aA
  have K24 : Keep h0 h24 [a, aS, aA] := Keep.wr K13 W24 (Or.inl (List.mem_of_getElem? (i := 2) rfl))
  have Z24 : n0 ≤ h24.size := Nat.le_trans Z0 K24.1
  obtain ⟨T33, X33, e33, st33⟩ := getF X24 hx hZ hown (host := "") (Or.inl (hw _ (List.mem_of_getElem? (i := 34) rfl))) Via.refl e24 G30 (g := (mkF m 46 #[.val (.ref a), .val (.long tm), .second, .val (.int (plaF c1_1 o1_1 sl))] [(.ref a), (.ref a)])) rfl rfl (hb hby d4_46)
  obtain ⟨T34, h34, X34, e34, W34, st34⟩ := putF X33 hx hZ hown (host := "") (Or.inl (hw _ (List.mem_of_getElem? (i := 34) rfl))) Via.refl e33 G30 G25 (Or.inl (hw _ (List.mem_of_getElem? (i := 35) rfl))) (hw _ (List.mem_of_getElem? (i := 10) rfl)) (ty := .int) (by decide) rfl rfl (g := (mkF m 51 #[.val (.ref a), .val (.long tm), .second, .val (.int (plaF c1_1 o1_1 sl))] [(.int (c1_1 + (1 : Int32))), (.ref a)])) rfl rfl (hb hby d4_51)
  have G35 : Exa Z h34 a "com/example/talthybius/talthybius/AwaitedPings" := G25.wr W34
  have G36 : Fld Z h34 a "com/example/talthybius/talthybius/AwaitedPings" "timeoutNanos" "J" (.long tmo) := G26.other W34 (Or.inr (slot_ne (Or.inr (hw _ (List.mem_of_getElem? (i := 24) rfl))) (Or.inl (hw _ (List.mem_of_getElem? (i := 35) rfl))) (by decide) (t := .long) (t' := .int) (by decide) (by decide)))
  have G37 : Fld Z h34 a "com/example/talthybius/talthybius/AwaitedPings" "sentAt" "[J" (.ref aS) := G27.other W34 (Or.inr (slot_ne (Or.inl (hw _ (List.mem_of_getElem? (i := 19) rfl))) (Or.inl (hw _ (List.mem_of_getElem? (i := 35) rfl))) (by decide) (t := (.array .long)) (t' := .int) (by decide) (by decide)))
  have G38 : Fld Z h34 a "com/example/talthybius/talthybius/AwaitedPings" "answered" "[Z" (.ref aA) := G28.other W34 (Or.inr (slot_ne (Or.inl (hw _ (List.mem_of_getElem? (i := 22) rfl))) (Or.inl (hw _ (List.mem_of_getElem? (i := 35) rfl))) (by decide) (t := (.array .boolean)) (t' := .int) (by decide) (by decide)))
  have G39 : Fld Z h34 a "com/example/talthybius/talthybius/AwaitedPings" "oldest" "I" (.int o1_1) := G29.other W34 (Or.inr (slot_ne (Or.inl (hw _ (List.mem_of_getElem? (i := 41) rfl))) (Or.inl (hw _ (List.mem_of_getElem? (i := 35) rfl))) (by decide) (t := .int) (t' := .int) (by decide) (by decide)))
  have G40 : Fld Z h34 a "com/example/talthybius/talthybius/AwaitedPings" "count" "I" (.int (c1_1 + (1 : Int32))) := G30.same W34
  have G41 : VA Z h34 aS .long ((sl.set (plaF c1_1 o1_1 sl).toNatClampNeg tm).map Value.long) := G31.other W34 (Ne.symm ne_a_aS)
  have G42 : VA Z h34 aA .boolean ((al.set (plaF c1_1 o1_1 sl).toNatClampNeg (0 : Int32)).map Value.int) := G32.other W34 (Ne.symm ne_a_aA)
  have N34 := Fr.snoc X34 N24 g_a
  have K34 : Keep h0 h34 [a, aS, aA] := Keep.wr K24 W34 (Or.inl (List.mem_of_getElem? (i := 0) rfl))
  have Z34 : n0 ≤ h34.size := Nat.le_trans Z0 K34.1
  refine Go.step (T' := T34) (f' := (mkF m 54 #[.val (.ref a), .val (.long tm), .second, .val (.int (plaF c1_1 o1_1 sl))] [])) (fun t kt => ?_) ?_
  · show Steps p.tables e below (T6.setTop (mkF m 14 #[.val (.ref a), .val (.long tm), .second, .unset] [(.int (sl.length.toInt32)), (.int c1_1)])) _
    refine XS.icmpYes X6.here hx rfl (pc0 := 14) (pc' := 21) rfl (hb hby d4_14) rfl (feq hd8).2 (by decide) (by decide) ?_
    show Steps p.tables e below (T6.setTop (mkF m 21 #[.val (.ref a), .val (.long tm), .second, .unset] [])) _
    refine XS.aloadN X6.here hx rfl (hb hby d4_21) rfl rfl ?_
    show Steps p.tables e below (T6.setTop (mkF m 22 #[.val (.ref a), .val (.long tm), .second, .unset] [(.ref a)])) _
    refine XS.aloadN X6.here hx rfl (hb hby d4_22) rfl rfl ?_
    show Steps p.tables e below (T6.setTop (mkF m 23 #[.val (.ref a), .val (.long tm), .second, .unset] [(.ref a), (.ref a)])) _
    refine st9 _ ?_
    show Steps p.tables e below (T9.setTop (mkF m 26 #[.val (.ref a), .val (.long tm), .second, .unset] [(.int c1_1), (.ref a)])) _
    refine st10.trans ?_
    show Steps p.tables e below (T10.setTop (mkF m 29 #[.val (.ref a), .val (.long tm), .second, .unset] [(.int (plaF c1_1 o1_1 sl))])) _
    refine XS.istoreN X10.here hx rfl (hb hby d4_29) rfl (l' := #[.val (.ref a), .val (.long tm), .second, .val (.int (plaF c1_1 o1_1 sl))]) rfl ?_
    show Steps p.tables e below (T10.setTop (mkF m 30 #[.val (.ref a), .val (.long tm), .second, .val (.int (plaF c1_1 o1_1 sl))] [])) _
    refine XS.aloadN X10.here hx rfl (hb hby d4_30) rfl rfl ?_
    show Steps p.tables e below (T10.setTop (mkF m 31 #[.val (.ref a), .val (.long tm), .second, .val (.int (plaF c1_1 o1_1 sl))] [(.ref a)])) _
    refine st11 _ ?_
    show Steps p.tables e below (T11.setTop (mkF m 34 #[.val (.ref a), .val (.long tm), .second, .val (.int (plaF c1_1 o1_1 sl))] [(.ref aS)])) _
    refine XS.iloadN X11.here hx rfl (hb hby d4_34) rfl ?_
    show Steps p.tables e below (T11.setTop (mkF m 35 #[.val (.ref a), .val (.long tm), .second, .val (.int (plaF c1_1 o1_1 sl))] [(.int (plaF c1_1 o1_1 sl)), (.ref aS)])) _
    refine XS.lloadN X11.here hx rfl (hb hby d4_35) rfl ?_
    show Steps p.tables e below (T11.setTop (mkF m 36 #[.val (.ref a), .val (.long tm), .second, .val (.int (plaF c1_1 o1_1 sl))] [(.long tm), (.int (plaF c1_1 o1_1 sl)), (.ref aS)])) _
    refine st13 _ ?_
    show Steps p.tables e below (T13.setTop (mkF m 37 #[.val (.ref a), .val (.long tm), .second, .val (.int (plaF c1_1 o1_1 sl))] [])) _
    refine XS.aloadN X13.here hx rfl (hb hby d4_37) rfl rfl ?_
    show Steps p.tables e below (T13.setTop (mkF m 38 #[.val (.ref a), .val (.long tm), .second, .val (.int (plaF c1_1 o1_1 sl))] [(.ref a)])) _
    refine st22 _ ?_
    show Steps p.tables e below (T22.setTop (mkF m 41 #[.val (.ref a), .val (.long tm), .second, .val (.int (plaF c1_1 o1_1 sl))] [(.ref aA)])) _
    refine XS.iloadN X22.here hx rfl (hb hby d4_41) rfl ?_
    show Steps p.tables e below (T22.setTop (mkF m 42 #[.val (.ref a), .val (.long tm), .second, .val (.int (plaF c1_1 o1_1 sl))] [(.int (plaF c1_1 o1_1 sl)), (.ref aA)])) _
    refine XS.iconst X22.here hx rfl (hb hby d4_42) ?_
    show Steps p.tables e below (T22.setTop (mkF m 43 #[.val (.ref a), .val (.long tm), .second, .val (.int (plaF c1_1 o1_1 sl))] [(.int (0 : Int32)), (.int (plaF c1_1 o1_1 sl)), (.ref aA)])) _
    refine st24 _ ?_
    show Steps p.tables e below (T24.setTop (mkF m 44 #[.val (.ref a), .val (.long tm), .second, .val (.int (plaF c1_1 o1_1 sl))] [])) _
    refine XS.aloadN X24.here hx rfl (hb hby d4_44) rfl rfl ?_
    show Steps p.tables e below (T24.setTop (mkF m 45 #[.val (.ref a), .val (.long tm), .second, .val (.int (plaF c1_1 o1_1 sl))] [(.ref a)])) _
    refine XS.dup X24.here hx rfl (hb hby d4_45) rfl rfl ?_
    show Steps p.tables e below (T24.setTop (mkF m 46 #[.val (.ref a), .val (.long tm), .second, .val (.int (plaF c1_1 o1_1 sl))] [(.ref a), (.ref a)])) _
    refine st33 _ ?_
    show Steps p.tables e below (T33.setTop (mkF m 49 #[.val (.ref a), .val (.long tm), .second, .val (.int (plaF c1_1 o1_1 sl))] [(.int c1_1), (.ref a)])) _
    refine XS.iconst X33.here hx rfl (hb hby d4_49) ?_
    show Steps p.tables e below (T33.setTop (mkF m 50 #[.val (.ref a), .val (.long tm), .second, .val (.int (plaF c1_1 o1_1 sl))] [(.int (1 : Int32)), (.int c1_1), (.ref a)])) _
    refine XS.iadd X33.here hx rfl (hb hby d4_50) rfl ?_
    show Steps p.tables e below (T33.setTop (mkF m 51 #[.val (.ref a), .val (.long tm), .second, .val (.int (plaF c1_1 o1_1 sl))] [(.int (c1_1 + (1 : Int32))), (.ref a)])) _
    refine st34 _ ?_
    exact kt
  refine Go.fin X34 (v := none) (fun _ => rfl) Bd.notSynchronized ?_ (Nat.le_trans (Nat.add_le_add_right (Nat.add_le_add_right (Nat.le_refl 0) 0) 0) (by decide)) (Nat.le_trans (Nat.add_le_add_right (Nat.add_le_add_right (Nat.le_refl 0) 0) 0) (by decide)) (fun fs hr => X34.returnOut hx Bd.returns (hb hby d4_54) hr)
  · show QsenN Z a tm aS aA tmo old cnt sl al NN q h0 n0 _ T34.heap _
    rw [e34]
    exact ⟨o1_1, (c1_1 + (1 : Int32)), (sl.set (plaF c1_1 o1_1 sl).toNatClampNeg tm), (al.set (plaF c1_1 o1_1 sl).toNatClampNeg (0 : Int32)), rfl, N34, K34, G36, G37, G38, G39, G40, G41, G42, own_s3 hF hlt⟩
theorem d10_0 : decode prog_10_method_8_code 0 = .ok (.aload_n 0, 1) := by decide +kernel
theorem d10_1 : decode prog_10_method_8_code 1 = .ok (.getfield 9, 3) := by decide +kernel
theorem d10_4 : decode prog_10_method_8_code 4 = .ok (.arraylength, 1) := by decide +kernel
theorem d10_5 : decode prog_10_method_8_code 5 = .ok (.iconst 2, 1) := by decide +kernel
theorem d10_6 : decode prog_10_method_8_code 6 = .ok (.imul, 1) := by decide +kernel
theorem d10_7 : decode prog_10_method_8_code 7 = .ok (.newarray .long, 2) := by decide +kernel
theorem d10_9 : decode prog_10_method_8_code 9 = .ok (.astore_n 1, 1) := by decide +kernel
theorem d10_10 : decode prog_10_method_8_code 10 = .ok (.aload_n 0, 1) := by decide +kernel
theorem d10_11 : decode prog_10_method_8_code 11 = .ok (.getfield 9, 3) := by decide +kernel
theorem d10_14 : decode prog_10_method_8_code 14 = .ok (.arraylength, 1) := by decide +kernel
theorem d10_15 : decode prog_10_method_8_code 15 = .ok (.iconst 2, 1) := by decide +kernel
theorem d10_16 : decode prog_10_method_8_code 16 = .ok (.imul, 1) := by decide +kernel
theorem d10_17 : decode prog_10_method_8_code 17 = .ok (.newarray .boolean, 2) := by decide +kernel
theorem d10_19 : decode prog_10_method_8_code 19 = .ok (.astore_n 2, 1) := by decide +kernel
theorem d10_20 : decode prog_10_method_8_code 20 = .ok (.iconst 0, 1) := by decide +kernel
theorem d10_21 : decode prog_10_method_8_code 21 = .ok (.istore_n 3, 1) := by decide +kernel
theorem d10_22 : decode prog_10_method_8_code 22 = .ok (.iload_n 3, 1) := by decide +kernel
theorem d10_23 : decode prog_10_method_8_code 23 = .ok (.aload_n 0, 1) := by decide +kernel
theorem d10_24 : decode prog_10_method_8_code 24 = .ok (.getfield 25, 3) := by decide +kernel
theorem d10_27 : decode prog_10_method_8_code 27 = .ok (.if_icmp .ge 36, 3) := by decide +kernel
theorem d10_30 : decode prog_10_method_8_code 30 = .ok (.aload_n 0, 1) := by decide +kernel
theorem d10_31 : decode prog_10_method_8_code 31 = .ok (.iload_n 3, 1) := by decide +kernel
theorem d10_32 : decode prog_10_method_8_code 32 = .ok (.invokevirtual 32, 3) := by decide +kernel
theorem d10_35 : decode prog_10_method_8_code 35 = .ok (.istore 4, 2) := by decide +kernel
theorem d10_37 : decode prog_10_method_8_code 37 = .ok (.aload_n 1, 1) := by decide +kernel
theorem d10_38 : decode prog_10_method_8_code 38 = .ok (.iload_n 3, 1) := by decide +kernel
theorem d10_39 : decode prog_10_method_8_code 39 = .ok (.aload_n 0, 1) := by decide +kernel
theorem d10_40 : decode prog_10_method_8_code 40 = .ok (.getfield 9, 3) := by decide +kernel
theorem d10_43 : decode prog_10_method_8_code 43 = .ok (.iload 4, 2) := by decide +kernel
theorem d10_45 : decode prog_10_method_8_code 45 = .ok (.laload, 1) := by decide +kernel
theorem d10_46 : decode prog_10_method_8_code 46 = .ok (.lastore, 1) := by decide +kernel
theorem d10_47 : decode prog_10_method_8_code 47 = .ok (.aload_n 2, 1) := by decide +kernel
theorem d10_48 : decode prog_10_method_8_code 48 = .ok (.iload_n 3, 1) := by decide +kernel
theorem d10_49 : decode prog_10_method_8_code 49 = .ok (.aload_n 0, 1) := by decide +kernel
theorem d10_50 : decode prog_10_method_8_code 50 = .ok (.getfield 13, 3) := by decide +kernel
theorem d10_53 : decode prog_10_method_8_code 53 = .ok (.iload 4, 2) := by decide +kernel
theorem d10_55 : decode prog_10_method_8_code 55 = .ok (.baload, 1) := by decide +kernel
theorem d10_56 : decode prog_10_method_8_code 56 = .ok (.bastore, 1) := by decide +kernel
theorem d10_57 : decode prog_10_method_8_code 57 = .ok (.iinc 3 1, 3) := by decide +kernel
theorem d10_60 : decode prog_10_method_8_code 60 = .ok (.goto (-38), 3) := by decide +kernel
theorem d10_63 : decode prog_10_method_8_code 63 = .ok (.aload_n 0, 1) := by decide +kernel
theorem d10_64 : decode prog_10_method_8_code 64 = .ok (.aload_n 1, 1) := by decide +kernel
theorem d10_65 : decode prog_10_method_8_code 65 = .ok (.putfield 9, 3) := by decide +kernel
theorem d10_68 : decode prog_10_method_8_code 68 = .ok (.aload_n 0, 1) := by decide +kernel
theorem d10_69 : decode prog_10_method_8_code 69 = .ok (.aload_n 2, 1) := by decide +kernel
theorem d10_70 : decode prog_10_method_8_code 70 = .ok (.putfield 13, 3) := by decide +kernel
theorem d10_73 : decode prog_10_method_8_code 73 = .ok (.aload_n 0, 1) := by decide +kernel
theorem d10_74 : decode prog_10_method_8_code 74 = .ok (.iconst 0, 1) := by decide +kernel
theorem d10_75 : decode prog_10_method_8_code 75 = .ok (.putfield 40, 3) := by decide +kernel
theorem d10_78 : decode prog_10_method_8_code 78 = .ok (.return_, 1) := by decide +kernel
theorem ef_groA (m : MethodId) (x0 : Addr) : entryFrame m #[(.ref x0)] 5 = mkF m 0 #[.val (.ref x0), .unset, .unset, .unset, .unset] [] := by first | (simp [entryFrame, mkF, argsToLocals, Value.category]; done) | rfl
def QgroA (Z : State) (a : Addr) (aS : Addr) (aA : Addr) (tmo : Int64) (old : Int32) (cnt : Int32) (sl : List Int64) (al : List Int32) (q : List (Int64 × Int32)) (h0 : Heap) (n0 : Nat) (v : Option Value) (h : Heap) (L : List Loc) : Prop := ∃ (s2 : Addr), ∃ (a2 : Addr), ∃ (sl2 : List Int64), ∃ (al2 : List Int32), v = none ∧ Fr n0 L ∧ Keep h0 h [a] ∧ h0.size ≤ s2 ∧ h0.size ≤ a2 ∧ s2 ≠ a2 ∧ Fld Z h a "com/example/talthybius/talthybius/AwaitedPings" "timeoutNanos" "J" (.long tmo) ∧ Fld Z h a "com/example/talthybius/talthybius/AwaitedPings" "sentAt" "[J" (.ref s2) ∧ Fld Z h a "com/example/talthybius/talthybius/AwaitedPings" "answered" "[Z" (.ref a2) ∧ Fld Z h a "com/example/talthybius/talthybius/AwaitedPings" "oldest" "I" (.int (0 : Int32)) ∧ Fld Z h a "com/example/talthybius/talthybius/AwaitedPings" "count" "I" (.int cnt) ∧ VA Z h s2 .long (sl2.map Value.long) ∧ VA Z h a2 .boolean (al2.map Value.int) ∧ (own_AP 16 sl2 al2 (0 : Int32) cnt q)
set_option maxRecDepth 65536 in
set_option maxHeartbeats 40000000 in
theorem rm_groA (l : Launch) (Z : State) (a0 : Array Value) (hw : ∀ d ∈ tables_1, d.before a0 Z = true) (ws : List Jvm.Cond) (a : Addr) (aS : Addr) (aA : Addr) (tmo : Int64) (old : Int32) (cnt : Int32) (sl : List Int64) (al : List Int32) (q : List (Int64 × Int32)) (h0 : Heap) (n0 : Nat) (Z0 : n0 ≤ h0.size) (F0 : Exa Z h0 a "com/example/talthybius/talthybius/AwaitedPings") (F1 : Fld Z h0 a "com/example/talthybius/talthybius/AwaitedPings" "timeoutNanos" "J" (.long tmo)) (F2 : Fld Z h0 a "com/example/talthybius/talthybius/AwaitedPings" "sentAt" "[J" (.ref aS)) (F3 : Fld Z h0 a "com/example/talthybius/talthybius/AwaitedPings" "answered" "[Z" (.ref aA)) (F4 : Fld Z h0 a "com/example/talthybius/talthybius/AwaitedPings" "oldest" "I" (.int old)) (F5 : Fld Z h0 a "com/example/talthybius/talthybius/AwaitedPings" "count" "I" (.int cnt)) (F6 : VA Z h0 aS .long (sl.map Value.long)) (F7 : VA Z h0 aA .boolean (al.map Value.int)) (g_a : n0 ≤ a) (ne_a_aS : a ≠ aS) (ne_a_aA : a ≠ aA) (ne_aS_aA : aS ≠ aA) (hA : own_AP 8 sl al old cnt q) (h8 : q.length = 8) :
    MetFree l (⟨"com/example/talthybius/talthybius/AwaitedPings", "grow", "()V"⟩ : MethodName) (head1 (Jvm.Cond.code (⟨"com/example/talthybius/talthybius/AwaitedPings", "grow", "()V"⟩ : MethodName) prog_10_method_8_code 5 none :: ws) ({ frames := 1, cells := 2, slots := 32, locals := 14 } : Room)) (fun A_ U => A_ = #[(.ref a)] ∧ Z.Warmed39 U.vm ∧ U.heap = h0) (fun _ _ _ _ _ => True) (fun _ U o U' => ∃ v L, o = .returned v ∧ QgroA Z a aS aA tmo old cnt sl al q h0 n0 v U'.heap L ∧ FrameEnd U o U' L ({ frames := 1, cells := 2, slots := 32, locals := 14 } : Room).cells ({ frames := 1, cells := 2, slots := 32, locals := 14 } : Room).slots) := by
  refine MetFree.of_bodySF (plainFor_of_name pn_0) hisR ?_
  intro p e s m args below meth c s₁ Bd hml0 hP hK
  obtain ⟨rfl, hZ, hh⟩ := hP
  have hx := Bd.exec
  have hby := Bd.bytes
  have hml : c.maxLocals = 5 := hml0
  have hown : s.vm.findClass "com/example/talthybius/talthybius/AwaitedPings" = some m.cls := findClass_of_methodNamed Bd.named
  have hnm := (name_of_methodNamed Bd.named Bd.method).1
  have X0 : Stand p l e ({ frames := 1, cells := 2, slots := 32, locals := 14 } : Room) s m #[(.ref a)] below meth c s₁ [] 0 0 := Stand.of_body Bd
  have e0 : s₁.heap = h0 := by rw [← hh, Bd.state]; rfl
  have N0 := Fr.nil n0
  suffices HGO : Go p e below s (QgroA Z a aS aA tmo old cnt sl al q h0 n0) ({ frames := 1, cells := 2, slots := 32, locals := 14 } : Room).cells ({ frames := 1, cells := 2, slots := 32, locals := 14 } : Room).slots s₁ (mkF m 0 #[.val (.ref a), .unset, .unset, .unset, .unset] []) from Go.cast (ef_groA m a) HGO
  have S22 : ∀ (N_ : Nat) (T : State) (locs : List Loc) (cells slots : Nat) (X : Stand p l e ({ frames := 1, cells := 2, slots := 32, locals := 14 } : Room) s m #[(.ref a)] below meth c T locs cells slots) (hcl : cells ≤ 2) (hsl : slots ≤ 32) (h : Heap) (eT : T.heap = h) (N : Fr n0 locs) (x3 : Int32) (s4 : Slot) (One_s4 : One s4) (b3 : Addr) (b15 : Addr) (m1 : List Int64) (m2 : List Int32) (K : Keep h0 h [a]) (fc0 : Exa Z h a "com/example/talthybius/talthybius/AwaitedPings") (fc1 : Fld Z h a "com/example/talthybius/talthybius/AwaitedPings" "timeoutNanos" "J" (.long tmo)) (fc2 : Fld Z h a "com/example/talthybius/talthybius/AwaitedPings" "sentAt" "[J" (.ref aS)) (fc3 : Fld Z h a "com/example/talthybius/talthybius/AwaitedPings" "answered" "[Z" (.ref aA)) (fc4 : Fld Z h a "com/example/talthybius/talthybius/AwaitedPings" "oldest" "I" (.int old)) (fc5 : Fld Z h a "com/example/talthybius/talthybius/AwaitedPings" "count" "I" (.int cnt)) (fc6 : VA Z h aS .long (sl.map Value.long)) (fc7 : VA Z h aA .boolean (al.map Value.int)) (fc8 : VA Z h b3 .long (m1.map Value.long)) (fc9 : VA Z h b15 .boolean (m2.map Value.int)) (g_b3 : n0 ≤ b3) (g_b15 : n0 ≤ b15) (sz_b3 : h0.size ≤ b3) (sz_b15 : h0.size ≤ b15) (ne_a_b3 : a ≠ b3) (ne_aS_b3 : aS ≠ b3) (ne_aA_b3 : aA ≠ b3) (ne_a_b15 : a ≠ b15) (ne_aS_b15 : aS ≠ b15) (ne_aA_b15 : aA ≠ b15) (ne_b3_b15 : b3 ≠ b15) (hi : own_GI q x3 m1 m2) (hN_ : 8 - x3.toInt.toNat = N_), Go p e below s (QgroA Z a aS aA tmo old cnt sl al q h0 n0) ({ frames := 1, cells := 2, slots := 32, locals := 14 } : Room).cells ({ frames := 1, cells := 2, slots := 32, locals := 14 } : Room).slots T (mkF m 22 #[.val (.ref a), .val (.ref b3), .val (.ref b15), .val (.int x3), s4] []) := by
    intro N_; induction N_ using Nat.strongRecOn with | _ N_ IH => ?_
    intro T locs cells slots X hcl hsl h eT N x3 s4 One_s4 b3 b15 m1 m2 K fc0 fc1 fc2 fc3 fc4 fc5 fc6 fc7 fc8 fc9 g_b3 g_b15 sz_b3 sz_b15 ne_a_b3 ne_aS_b3 ne_aA_b3 ne_a_b15 ne_aS_b15 ne_aA_b15 ne_b3_b15 hi hN_
    subst hN_
    have Zh : n0 ≤ h.size := Nat.le_trans Z0 K.1
    obtain ⟨T1, X1, e1, st1⟩ := getF X hx hZ hown (host := "") (Or.inl (hw _ (List.mem_of_getElem? (i := 34) rfl))) Via.refl eT fc5 (g := (mkF m 24 #[.val (.ref a), .val (.ref b3), .val (.ref b15), .val (.int x3), s4] [(.ref a), (.int x3)])) rfl rfl (hb hby d10_24)
    refine Go.step (T' := T1) (f' := (mkF m 27 #[.val (.ref a), .val (.ref b3), .val (.ref b15), .val (.int x3), s4] [(.int cnt), (.int x3)])) (fun t kt => ?_) ?_
    · show Steps p.tables e below (T.setTop (mkF m 22 #[.val (.ref a), .val (.ref b3), .val (.ref b15), .val (.int x3), s4] [])) _
      refine XS.iloadN X.here hx rfl (hb hby d10_22) rfl ?_
      show Steps p.tables e below (T.setTop (mkF m 23 #[.val (.ref a), .val (.ref b3), .val (.ref b15), .val (.int x3), s4] [(.int x3)])) _
      refine XS.aloadN X.here hx rfl (hb hby d10_23) rfl rfl ?_
      show Steps p.tables e below (T.setTop (mkF m 24 #[.val (.ref a), .val (.ref b3), .val (.ref b15), .val (.int x3), s4] [(.ref a), (.int x3)])) _
      refine st1 _ ?_
      exact kt
    by_cases hc2 : x3 < cnt
    · have _ := hc2
      refine Go.step (T' := T1) (f' := (mkF m 30 #[.val (.ref a), .val (.ref b3), .val (.ref b15), .val (.int x3), s4] [])) (fun t kt => ?_) ?_
      · show Steps p.tables e below (T1.setTop (mkF m 27 #[.val (.ref a), .val (.ref b3), .val (.ref b15), .val (.int x3), s4] [(.int cnt), (.int x3)])) _
        refine XS.icmpNo X1.here hx rfl (hb hby d10_27) rfl (tlt hc2).2.1 ?_
        exact kt
      obtain ⟨cq3, q3, q3'⟩ := (fc0 : Exa Z h a "com/example/talthybius/talthybius/AwaitedPings").cell
      obtain ⟨_, _, ⟨T3, L3, k3, n3⟩, -, X3, ⟨Lc3, hQ3, l3, y3, z3⟩, st3⟩ := X1.privateBack hx (y := (⟨"com/example/talthybius/talthybius/AwaitedPings", "placeOf", "(I)I"⟩ : MethodName)) hown (mvT hZ (hw _ (List.mem_of_getElem? (i := 36) rfl))) (mvT hZ (hw _ (List.mem_of_getElem? (i := 37) rfl))) (own_psel (mvT hZ (hw _ (List.mem_of_getElem? (i := 10) rfl))) (Cond.privateMethod_at (mvP hZ (hw _ (List.mem_of_getElem? (i := 38) rfl)) (args := #[]))) (mvT hZ (hw _ (List.mem_of_getElem? (i := 37) rfl))) (by decide)) (Cond.privateMethod_at (mvP hZ (hw _ (List.mem_of_getElem? (i := 38) rfl)) (args := #[]))) (mvT hZ (hw _ (List.mem_of_getElem? (i := 39) rfl))) (by decide) (backOf (W := 0) (rm_plaF l Z a0 hw [] a x3 aS old sl h n0 Zh fc2 fc4 fc6 ) hZ (hw _ (List.mem_of_getElem? (i := 39) rfl)) (hw _ (List.mem_of_getElem? (i := 11) rfl)) (by decide) (by decide)) (g := (mkF m 32 #[.val (.ref a), .val (.ref b3), .val (.ref b15), .val (.int x3), s4] [(.int x3), (.ref a)])) rfl (by rw [hml]; rfl) (Steps.refl _) (a := a) (by rw [e1]; exact q3) q3' (argsL := [(.int x3)]) (rest := []) (lenOf pd_0 rfl) rfl (by show 2 * 0 + _ ≤ _; exact Nat.le_of_eq rfl) (hb hby d10_32) (fun _ _ => ⟨rfl, e1, (Nat.le_trans (Nat.add_le_add_right hcl 0) (by decide)), (Nat.le_trans (Nat.add_le_add_right hsl 0) (by decide))⟩)
      dsimp only [Pt.U, Pt.locs, Pt.cells, Pt.slots] at X3 l3 y3 z3 st3 hQ3
      subst l3 y3 z3
      obtain ⟨rfl, N3q, e3⟩ := hQ3
      have N3 := Fr.app N N3q
      obtain ⟨T4, X4, e4, st4⟩ := getF X3 hx hZ hown (host := "") (Or.inl (hw _ (List.mem_of_getElem? (i := 18) rfl))) Via.refl e3 fc2 (g := (mkF m 40 #[.val (.ref a), .val (.ref b3), .val (.ref b15), .val (.int x3), .val (.int (plaF x3 old sl))] [(.ref a), (.int x3), (.ref b3)])) rfl rfl (hb hby d10_40)
      have ix5 : 0 ≤ ((plaF x3 old sl)).toInt ∧ ((plaF x3 old sl)).toInt < ((sl).length : Int) := (own_g3 hA h8 hi (by assumption)).1
      have ix6 : 0 ≤ (x3).toInt ∧ (x3).toInt < ((m1).length : Int) := (own_g4 hA h8 hi (by assumption)).1
      obtain ⟨T7, h7, X7, e7, W7, V7, st7⟩ := putJ X4 hx hZ e4 fc8 ix6.1 ix6.2 (g := (mkF m 46 #[.val (.ref a), .val (.ref b3), .val (.ref b15), .val (.int x3), .val (.int (plaF x3 old sl))] [(.long (sl.getD (plaF x3 old sl).toNatClampNeg (0 : Int64))), (.int x3), (.ref b3)])) rfl rfl (hb hby d10_46)
      have G8 : Exa Z h7 a "com/example/talthybius/talthybius/AwaitedPings" := fc0.wr W7
      have G9 : Fld Z h7 a "com/example/talthybius/talthybius/AwaitedPings" "timeoutNanos" "J" (.long tmo) := fc1.other W7 (Or.inl ne_a_b3)
      have G10 : Fld Z h7 a "com/example/talthybius/talthybius/AwaitedPings" "sentAt" "[J" (.ref aS) := fc2.other W7 (Or.inl ne_a_b3)
      have G11 : Fld Z h7 a "com/example/talthybius/talthybius/AwaitedPings" "answered" "[Z" (.ref aA) := fc3.other W7 (Or.inl ne_a_b3)
      have G12 : Fld Z h7 a "com/example/talthybius/talthybius/AwaitedPings" "oldest" "I" (.int old) := fc4.other W7 (Or.inl ne_a_b3)
      have G13 : Fld Z h7 a "com/example/talthybius/talthybius/AwaitedPings" "count" "I" (.int cnt) := fc5.other W7 (Or.inl ne_a_b3)
      have G14 : VA Z h7 aS .long (sl.map Value.long) := fc6.other W7 ne_aS_b3
      have G15 : VA Z h7 aA .boolean (al.map Value.int) := fc7.other W7 ne_aA_b3
      have G16 : VA Z h7 b3 .long ((m1.set x3.toNatClampNeg (sl.getD (plaF x3 old sl).toNatClampNeg (0 : Int64))).map Value.long) := V7
      have G17 : VA Z h7 b15 .boolean (m2.map Value.int) := fc9.other W7 (Ne.symm ne_b3_b15)
      have N7 := Fr.snoc X7 N3 g_b3
      have K7 : Keep h0 h7 [a] := Keep.wr K W7 (Or.inr sz_b3)
      have Z7 : n0 ≤ h7.size := Nat.le_trans Z0 K7.1
      obtain ⟨T18, X18, e18, st18⟩ := getF X7 hx hZ hown (host := "") (Or.inl (hw _ (List.mem_of_getElem? (i := 21) rfl))) Via.refl e7 G11 (g := (mkF m 50 #[.val (.ref a), .val (.ref b3), .val (.ref b15), .val (.int x3), .val (.int (plaF x3 old sl))] [(.ref a), (.int x3), (.ref b15)])) rfl rfl (hb hby d10_50)
      have ix19 : 0 ≤ ((plaF x3 old sl)).toInt ∧ ((plaF x3 old sl)).toInt < ((al).length : Int) := (own_g3 hA h8 hi (by assumption)).2
      have ix20 : 0 ≤ (x3).toInt ∧ (x3).toInt < ((m2).length : Int) := (own_g4 hA h8 hi (by assumption)).2
      obtain ⟨T21, h21, X21, e21, W21, V21, st21⟩ := putZ X18 hx hZ e18 G17 ix20.1 ix20.2 (g := (mkF m 56 #[.val (.ref a), .val (.ref b3), .val (.ref b15), .val (.int x3), .val (.int (plaF x3 old sl))] [(.int (al.getD (plaF x3 old sl).toNatClampNeg (0 : Int32))), (.int x3), (.ref b15)])) rfl rfl (hb hby d10_56)
      have G22 : Exa Z h21 a "com/example/talthybius/talthybius/AwaitedPings" := G8.wr W21
      have G23 : Fld Z h21 a "com/example/talthybius/talthybius/AwaitedPings" "timeoutNanos" "J" (.long tmo) := G9.other W21 (Or.inl ne_a_b15)
      have G24 : Fld Z h21 a "com/example/talthybius/talthybius/AwaitedPings" "sentAt" "[J" (.ref aS) := G10.other W21 (Or.inl ne_a_b15)
      have G25 : Fld Z h21 a "com/example/talthybius/talthybius/AwaitedPings" "answered" "[Z" (.ref aA) := G11.other W21 (Or.inl ne_a_b15)
      have G26 : Fld Z h21 a "com/example/talthybius/talthybius/AwaitedPings" "oldest" "I" (.int old) := G12.other W21 (Or.inl ne_a_b15)
      have G27 : Fld Z h21 a "com/example/talthybius/talthybius/AwaitedPings" "count" "I" (.int cnt) := G13.other W21 (Or.inl ne_a_b15)
      have G28 : VA Z h21 aS .long (sl.map Value.long) := G14.other W21 ne_aS_b15
      have G29 : VA Z h21 aA .boolean (al.map Value.int) := G15.other W21 ne_aA_b15
      have G30 : VA Z h21 b3 .long ((m1.set x3.toNatClampNeg (sl.getD (plaF x3 old sl).toNatClampNeg (0 : Int64))).map Value.long) := G16.other W21 ne_b3_b15
      have G31 : VA Z h21 b15 .boolean ((m2.set x3.toNatClampNeg (nar .boolean (al.getD (plaF x3 old sl).toNatClampNeg (0 : Int32)))).map Value.int) := V21
      have N21 := Fr.snoc X21 N7 g_b15
      have K21 : Keep h0 h21 [a] := Keep.wr K7 W21 (Or.inr sz_b15)
      have Z21 : n0 ≤ h21.size := Nat.le_trans Z0 K21.1
      refine Go.step (T' := T21) (f' := (mkF m 22 #[.val (.ref a), .val (.ref b3), .val (.ref b15), .val (.int (x3 + (1 : Int32))), .val (.int (plaF x3 old sl))] [])) (fun t kt => ?_) ?_
      · show Steps p.tables e below (T1.setTop (mkF m 30 #[.val (.ref a), .val (.ref b3), .val (.ref b15), .val (.int x3), s4] [])) _
        refine XS.aloadN X1.here hx rfl (hb hby d10_30) rfl rfl ?_
        show Steps p.tables e below (T1.setTop (mkF m 31 #[.val (.ref a), .val (.ref b3), .val (.ref b15), .val (.int x3), s4] [(.ref a)])) _
        refine XS.iloadN X1.here hx rfl (hb hby d10_31) rfl ?_
        show Steps p.tables e below (T1.setTop (mkF m 32 #[.val (.ref a), .val (.ref b3), .val (.ref b15), .val (.int x3), s4] [(.int x3), (.ref a)])) _
        refine st3.trans ?_
        show Steps p.tables e below (T3.setTop (mkF m 35 #[.val (.ref a), .val (.ref b3), .val (.ref b15), .val (.int x3), s4] [(.int (plaF x3 old sl))])) _
        refine XS.istoreS X3.here hx rfl (hb hby d10_35) rfl rfl One_s4 ?_
        show Steps p.tables e below (T3.setTop (mkF m 37 #[.val (.ref a), .val (.ref b3), .val (.ref b15), .val (.int x3), .val (.int (plaF x3 old sl))] [])) _
        refine XS.aloadN X3.here hx rfl (hb hby d10_37) rfl rfl ?_
        show Steps p.tables e below (T3.setTop (mkF m 38 #[.val (.ref a), .val (.ref b3), .val (.ref b15), .val (.int x3), .val (.int (plaF x3 old sl))] [(.ref b3)])) _
        refine XS.iloadN X3.here hx rfl (hb hby d10_38) rfl ?_
        show Steps p.tables e below (T3.setTop (mkF m 39 #[.val (.ref a), .val (.ref b3), .val (.ref b15), .val (.int x3), .val (.int (plaF x3 old sl))] [(.int x3), (.ref b3)])) _
        refine XS.aloadN X3.here hx rfl (hb hby d10_39) rfl rfl ?_
        show Steps p.tables e below (T3.setTop (mkF m 40 #[.val (.ref a), .val (.ref b3), .val (.ref b15), .val (.int x3), .val (.int (plaF x3 old sl))] [(.ref a), (.int x3), (.ref b3)])) _
        refine st4 _ ?_
        show Steps p.tables e below (T4.setTop (mkF m 43 #[.val (.ref a), .val (.ref b3), .val (.ref b15), .val (.int x3), .val (.int (plaF x3 old sl))] [(.ref aS), (.int x3), (.ref b3)])) _
        refine XS.iload X4.here hx rfl (hb hby d10_43) rfl ?_
        show Steps p.tables e below (T4.setTop (mkF m 45 #[.val (.ref a), .val (.ref b3), .val (.ref b15), .val (.int x3), .val (.int (plaF x3 old sl))] [(.int (plaF x3 old sl)), (.ref aS), (.int x3), (.ref b3)])) _
        refine ldJ X4 hx hZ e4 fc6 ix5.1 ix5.2 (g := (mkF m 45 #[.val (.ref a), .val (.ref b3), .val (.ref b15), .val (.int x3), .val (.int (plaF x3 old sl))] [(.int (plaF x3 old sl)), (.ref aS), (.int x3), (.ref b3)])) rfl rfl (hb hby d10_45) _ ?_
        show Steps p.tables e below (T4.setTop (mkF m 46 #[.val (.ref a), .val (.ref b3), .val (.ref b15), .val (.int x3), .val (.int (plaF x3 old sl))] [(.long (sl.getD (plaF x3 old sl).toNatClampNeg (0 : Int64))), (.int x3), (.ref b3)])) _
        refine st7 _ ?_
        show Steps p.tables e below (T7.setTop (mkF m 47 #[.val (.ref a), .val (.ref b3), .val (.ref b15), .val (.int x3), .val (.int (plaF x3 old sl))] [])) _
        refine XS.aloadN X7.here hx rfl (hb hby d10_47) rfl rfl ?_
        show Steps p.tables e below (T7.setTop (mkF m 48 #[.val (.ref a), .val (.ref b3), .val (.ref b15), .val (.int x3), .val (.int (plaF x3 old sl))] [(.ref b15)])) _
        refine XS.iloadN X7.here hx rfl (hb hby d10_48) rfl ?_
        show Steps p.tables e below (T7.setTop (mkF m 49 #[.val (.ref a), .val (.ref b3), .val (.ref b15), .val (.int x3), .val (.int (plaF x3 old sl))] [(.int x3), (.ref b15)])) _
        refine XS.aloadN X7.here hx rfl (hb hby d10_49) rfl rfl ?_
        show Steps p.tables e below (T7.setTop (mkF m 50 #[.val (.ref a), .val (.ref b3), .val (.ref b15), .val (.int x3), .val (.int (plaF x3 old sl))] [(.ref a), (.int x3), (.ref b15)])) _
        refine st18 _ ?_
        show Steps p.tables e below (T18.setTop (mkF m 53 #[.val (.ref a), .val (.ref b3), .val (.ref b15), .val (.int x3), .val (.int (plaF x3 old sl))] [(.ref aA), (.int x3), (.ref b15)])) _
        refine XS.iload X18.here hx rfl (hb hby d10_53) rfl ?_
        show Steps p.tables e below (T18.setTop (mkF m 55 #[.val (.ref a), .val (.ref b3), .val (.ref b15), .val (.int x3), .val (.int (plaF x3 old sl))] [(.int (plaF x3 old sl)), (.ref aA), (.int x3), (.ref b15)])) _
        refine ldZ X18 hx hZ e18 G15 ix19.1 ix19.2 (g := (mkF m 55 #[.val (.ref a), .val (.ref b3), .val (.ref b15), .val (.int x3), .val (.int (plaF x3 old sl))] [(.int (plaF x3 old sl)), (.ref aA), (.int x3), (.ref b15)])) rfl rfl (hb hby d10_55) _ ?_
        show Steps p.tables e below (T18.setTop (mkF m 56 #[.val (.ref a), .val (.ref b3), .val (.ref b15), .val (.int x3), .val (.int (plaF x3 old sl))] [(.int (al.getD (plaF x3 old sl).toNatClampNeg (0 : Int32))), (.int x3), (.ref b15)])) _
        refine st21 _ ?_
        show Steps p.tables e below (T21.setTop (mkF m 57 #[.val (.ref a), .val (.ref b3), .val (.ref b15), .val (.int x3), .val (.int (plaF x3 old sl))] [])) _
        refine XS.iinc X21.here hx rfl (hb hby d10_57) rfl (l' := #[.val (.ref a), .val (.ref b3), .val (.ref b15), .val (.int (x3 + (1 : Int32))), .val (.int (plaF x3 old sl))]) rfl ?_
        show Steps p.tables e below (T21.setTop (mkF m 60 #[.val (.ref a), .val (.ref b3), .val (.ref b15), .val (.int (x3 + (1 : Int32))), .val (.int (plaF x3 old sl))] [])) _
        refine XS.goto X21.here hx rfl (pc0 := 60) (pc' := 22) rfl (hb hby d10_60) (by decide) (by decide) ?_
        exact kt
      exact IH _ ((own_g2 hA h8 hi (by assumption)).1) _ _ _ _ X21 (Nat.le_trans (Nat.add_le_add_right hcl 0) (by decide)) (Nat.le_trans (Nat.add_le_add_right hsl 0) (by decide)) h21 e21 N21 (x3 + (1 : Int32)) (.val (.int (plaF x3 old sl))) (One.val rfl) b3 b15 (m1.set x3.toNatClampNeg (sl.getD (plaF x3 old sl).toNatClampNeg (0 : Int64))) (m2.set x3.toNatClampNeg (nar .boolean (al.getD (plaF x3 old sl).toNatClampNeg (0 : Int32)))) K21 G22 G23 G24 G25 G26 G27 G28 G29 G30 G31 g_b3 g_b15 sz_b3 sz_b15 ne_a_b3 ne_aS_b3 ne_aA_b3 ne_a_b15 ne_aS_b15 ne_aA_b15 ne_b3_b15 (own_g2 hA h8 hi (by assumption)).2 rfl
    · have _ := hc2
      refine Go.step (T' := T1) (f' := (mkF m 63 #[.val (.ref a), .val (.ref b3), .val (.ref b15), .val (.int x3), s4] [])) (fun t kt => ?_) ?_
      · show Steps p.tables e below (T1.setTop (mkF m 27 #[.val (.ref a), .val (.ref b3), .val (.ref b15), .val (.int x3), s4] [(.int cnt), (.int x3)])) _
        refine XS.icmpYes X1.here hx rfl (pc0 := 27) (pc' := 63) rfl (hb hby d10_27) rfl (flt hc2).2.1 (by decide) (by decide) ?_
        exact kt
      obtain ⟨T32, h32, X32, e32, W32, st32⟩ := putF X1 hx hZ hown (host := "") (Or.inl (hw _ (List.mem_of_getElem? (i := 18) rfl))) Via.refl e1 fc2 fc0 (Or.inl (hw _ (List.mem_of_getElem? (i := 19) rfl))) (hw _ (List.mem_of_getElem? (i := 10) rfl)) (ty := (.array .long)) (by decide) rfl rfl (g := (mkF m 65 #[.val (.ref a), .val (.ref b3), .val (.ref b15), .val (.int x3), s4] [(.ref b3), (.ref a)])) rfl rfl (hb hby d10_65)
      have G33 : Exa Z h32 a "com/example/talthybius/talthybius/AwaitedPings" := fc0.wr W32
      have G34 : Fld Z h32 a "com/example/talthybius/talthybius/AwaitedPings" "timeoutNanos" "J" (.long tmo) := fc1.other W32 (Or.inr (slot_ne (Or.inr (hw _ (List.mem_of_getElem? (i := 24) rfl))) (Or.inl (hw _ (List.mem_of_getElem? (i := 19) rfl))) (by decide) (t := .long) (t' := (.array .long)) (by decide) (by decide)))
      have G35 : Fld Z h32 a "com/example/talthybius/talthybius/AwaitedPings" "sentAt" "[J" (.ref b3) := fc2.same W32
      have G36 : Fld Z h32 a "com/example/talthybius/talthybius/AwaitedPings" "answered" "[Z" (.ref aA) := fc3.other W32 (Or.inr (slot_ne (Or.inl (hw _ (List.mem_of_getElem? (i := 22) rfl))) (Or.inl (hw _ (List.mem_of_getElem? (i := 19) rfl))) (by decide) (t := (.array .boolean)) (t' := (.array .long)) (by decide) (by decide)))
      have G37 : Fld Z h32 a "com/example/talthybius/talthybius/AwaitedPings" "oldest" "I" (.int old) := fc4.other W32 (Or.inr (slot_ne (Or.inl (hw _ (List.mem_of_getElem? (i := 41) rfl))) (Or.inl (hw _ (List.mem_of_getElem? (i := 19) rfl))) (by decide) (t := .int) (t' := (.array .long)) (by decide) (by decide)))
      have G38 : Fld Z h32 a "com/example/talthybius/talthybius/AwaitedPings" "count" "I" (.int cnt) := fc5.other W32 (Or.inr (slot_ne (Or.inl (hw _ (List.mem_of_getElem? (i := 35) rfl))) (Or.inl (hw _ (List.mem_of_getElem? (i := 19) rfl))) (by decide) (t := .int) (t' := (.array .long)) (by decide) (by decide)))
      have G39 : VA Z h32 aS .long (sl.map Value.long) := fc6.other W32 (Ne.symm ne_a_aS)
      have G40 : VA Z h32 aA .boolean (al.map Value.int) := fc7.other W32 (Ne.symm ne_a_aA)
      have G41 : VA Z h32 b3 .long (m1.map Value.long) := fc8.other W32 (Ne.symm ne_a_b3)
      have G42 : VA Z h32 b15 .boolean (m2.map Value.int) := fc9.other W32 (Ne.symm ne_a_b15)
      have N32 := Fr.snoc X32 N g_a
      have K32 : Keep h0 h32 [a] := Keep.wr K W32 (Or.inl (List.mem_of_getElem? (i := 0) rfl))
      have Z32 : n0 ≤ h32.size := Nat.le_trans Z0 K32.1
      obtain ⟨T43, h43, X43, e43, W43, st43⟩ := putF X32 hx hZ hown (host := "") (Or.inl (hw _ (List.mem_of_getElem? (i := 21) rfl))) Via.refl e32 G36 G33 (Or.inl (hw _ (List.mem_of_getElem? (i := 22) rfl))) (hw _ (List.mem_of_getElem? (i := 10) rfl)) (ty := (.array .boolean)) (by decide) rfl rfl (g := (mkF m 70 #[.val (.ref a), .val (.ref b3), .val (.ref b15), .val (.int x3), s4] [(.ref b15), (.ref a)])) rfl rfl (hb hby d10_70)
      have G44 : Exa Z h43 a "com/example/talthybius/talthybius/AwaitedPings" := G33.wr W43
      have G45 : Fld Z h43 a "com/example/talthybius/talthybius/AwaitedPings" "timeoutNanos" "J" (.long tmo) := G34.other W43 (Or.inr (slot_ne (Or.inr (hw _ (List.mem_of_getElem? (i := 24) rfl))) (Or.inl (hw _ (List.mem_of_getElem? (i := 22) rfl))) (by decide) (t := .long) (t' := (.array .boolean)) (by decide) (by decide)))
      have G46 : Fld Z h43 a "com/example/talthybius/talthybius/AwaitedPings" "sentAt" "[J" (.ref b3) := G35.other W43 (Or.inr (slot_ne (Or.inl (hw _ (List.mem_of_getElem? (i := 19) rfl))) (Or.inl (hw _ (List.mem_of_getElem? (i := 22) rfl))) (by decide) (t := (.array .long)) (t' := (.array .boolean)) (by decide) (by decide)))
      have G47 : Fld Z h43 a "com/example/talthybius/talthybius/AwaitedPings" "answered" "[Z" (.ref b15) := G36.same W43
      have G48 : Fld Z h43 a "com/example/talthybius/talthybius/AwaitedPings" "oldest" "I" (.int old) := G37.other W43 (Or.inr (slot_ne (Or.inl (hw _ (List.mem_of_getElem? (i := 41) rfl))) (Or.inl (hw _ (List.mem_of_getElem? (i := 22) rfl))) (by decide) (t := .int) (t' := (.array .boolean)) (by decide) (by decide)))
      have G49 : Fld Z h43 a "com/example/talthybius/talthybius/AwaitedPings" "count" "I" (.int cnt) := G38.other W43 (Or.inr (slot_ne (Or.inl (hw _ (List.mem_of_getElem? (i := 35) rfl))) (Or.inl (hw _ (List.mem_of_getElem? (i := 22) rfl))) (by decide) (t := .int) (t' := (.array .boolean)) (by decide) (by decide)))
      have G50 : VA Z h43 aS .long (sl.map Value.long) := G39.other W43 (Ne.symm ne_a_aS)
      have G51 : VA Z h43 aA .boolean (al.map Value.int) := G40.other W43 (Ne.symm ne_a_aA)
      have G52 : VA Z h43 b3 .long (m1.map Value.long) := G41.other W43 (Ne.symm ne_a_b3)
      have G53 : VA Z h43 b15 .boolean (m2.map Value.int) := G42.other W43 (Ne.symm ne_a_b15)
      have N43 := Fr.snoc X43 N32 g_a
      have K43 : Keep h0 h43 [a] := Keep.wr K32 W43 (Or.inl (List.mem_of_getElem? (i := 0) rfl))
      have Z43 : n0 ≤ h43.size := Nat.le_trans Z0 K43.1
      obtain ⟨T54, h54, X54, e54, W54, st54⟩ := putF X43 hx hZ hown (host := "") (Or.inl (hw _ (List.mem_of_getElem? (i := 40) rfl))) Via.refl e43 G48 G44 (Or.inl (hw _ (List.mem_of_getElem? (i := 41) rfl))) (hw _ (List.mem_of_getElem? (i := 10) rfl)) (ty := .int) (by decide) rfl rfl (g := (mkF m 75 #[.val (.ref a), .val (.ref b3), .val (.ref b15), .val (.int x3), s4] [(.int (0 : Int32)), (.ref a)])) rfl rfl (hb hby d10_75)
      have G55 : Exa Z h54 a "com/example/talthybius/talthybius/AwaitedPings" := G44.wr W54
      have G56 : Fld Z h54 a "com/example/talthybius/talthybius/AwaitedPings" "timeoutNanos" "J" (.long tmo) := G45.other W54 (Or.inr (slot_ne (Or.inr (hw _ (List.mem_of_getElem? (i := 24) rfl))) (Or.inl (hw _ (List.mem_of_getElem? (i := 41) rfl))) (by decide) (t := .long) (t' := .int) (by decide) (by decide)))
      have G57 : Fld Z h54 a "com/example/talthybius/talthybius/AwaitedPings" "sentAt" "[J" (.ref b3) := G46.other W54 (Or.inr (slot_ne (Or.inl (hw _ (List.mem_of_getElem? (i := 19) rfl))) (Or.inl (hw _ (List.mem_of_getElem? (i := 41) rfl))) (by decide) (t := (.array .long)) (t' := .int) (by decide) (by decide)))
      have G58 : Fld Z h54 a "com/example/talthybius/talthybius/AwaitedPings" "answered" "[Z" (.ref b15) := G47.other W54 (Or.inr (slot_ne (Or.inl (hw _ (List.mem_of_getElem? (i := 22) rfl))) (Or.inl (hw _ (List.mem_of_getElem? (i := 41) rfl))) (by decide) (t := (.array .boolean)) (t' := .int) (by decide) (by decide)))
      have G59 : Fld Z h54 a "com/example/talthybius/talthybius/AwaitedPings" "oldest" "I" (.int (0 : Int32)) := G48.same W54
      have G60 : Fld Z h54 a "com/example/talthybius/talthybius/AwaitedPings" "count" "I" (.int cnt) := G49.other W54 (Or.inr (slot_ne (Or.inl (hw _ (List.mem_of_getElem? (i := 35) rfl))) (Or.inl (hw _ (List.mem_of_getElem? (i := 41) rfl))) (by decide) (t := .int) (t' := .int) (by decide) (by decide)))
      have G61 : VA Z h54 aS .long (sl.map Value.long) := G50.other W54 (Ne.symm ne_a_aS)
      have G62 : VA Z h54 aA .boolean (al.map Value.int) := G51.other W54 (Ne.symm ne_a_aA)
      have G63 : VA Z h54 b3 .long (m1.map Value.long) := G52.other W54 (Ne.symm ne_a_b3)
      have G64 : VA Z h54 b15 .boolean (m2.map Value.int) := G53.other W54 (Ne.symm ne_a_b15)
      have N54 := Fr.snoc X54 N43 g_a
      have K54 : Keep h0 h54 [a] := Keep.wr K43 W54 (Or.inl (List.mem_of_getElem? (i := 0) rfl))
      have Z54 : n0 ≤ h54.size := Nat.le_trans Z0 K54.1
      refine Go.step (T' := T54) (f' := (mkF m 78 #[.val (.ref a), .val (.ref b3), .val (.ref b15), .val (.int x3), s4] [])) (fun t kt => ?_) ?_
      · show Steps p.tables e below (T1.setTop (mkF m 63 #[.val (.ref a), .val (.ref b3), .val (.ref b15), .val (.int x3), s4] [])) _
        refine XS.aloadN X1.here hx rfl (hb hby d10_63) rfl rfl ?_
        show Steps p.tables e below (T1.setTop (mkF m 64 #[.val (.ref a), .val (.ref b3), .val (.ref b15), .val (.int x3), s4] [(.ref a)])) _
        refine XS.aloadN X1.here hx rfl (hb hby d10_64) rfl rfl ?_
        show Steps p.tables e below (T1.setTop (mkF m 65 #[.val (.ref a), .val (.ref b3), .val (.ref b15), .val (.int x3), s4] [(.ref b3), (.ref a)])) _
        refine st32 _ ?_
        show Steps p.tables e below (T32.setTop (mkF m 68 #[.val (.ref a), .val (.ref b3), .val (.ref b15), .val (.int x3), s4] [])) _
        refine XS.aloadN X32.here hx rfl (hb hby d10_68) rfl rfl ?_
        show Steps p.tables e below (T32.setTop (mkF m 69 #[.val (.ref a), .val (.ref b3), .val (.ref b15), .val (.int x3), s4] [(.ref a)])) _
        refine XS.aloadN X32.here hx rfl (hb hby d10_69) rfl rfl ?_
        show Steps p.tables e below (T32.setTop (mkF m 70 #[.val (.ref a), .val (.ref b3), .val (.ref b15), .val (.int x3), s4] [(.ref b15), (.ref a)])) _
        refine st43 _ ?_
        show Steps p.tables e below (T43.setTop (mkF m 73 #[.val (.ref a), .val (.ref b3), .val (.ref b15), .val (.int x3), s4] [])) _
        refine XS.aloadN X43.here hx rfl (hb hby d10_73) rfl rfl ?_
        show Steps p.tables e below (T43.setTop (mkF m 74 #[.val (.ref a), .val (.ref b3), .val (.ref b15), .val (.int x3), s4] [(.ref a)])) _
        refine XS.iconst X43.here hx rfl (hb hby d10_74) ?_
        show Steps p.tables e below (T43.setTop (mkF m 75 #[.val (.ref a), .val (.ref b3), .val (.ref b15), .val (.int x3), s4] [(.int (0 : Int32)), (.ref a)])) _
        refine st54 _ ?_
        exact kt
      refine Go.fin X54 (v := none) (fun _ => rfl) Bd.notSynchronized ?_ (Nat.le_trans hcl (by decide)) (Nat.le_trans hsl (by decide)) (fun fs hr => X54.returnOut hx Bd.returns (hb hby d10_78) hr)
      · show QgroA Z a aS aA tmo old cnt sl al q h0 n0 _ T54.heap _
        rw [e54]
        exact ⟨b3, b15, m1, m2, rfl, N54, K54, sz_b3, sz_b15, ne_b3_b15, G56, G57, G58, G59, G60, G63, G64, own_g5 hA h8 hi (by assumption)⟩
  obtain ⟨T65, X65, e65, st65⟩ := getF X0 hx hZ hown (host := "") (Or.inl (hw _ (List.mem_of_getElem? (i := 18) rfl))) Via.refl e0 F2 (g := (mkF m 1 #[.val (.ref a), .unset, .unset, .unset, .unset] [(.ref a)])) rfl rfl (hb hby d10_1)
  have ln66 : ((sl.map Value.long).length : Int) = ((sl.length.toInt32)).toInt := (by have q := F6.len; rw [List.length_map] at q; rw [len_toInt q, List.length_map])
  obtain ⟨T67, h67, X67, e67, E67, A67, st67⟩ := newJ X65 hx hZ (hw _ (List.mem_of_getElem? (i := 6) rfl)) e65 (g := (mkF m 7 #[.val (.ref a), .unset, .unset, .unset, .unset] [(.int ((sl.length.toInt32) * (2 : Int32)))])) rfl (hb hby d10_7) rfl (by rw [own_g0 hA]; decide) (cap := 16) (by rw [own_g0 hA]; decide) (by decide) (Nat.le_trans (Nat.add_le_add_right (Nat.le_refl 0) 1) (by decide)) (Nat.le_trans (Nat.add_le_add_right (Nat.le_refl 0) 16) (by decide))
  obtain ⟨b67, g67⟩ : ∃ z, z = h0.size := ⟨_, rfl⟩
  rw [← g67] at A67 st67
  have ne_a_b67 : a ≠ b67 := Nat.ne_of_lt (Nat.lt_of_lt_of_le F0.lt (Nat.le_of_eq g67.symm))
  have ne_aS_b67 : aS ≠ b67 := Nat.ne_of_lt (Nat.lt_of_lt_of_le F6.lt (Nat.le_of_eq g67.symm))
  have ne_aA_b67 : aA ≠ b67 := Nat.ne_of_lt (Nat.lt_of_lt_of_le F7.lt (Nat.le_of_eq g67.symm))
  have G68 : Exa Z h67 a "com/example/talthybius/talthybius/AwaitedPings" := F0.ext E67
  have G69 : Fld Z h67 a "com/example/talthybius/talthybius/AwaitedPings" "timeoutNanos" "J" (.long tmo) := F1.ext E67
  have G70 : Fld Z h67 a "com/example/talthybius/talthybius/AwaitedPings" "sentAt" "[J" (.ref aS) := F2.ext E67
  have G71 : Fld Z h67 a "com/example/talthybius/talthybius/AwaitedPings" "answered" "[Z" (.ref aA) := F3.ext E67
  have G72 : Fld Z h67 a "com/example/talthybius/talthybius/AwaitedPings" "oldest" "I" (.int old) := F4.ext E67
  have G73 : Fld Z h67 a "com/example/talthybius/talthybius/AwaitedPings" "count" "I" (.int cnt) := F5.ext E67
  have G74 : VA Z h67 aS .long (sl.map Value.long) := F6.ext E67
  have G75 : VA Z h67 aA .boolean (al.map Value.int) := F7.ext E67
  have g_b67 : n0 ≤ b67 := Nat.le_trans Z0 (Nat.le_of_eq g67.symm)
  have sz_b67 : h0.size ≤ b67 := Nat.le_trans (Keep.refl h0 [a]).1 (Nat.le_of_eq g67.symm)
  have K67 : Keep h0 h67 [a] := Keep.ext (Keep.refl h0 [a]) E67
  have Z67 : n0 ≤ h67.size := Nat.le_trans Z0 K67.1
  have G76 : VA Z h67 b67 .long ((List.replicate ((sl.length.toInt32) * (2 : Int32)).toInt.toNat (0 : Int64)).map Value.long) := A67
  obtain ⟨T77, X77, e77, st77⟩ := getF X67 hx hZ hown (host := "") (Or.inl (hw _ (List.mem_of_getElem? (i := 18) rfl))) Via.refl e67 G70 (g := (mkF m 11 #[.val (.ref a), .val (.ref b67), .unset, .unset, .unset] [(.ref a)])) rfl rfl (hb hby d10_11)
  have ln78 : ((sl.map Value.long).length : Int) = ((sl.length.toInt32)).toInt := (by have q := G74.len; rw [List.length_map] at q; rw [len_toInt q, List.length_map])
  obtain ⟨T79, h79, X79, e79, E79, A79, st79⟩ := newZ X77 hx hZ (hw _ (List.mem_of_getElem? (i := 20) rfl)) e77 (g := (mkF m 17 #[.val (.ref a), .val (.ref b67), .unset, .unset, .unset] [(.int ((sl.length.toInt32) * (2 : Int32)))])) rfl (hb hby d10_17) rfl (by rw [own_g0 hA]; decide) (cap := 16) (by rw [own_g0 hA]; decide) (by decide) (Nat.le_trans (Nat.add_le_add_right (Nat.add_le_add_right (Nat.le_refl 0) 1) 1) (by decide)) (Nat.le_trans (Nat.add_le_add_right (Nat.add_le_add_right (Nat.le_refl 0) 16) 16) (by decide))
  obtain ⟨b79, g79⟩ : ∃ z, z = h67.size := ⟨_, rfl⟩
  rw [← g79] at A79 st79
  have ne_a_b79 : a ≠ b79 := Nat.ne_of_lt (Nat.lt_of_lt_of_le G68.lt (Nat.le_of_eq g79.symm))
  have ne_aS_b79 : aS ≠ b79 := Nat.ne_of_lt (Nat.lt_of_lt_of_le G74.lt (Nat.le_of_eq g79.symm))
  have ne_aA_b79 : aA ≠ b79 := Nat.ne_of_lt (Nat.lt_of_lt_of_le G75.lt (Nat.le_of_eq g79.symm))
  have ne_b67_b79 : b67 ≠ b79 := Nat.ne_of_lt (Nat.lt_of_lt_of_le G76.lt (Nat.le_of_eq g79.symm))
  have G80 : Exa Z h79 a "com/example/talthybius/talthybius/AwaitedPings" := G68.ext E79
  have G81 : Fld Z h79 a "com/example/talthybius/talthybius/AwaitedPings" "timeoutNanos" "J" (.long tmo) := G69.ext E79
  have G82 : Fld Z h79 a "com/example/talthybius/talthybius/AwaitedPings" "sentAt" "[J" (.ref aS) := G70.ext E79
  have G83 : Fld Z h79 a "com/example/talthybius/talthybius/AwaitedPings" "answered" "[Z" (.ref aA) := G71.ext E79
  have G84 : Fld Z h79 a "com/example/talthybius/talthybius/AwaitedPings" "oldest" "I" (.int old) := G72.ext E79
  have G85 : Fld Z h79 a "com/example/talthybius/talthybius/AwaitedPings" "count" "I" (.int cnt) := G73.ext E79
  have G86 : VA Z h79 aS .long (sl.map Value.long) := G74.ext E79
  have G87 : VA Z h79 aA .boolean (al.map Value.int) := G75.ext E79
  have G88 : VA Z h79 b67 .long ((List.replicate ((sl.length.toInt32) * (2 : Int32)).toInt.toNat (0 : Int64)).map Value.long) := G76.ext E79
  have g_b79 : n0 ≤ b79 := Nat.le_trans Z67 (Nat.le_of_eq g79.symm)
  have sz_b79 : h0.size ≤ b79 := Nat.le_trans K67.1 (Nat.le_of_eq g79.symm)
  have K79 : Keep h0 h79 [a] := Keep.ext K67 E79
  have Z79 : n0 ≤ h79.size := Nat.le_trans Z0 K79.1
  have G89 : VA Z h79 b79 .boolean ((List.replicate ((sl.length.toInt32) * (2 : Int32)).toInt.toNat (0 : Int32)).map Value.int) := A79
  refine Go.step (T' := T79) (f' := (mkF m 22 #[.val (.ref a), .val (.ref b67), .val (.ref b79), .val (.int (0 : Int32)), .unset] [])) (fun t kt => ?_) ?_
  · show Steps p.tables e below (s₁.setTop (mkF m 0 #[.val (.ref a), .unset, .unset, .unset, .unset] [])) _
    refine XS.aloadN X0.here hx rfl (hb hby d10_0) rfl rfl ?_
    show Steps p.tables e below (s₁.setTop (mkF m 1 #[.val (.ref a), .unset, .unset, .unset, .unset] [(.ref a)])) _
    refine st65 _ ?_
    show Steps p.tables e below (T65.setTop (mkF m 4 #[.val (.ref a), .unset, .unset, .unset, .unset] [(.ref aS)])) _
    refine lenA X65 hx hZ e65 F6 (n := (sl.length.toInt32)) ln66 (g := (mkF m 4 #[.val (.ref a), .unset, .unset, .unset, .unset] [(.ref aS)])) rfl rfl (hb hby d10_4) _ ?_
    show Steps p.tables e below (T65.setTop (mkF m 5 #[.val (.ref a), .unset, .unset, .unset, .unset] [(.int (sl.length.toInt32))])) _
    refine XS.iconst X65.here hx rfl (hb hby d10_5) ?_
    show Steps p.tables e below (T65.setTop (mkF m 6 #[.val (.ref a), .unset, .unset, .unset, .unset] [(.int (2 : Int32)), (.int (sl.length.toInt32))])) _
    refine XS.imul X65.here hx rfl (hb hby d10_6) rfl ?_
    show Steps p.tables e below (T65.setTop (mkF m 7 #[.val (.ref a), .unset, .unset, .unset, .unset] [(.int ((sl.length.toInt32) * (2 : Int32)))])) _
    refine st67 _ ?_
    show Steps p.tables e below (T67.setTop (mkF m 9 #[.val (.ref a), .unset, .unset, .unset, .unset] [(.ref b67)])) _
    refine XS.astoreN X67.here hx rfl (hb hby d10_9) rfl rfl (l' := #[.val (.ref a), .val (.ref b67), .unset, .unset, .unset]) rfl ?_
    show Steps p.tables e below (T67.setTop (mkF m 10 #[.val (.ref a), .val (.ref b67), .unset, .unset, .unset] [])) _
    refine XS.aloadN X67.here hx rfl (hb hby d10_10) rfl rfl ?_
    show Steps p.tables e below (T67.setTop (mkF m 11 #[.val (.ref a), .val (.ref b67), .unset, .unset, .unset] [(.ref a)])) _
    refine st77 _ ?_
    show Steps p.tables e below (T77.setTop (mkF m 14 #[.val (.ref a), .val (.ref b67), .unset, .unset, .unset] [(.ref aS)])) _
    refine lenA X77 hx hZ e77 G74 (n := (sl.length.toInt32)) ln78 (g := (mkF m 14 #[.val (.ref a), .val (.ref b67), .unset, .unset, .unset] [(.ref aS)])) rfl rfl (hb hby d10_14) _ ?_
    show Steps p.tables e below (T77.setTop (mkF m 15 #[.val (.ref a), .val (.ref b67), .unset, .unset, .unset] [(.int (sl.length.toInt32))])) _
    refine XS.iconst X77.here hx rfl (hb hby d10_15) ?_
    show Steps p.tables e below (T77.setTop (mkF m 16 #[.val (.ref a), .val (.ref b67), .unset, .unset, .unset] [(.int (2 : Int32)), (.int (sl.length.toInt32))])) _
    refine XS.imul X77.here hx rfl (hb hby d10_16) rfl ?_
    show Steps p.tables e below (T77.setTop (mkF m 17 #[.val (.ref a), .val (.ref b67), .unset, .unset, .unset] [(.int ((sl.length.toInt32) * (2 : Int32)))])) _
    refine st79 _ ?_
    show Steps p.tables e below (T79.setTop (mkF m 19 #[.val (.ref a), .val (.ref b67), .unset, .unset, .unset] [(.ref b79)])) _
    refine XS.astoreN X79.here hx rfl (hb hby d10_19) rfl rfl (l' := #[.val (.ref a), .val (.ref b67), .val (.ref b79), .unset, .unset]) rfl ?_
    show Steps p.tables e below (T79.setTop (mkF m 20 #[.val (.ref a), .val (.ref b67), .val (.ref b79), .unset, .unset] [])) _
    refine XS.iconst X79.here hx rfl (hb hby d10_20) ?_
    show Steps p.tables e below (T79.setTop (mkF m 21 #[.val (.ref a), .val (.ref b67), .val (.ref b79), .unset, .unset] [(.int (0 : Int32))])) _
    refine XS.istoreN X79.here hx rfl (hb hby d10_21) rfl (l' := #[.val (.ref a), .val (.ref b67), .val (.ref b79), .val (.int (0 : Int32)), .unset]) rfl ?_
    exact kt
  exact S22 _ _ _ _ _ X79 (Nat.le_trans (Nat.add_le_add_right (Nat.add_le_add_right (Nat.le_refl 0) 1) 1) (by decide)) (Nat.le_trans (Nat.add_le_add_right (Nat.add_le_add_right (Nat.le_refl 0) 16) 16) (by decide)) h79 e79 N0 (0 : Int32) (.unset) (One.u) b67 b79 (List.replicate ((sl.length.toInt32) * (2 : Int32)).toInt.toNat (0 : Int64)) (List.replicate ((sl.length.toInt32) * (2 : Int32)).toInt.toNat (0 : Int32)) K79 G80 G81 G82 G83 G84 G85 G86 G87 G88 G89 g_b67 g_b79 sz_b67 sz_b79 ne_a_b67 ne_aS_b67 ne_aA_b67 ne_a_b79 ne_aS_b79 ne_aA_b79 ne_b67_b79 (own_g1 hA) rfl
theorem pd_3 : parseMethodDescriptor "()V" = some ⟨[], none⟩ := by decide +kernel
theorem d4_17 : decode prog_10_method_2_code 17 = .ok (.aload_n 0, 1) := by decide +kernel
theorem d4_18 : decode prog_10_method_2_code 18 = .ok (.invokevirtual 29, 3) := by decide +kernel
theorem ef_senG (m : MethodId) (x0 : Addr) (x1 : Int64) : entryFrame m #[(.ref x0), (.long x1)] 4 = mkF m 0 #[.val (.ref x0), .val (.long x1), .second, .unset] [] := by first | (simp [entryFrame, mkF, argsToLocals, Value.category]; done) | rfl
def QsenG (Z : State) (a : Addr) (tm : Int64) (aS : Addr) (aA : Addr) (tmo : Int64) (old : Int32) (cnt : Int32) (sl : List Int64) (al : List Int32) (q : List (Int64 × Int32)) (h0 : Heap) (n0 : Nat) (v : Option Value) (h : Heap) (L : List Loc) : Prop := ∃ (s2 : Addr), ∃ (a2 : Addr), ∃ (o1 : Int32), ∃ (c1 : Int32), ∃ (sl1 : List Int64), ∃ (al1 : List Int32), v = none ∧ Fr n0 L ∧ Keep h0 h [a] ∧ h0.size ≤ s2 ∧ h0.size ≤ a2 ∧ s2 ≠ a2 ∧ Fld Z h a "com/example/talthybius/talthybius/AwaitedPings" "timeoutNanos" "J" (.long tmo) ∧ Fld Z h a "com/example/talthybius/talthybius/AwaitedPings" "sentAt" "[J" (.ref s2) ∧ Fld Z h a "com/example/talthybius/talthybius/AwaitedPings" "answered" "[Z" (.ref a2) ∧ Fld Z h a "com/example/talthybius/talthybius/AwaitedPings" "oldest" "I" (.int o1) ∧ Fld Z h a "com/example/talthybius/talthybius/AwaitedPings" "count" "I" (.int c1) ∧ VA Z h s2 .long (sl1.map Value.long) ∧ VA Z h a2 .boolean (al1.map Value.int) ∧ (own_AP 16 sl1 al1 o1 c1 (own_dr tm tmo q ++ [(tm, 0)]))
set_option maxRecDepth 65536 in
set_option maxHeartbeats 40000000 in
theorem rm_senG (l : Launch) (Z : State) (a0 : Array Value) (hw : ∀ d ∈ tables_1, d.before a0 Z = true) (ws : List Jvm.Cond) (a : Addr) (tm : Int64) (aS : Addr) (aA : Addr) (tmo : Int64) (old : Int32) (cnt : Int32) (sl : List Int64) (al : List Int32) (q : List (Int64 × Int32)) (h0 : Heap) (n0 : Nat) (Z0 : n0 ≤ h0.size) (F0 : Exa Z h0 a "com/example/talthybius/talthybius/AwaitedPings") (F1 : Fld Z h0 a "com/example/talthybius/talthybius/AwaitedPings" "timeoutNanos" "J" (.long tmo)) (F2 : Fld Z h0 a "com/example/talthybius/talthybius/AwaitedPings" "sentAt" "[J" (.ref aS)) (F3 : Fld Z h0 a "com/example/talthybius/talthybius/AwaitedPings" "answered" "[Z" (.ref aA)) (F4 : Fld Z h0 a "com/example/talthybius/talthybius/AwaitedPings" "oldest" "I" (.int old)) (F5 : Fld Z h0 a "com/example/talthybius/talthybius/AwaitedPings" "count" "I" (.int cnt)) (F6 : VA Z h0 aS .long (sl.map Value.long)) (F7 : VA Z h0 aA .boolean (al.map Value.int)) (g_a : n0 ≤ a) (ne_a_aS : a ≠ aS) (ne_a_aA : a ≠ aA) (ne_aS_aA : aS ≠ aA) (hA : own_AP 8 sl al old cnt q) (h8 : (own_dr tm tmo q).length = 8) :
    MetFree l (⟨"com/example/talthybius/talthybius/AwaitedPings", "sent", "(J)V"⟩ : MethodName) (head1 (Jvm.Cond.code (⟨"com/example/talthybius/talthybius/AwaitedPings", "sent", "(J)V"⟩ : MethodName) prog_10_method_2_code 4 none :: ws) ({ frames := 2, cells := 2, slots := 32, locals := 30 } : Room)) (fun A_ U => A_ = #[(.ref a), (.long tm)] ∧ Z.Warmed39 U.vm ∧ U.heap = h0) (fun _ _ _ _ _ => True) (fun _ U o U' => ∃ v L, o = .returned v ∧ QsenG Z a tm aS aA tmo old cnt sl al q h0 n0 v U'.heap L ∧ FrameEnd U o U' L ({ frames := 2, cells := 2, slots := 32, locals := 30 } : Room).cells ({ frames := 2, cells := 2, slots := 32, locals := 30 } : Room).slots) := by
  refine MetFree.of_bodySF (plainFor_of_name pn_0) hisR ?_
  intro p e s m args below meth c s₁ Bd hml0 hP hK
  obtain ⟨rfl, hZ, hh⟩ := hP
  have hx := Bd.exec
  have hby := Bd.bytes
  have hml : c.maxLocals = 4 := hml0
  have hown : s.vm.findClass "com/example/talthybius/talthybius/AwaitedPings" = some m.cls := findClass_of_methodNamed Bd.named
  have hnm := (name_of_methodNamed Bd.named Bd.method).1
  have X0 : Stand p l e ({ frames := 2, cells := 2, slots := 32, locals := 30 } : Room) s m #[(.ref a), (.long tm)] below meth c s₁ [] 0 0 := Stand.of_body Bd
  have e0 : s₁.heap = h0 := by rw [← hh, Bd.state]; rfl
  have N0 := Fr.nil n0
  suffices HGO : Go p e below s (QsenG Z a tm aS aA tmo old cnt sl al q h0 n0) ({ frames := 2, cells := 2, slots := 32, locals := 30 } : Room).cells ({ frames := 2, cells := 2, slots := 32, locals := 30 } : Room).slots s₁ (mkF m 0 #[.val (.ref a), .val (.long tm), .second, .unset] []) from Go.cast (ef_senG m a tm) HGO
  obtain ⟨cq1, q1, q1'⟩ := (F0 : Exa Z h0 a "com/example/talthybius/talthybius/AwaitedPings").cell
  obtain ⟨_, _, ⟨T1, L1, k1, n1⟩, -, X1, ⟨Lc1, hQ1, l1, y1, z1⟩, st1⟩ := X0.privateBack hx (y := (⟨"com/example/talthybius/talthybius/AwaitedPings", "forget", "(J)V"⟩ : MethodName)) hown (mvT hZ (hw _ (List.mem_of_getElem? (i := 30) rfl))) (mvT hZ (hw _ (List.mem_of_getElem? (i := 31) rfl))) (own_psel (mvT hZ (hw _ (List.mem_of_getElem? (i := 10) rfl))) (Cond.privateMethod_at (mvP hZ (hw _ (List.mem_of_getElem? (i := 32) rfl)) (args := #[]))) (mvT hZ (hw _ (List.mem_of_getElem? (i := 31) rfl))) (by decide)) (Cond.privateMethod_at (mvP hZ (hw _ (List.mem_of_getElem? (i := 32) rfl)) (args := #[]))) (mvT hZ (hw _ (List.mem_of_getElem? (i := 33) rfl))) (by decide) (backOf (W := 0) (rm_fgtA l Z a0 hw [] a tm aS aA tmo old cnt sl al 8 q h0 n0 Z0 F0 F1 F2 F3 F4 F5 F6 F7 g_a ne_a_aS ne_a_aA ne_aS_aA hA) hZ (hw _ (List.mem_of_getElem? (i := 33) rfl)) (hw _ (List.mem_of_getElem? (i := 11) rfl)) (by decide) (by decide)) (g := (mkF m 2 #[.val (.ref a), .val (.long tm), .second, .unset] [(.long tm), (.ref a)])) rfl (by rw [hml]; rfl) (Steps.refl _) (a := a) (by rw [e0]; exact q1) q1' (argsL := [(.long tm)]) (rest := []) (lenOf pd_1 rfl) rfl (by show 2 * 0 + _ ≤ _; exact Nat.le_of_eq rfl) (hb hby d4_2) (fun _ _ => ⟨rfl, e0, (Nat.le_trans (Nat.add_le_add_right (Nat.le_refl 0) 0) (by decide)), (Nat.le_trans (Nat.add_le_add_right (Nat.le_refl 0) 0) (by decide))⟩)
  dsimp only [Pt.U, Pt.locs, Pt.cells, Pt.slots] at X1 l1 y1 z1 st1 hQ1
  subst l1 y1 z1
  obtain ⟨o1_1, c1_1, rfl, N1q, Kq1, pf1_0, pf1_1, pf1_2, pf1_3, pf1_4, ph1_0⟩ := hQ1
  have G2 : Exa Z T1.heap a "com/example/talthybius/talthybius/AwaitedPings" := Exa.keep F0 Kq1
  have G3 : VA Z T1.heap aS .long (sl.map Value.long) := F6.keep Kq1 (ninS (Ne.symm ne_a_aS) nin0)
  have G4 : VA Z T1.heap aA .boolean (al.map Value.int) := F7.keep Kq1 (ninS (Ne.symm ne_a_aA) nin0)
  have K1 : Keep h0 T1.heap [a] := Keep.trans (Keep.refl h0 [a]) Kq1 (allS (Or.inl (List.mem_of_getElem? (i := 0) rfl)) all0)
  have Z1 : n0 ≤ T1.heap.size := Nat.le_trans Z0 K1.1
  have N1 := Fr.app N0 N1q
  have hF := ph1_0
  obtain ⟨T5, X5, e5, st5⟩ := getF X1 hx hZ hown (host := "") (Or.inl (hw _ (List.mem_of_getElem? (i := 34) rfl))) Via.refl rfl pf1_4 (g := (mkF m 6 #[.val (.ref a), .val (.long tm), .second, .unset] [(.ref a)])) rfl rfl (hb hby d4_6)
  obtain ⟨T6, X6, e6, st6⟩ := getF X5 hx hZ hown (host := "") (Or.inl (hw _ (List.mem_of_getElem? (i := 18) rfl))) Via.refl e5 pf1_1 (g := (mkF m 10 #[.val (.ref a), .val (.long tm), .second, .unset] [(.ref a), (.int c1_1)])) rfl rfl (hb hby d4_10)
  have ln7 : ((sl.map Value.long).length : Int) = ((sl.length.toInt32)).toInt := (by have q := G3.len; rw [List.length_map] at q; rw [len_toInt q, List.length_map])
  refine Go.step (T' := T6) (f' := (mkF m 14 #[.val (.ref a), .val (.long tm), .second, .unset] [(.int (sl.length.toInt32)), (.int c1_1)])) (fun t kt => ?_) ?_
  · show Steps p.tables e below (s₁.setTop (mkF m 0 #[.val (.ref a), .val (.long tm), .second, .unset] [])) _
    refine XS.aloadN X0.here hx rfl (hb hby d4_0) rfl rfl ?_
    show Steps p.tables e below (s₁.setTop (mkF m 1 #[.val (.ref a), .val (.long tm), .second, .unset] [(.ref a)])) _
    refine XS.lloadN X0.here hx rfl (hb hby d4_1) rfl ?_
    show Steps p.tables e below (s₁.setTop (mkF m 2 #[.val (.ref a), .val (.long tm), .second, .unset] [(.long tm), (.ref a)])) _
    refine st1.trans ?_
    show Steps p.tables e below (T1.setTop (mkF m 5 #[.val (.ref a), .val (.long tm), .second, .unset] [])) _
    refine XS.aloadN X1.here hx rfl (hb hby d4_5) rfl rfl ?_
    show Steps p.tables e below (T1.setTop (mkF m 6 #[.val (.ref a), .val (.long tm), .second, .unset] [(.ref a)])) _
    refine st5 _ ?_
    show Steps p.tables e below (T5.setTop (mkF m 9 #[.val (.ref a), .val (.long tm), .second, .unset] [(.int c1_1)])) _
    refine XS.aloadN X5.here hx rfl (hb hby d4_9) rfl rfl ?_
    show Steps p.tables e below (T5.setTop (mkF m 10 #[.val (.ref a), .val (.long tm), .second, .unset] [(.ref a), (.int c1_1)])) _
    refine st6 _ ?_
    show Steps p.tables e below (T6.setTop (mkF m 13 #[.val (.ref a), .val (.long tm), .second, .unset] [(.ref aS), (.int c1_1)])) _
    refine lenA X6 hx hZ e6 G3 (n := (sl.length.toInt32)) ln7 (g := (mkF m 13 #[.val (.ref a), .val (.long tm), .second, .unset] [(.ref aS), (.int c1_1)])) rfl rfl (hb hby d4_13) _ ?_
    exact kt
  have hd8 : c1_1 = (sl.length.toInt32) := own_s4 hF h8
  obtain ⟨cq9, q9, q9'⟩ := (G2 : Exa Z T1.heap a "com/example/talthybius/talthybius/AwaitedPings").cell
  obtain ⟨_, _, ⟨T9, L9, k9, n9⟩, -, X9, ⟨Lc9, hQ9, l9, y9, z9⟩, st9⟩ := X6.privateBack hx (y := (⟨"com/example/talthybius/talthybius/AwaitedPings", "grow", "()V"⟩ : MethodName)) hown (mvT hZ (hw _ (List.mem_of_getElem? (i := 55) rfl))) (mvT hZ (hw _ (List.mem_of_getElem? (i := 56) rfl))) (own_psel (mvT hZ (hw _ (List.mem_of_getElem? (i := 10) rfl))) (Cond.privateMethod_at (mvP hZ (hw _ (List.mem_of_getElem? (i := 57) rfl)) (args := #[]))) (mvT hZ (hw _ (List.mem_of_getElem? (i := 56) rfl))) (by decide)) (Cond.privateMethod_at (mvP hZ (hw _ (List.mem_of_getElem? (i := 57) rfl)) (args := #[]))) (mvT hZ (hw _ (List.mem_of_getElem? (i := 58) rfl))) (by decide) (backOf (W := 0) (rm_groA l Z a0 hw [] a aS aA tmo o1_1 c1_1 sl al (own_dr tm tmo q) T1.heap n0 Z1 G2 pf1_0 pf1_1 pf1_2 pf1_3 pf1_4 G3 G4 g_a ne_a_aS ne_a_aA ne_aS_aA hF h8) hZ (hw _ (List.mem_of_getElem? (i := 58) rfl)) (hw _ (List.mem_of_getElem? (i := 11) rfl)) (by decide) (by decide)) (g := (mkF m 18 #[.val (.ref a), .val (.long tm), .second, .unset] [(.ref a)])) rfl (by rw [hml]; rfl) (Steps.refl _) (a := a) (by rw [e6]; exact q9) q9' (argsL := []) (rest := []) (lenOf pd_3 rfl) rfl (by show 2 * 0 + _ ≤ _; exact Nat.le_of_eq rfl) (hb hby d4_18) (fun _ _ => ⟨rfl, e6, (Nat.le_trans (Nat.add_le_add_right (Nat.add_le_add_right (Nat.le_refl 0) 0) 2) (by decide)), (Nat.le_trans (Nat.add_le_add_right (Nat.add_le_add_right (Nat.le_refl 0) 0) 32) (by decide))⟩)
  dsimp only [Pt.U, Pt.locs, Pt.cells, Pt.slots] at X9 l9 y9 z9 st9 hQ9
  subst l9 y9 z9
  obtain ⟨s2_9, a2_9, sl2_9, al2_9, rfl, N9q, Kq9, fz_s2_9, fz_a2_9, ne_s2_9_a2_9, pf9_0, pf9_1, pf9_2, pf9_3, pf9_4, pf9_5, pf9_6, ph9_0⟩ := hQ9
  have oldlt_9_a : a < T1.heap.size := G2.lt
  have oldlt_9_aS : aS < T1.heap.size := G3.lt
  have oldlt_9_aA : aA < T1.heap.size := G4.lt
  have G10 : Exa Z T9.heap a "com/example/talthybius/talthybius/AwaitedPings" := Exa.keep G2 Kq9
  have G11 : VA Z T9.heap aS .long (sl.map Value.long) := G3.keep Kq9 (ninS (Ne.symm ne_a_aS) nin0)
  have G12 : VA Z T9.heap aA .boolean (al.map Value.int) := G4.keep Kq9 (ninS (Ne.symm ne_a_aA) nin0)
  have ne_a_s2_9 : a ≠ s2_9 := Nat.ne_of_lt (Nat.lt_of_lt_of_le oldlt_9_a fz_s2_9)
  have ne_aS_s2_9 : aS ≠ s2_9 := Nat.ne_of_lt (Nat.lt_of_lt_of_le oldlt_9_aS fz_s2_9)
  have ne_aA_s2_9 : aA ≠ s2_9 := Nat.ne_of_lt (Nat.lt_of_lt_of_le oldlt_9_aA fz_s2_9)
  have g_s2_9 : n0 ≤ s2_9 := Nat.le_trans Z1 fz_s2_9
  have sz_s2_9 : h0.size ≤ s2_9 := Nat.le_trans K1.1 fz_s2_9
  have ne_a_a2_9 : a ≠ a2_9 := Nat.ne_of_lt (Nat.lt_of_lt_of_le oldlt_9_a fz_a2_9)
  have ne_aS_a2_9 : aS ≠ a2_9 := Nat.ne_of_lt (Nat.lt_of_lt_of_le oldlt_9_aS fz_a2_9)
  have ne_aA_a2_9 : aA ≠ a2_9 := Nat.ne_of_lt (Nat.lt_of_lt_of_le oldlt_9_aA fz_a2_9)
  have g_a2_9 : n0 ≤ a2_9 := Nat.le_trans Z1 fz_a2_9
  have sz_a2_9 : h0.size ≤ a2_9 := Nat.le_trans K1.1 fz_a2_9
  have K9 : Keep h0 T9.heap [a] := Keep.trans K1 Kq9 (allS (Or.inl (List.mem_of_getElem? (i := 0) rfl)) all0)
  have Z9 : n0 ≤ T9.heap.size := Nat.le_trans Z0 K9.1
  have N9 := Fr.app N1 N9q
  have hG := ph9_0
  obtain ⟨T13, X13, e13, st13⟩ := getF X9 hx hZ hown (host := "") (Or.inl (hw _ (List.mem_of_getElem? (i := 34) rfl))) Via.refl rfl pf9_4 (g := (mkF m 23 #[.val (.ref a), .val (.long tm), .second, .unset] [(.ref a), (.ref a)])) rfl rfl (hb hby d4_23)
  obtain ⟨cq14, q14, q14'⟩ := (G10 : Exa Z T9.heap a "com/example/talthybius/talthybius/AwaitedPings").cell
  obtain ⟨_, _, ⟨T14, L14, k14, n14⟩, -, X14, ⟨Lc14, hQ14, l14, y14, z14⟩, st14⟩ := X13.privateBack hx (y := (⟨"com/example/talthybius/talthybius/AwaitedPings", "placeOf", "(I)I"⟩ : MethodName)) hown (mvT hZ (hw _ (List.mem_of_getElem? (i := 36) rfl))) (mvT hZ (hw _ (List.mem_of_getElem? (i := 37) rfl))) (own_psel (mvT hZ (hw _ (List.mem_of_getElem? (i := 10) rfl))) (Cond.privateMethod_at (mvP hZ (hw _ (List.mem_of_getElem? (i := 38) rfl)) (args := #[]))) (mvT hZ (hw _ (List.mem_of_getElem? (i := 37) rfl))) (by decide)) (Cond.privateMethod_at (mvP hZ (hw _ (List.mem_of_getElem? (i := 38) rfl)) (args := #[]))) (mvT hZ (hw _ (List.mem_of_getElem? (i := 39) rfl))) (by decide) (backOf (W := 0) (rm_plaF l Z a0 hw [] a c1_1 s2_9 (0 : Int32) sl2_9 T9.heap n0 Z9 pf9_1 pf9_3 pf9_5 ) hZ (hw _ (List.mem_of_getElem? (i := 39) rfl)) (hw _ (List.mem_of_getElem? (i := 11) rfl)) (by decide) (by decide)) (g := (mkF m 26 #[.val (.ref a), .val (.long tm), .second, .unset] [(.int c1_1), (.ref a)])) rfl (by rw [hml]; rfl) (Steps.refl _) (a := a) (by rw [e13]; exact q14) q14' (argsL := [(.int c1_1)]) (rest := []) (lenOf pd_0 rfl) rfl (by show 2 * 0 + _ ≤ _; exact Nat.le_of_eq rfl) (hb hby d4_26) (fun _ _ => ⟨rfl, e13, (Nat.le_trans (Nat.add_le_add_right (Nat.add_le_add_right (Nat.add_le_add_right (Nat.le_refl 0) 0) 2) 0) (by decide)), (Nat.le_trans (Nat.add_le_add_right (Nat.add_le_add_right (Nat.add_le_add_right (Nat.le_refl 0) 0) 32) 0) (by decide))⟩)
  dsimp only [Pt.U, Pt.locs, Pt.cells, Pt.slots] at X14 l14 y14 z14 st14 hQ14
  subst l14 y14 z14
  obtain ⟨rfl, N14q, e14⟩ := hQ14
  have N14 := Fr.app N9 N14q
  obtain ⟨T15, X15, e15, st15⟩ := getF X14 hx hZ hown (host := "") (Or.inl (hw _ (List.mem_of_getElem? (i := 18) rfl))) Via.refl e14 pf9_1 (g := (mkF m 31 #[.val (.ref a), .val (.long tm), .second, .val (.int (plaF c1_1 (0 : Int32) sl2_9))] [(.ref a)])) rfl rfl (hb hby d4_31)
  have ix16 : 0 ≤ ((plaF c1_1 (0 : Int32) sl2_9)).toInt ∧ ((plaF c1_1 (0 : Int32) sl2_9)).toInt < ((sl2_9).length : Int) := own_s1 hG (by rw [h8]; decide)
  obtain ⟨T17, h17, X17, e17, W17, V17, st17⟩ := putJ X15 hx hZ e15 pf9_5 ix16.1 ix16.2 (g := (mkF m 36 #[.val (.ref a), .val (.long tm), .second, .val (.int (plaF c1_1 (0 : Int32) sl2_9))] [(.long tm), (.int (plaF c1_1 (0 : Int32) sl2_9)), (.ref s2_9)])) rfl rfl (hb hby d4_36)
  have G18 : Exa Z h17 a "com/example/talthybius/talthybius/AwaitedPings" := G10.wr W17
  have G19 : Fld Z h17 a "com/example/talthybius/talthybius/AwaitedPings" "timeoutNanos" "J" (.long tmo) := pf9_0.other W17 (Or.inl ne_a_s2_9)
  have G20 : Fld Z h17 a "com/example/talthybius/talthybius/AwaitedPings" "sentAt" "[J" (.ref s2_9) := pf9_1.other W17 (Or.inl ne_a_s2_9)
  have G21 : Fld Z h17 a "com/example/talthybius/talthybius/AwaitedPings" "answered" "[Z" (.ref a2_9) := pf9_2.other W17 (Or.inl ne_a_s2_9)
  have G22 : Fld Z h17 a "com/example/talthybius/talthybius/AwaitedPings" "oldest" "I" (.int (0 : Int32)) := pf9_3.other W17 (Or.inl ne_a_s2_9)
  have G23 : Fld Z h17 a "com/example/talthybius/talthybius/AwaitedPings" "count" "I" (.int c1_1) := pf9_4.other W17 (Or.inl ne_a_s2_9)
  have G24 : VA Z h17 aS .long (sl.map Value.long) := G11.other W17 ne_aS_s2_9
  have G25 : VA Z h17 aA .boolean (al.map Value.int) := G12.other W17 ne_aA_s2_9
  have G26 : VA Z h17 s2_9 .long ((sl2_9.set (plaF c1_1 (0 : Int32) sl2_9).toNatClampNeg tm).map Value.long) := V17
  have G27 : VA Z h17 a2_9 .boolean (al2_9.map Value.int) := pf9_6.other W17 (Ne.symm ne_s2_9_a2_9)
  have N17 := Fr.snoc X17 N14 g_s2_9
  have K17 : Keep h0 h17 [a] := Keep.wr K9 W17 (Or.inr sz_s2_9)
  have Z17 : n0 ≤ h17.size := Nat.le_trans Z0 K17.1
  obtain ⟨T28, X28, e28, st28⟩ := getF X17 hx hZ hown (host := "") (Or.inl (hw _ (List.mem_of_getElem? (i := 21) rfl))) Via.refl e17 G21 (g := (mkF m 38 #[.val (.ref a), .val (.long tm), .second, .val (.int (plaF c1_1 (0 : Int32) sl2_9))] [(.ref a)])) rfl rfl (hb hby d4_38)
  have ix29 : 0 ≤ ((plaF c1_1 (0 : Int32) sl2_9)).toInt ∧ ((plaF c1_1 (0 : Int32) sl2_9)).toInt < ((al2_9).length : Int) := own_s2 hG (by rw [h8]; decide)
  obtain ⟨T30, h30, X30, e30, W30, V30, st30⟩ := putZ X28 hx hZ e28 G27 ix29.1 ix29.2 (g := (mkF m 43 #[.val (.ref a), .val (.long tm), .second, .val (.int (plaF c1_1 (0 : Int32) sl2_9))] [(.int (0 : Int32)), (.int (plaF c1_1 (0 : Int32) sl2_9)), (.ref a2_9)])) rfl rfl (hb hby d4_43)
  have G31 : Exa Z h30 a "com/example/talthybius/talthybius/AwaitedPings" := G18.wr W30
  have G32 : Fld Z h30 a "com/example/talthybius/talthybius/AwaitedPings" "timeoutNanos" "J" (.long tmo) := G19.other W30 (Or.inl ne_a_a2_9)
  have G33 : Fld Z h30 a "com/example/talthybius/talthybius/AwaitedPings" "sentAt" "[J" (.ref s2_9) := G20.other W30 (Or.inl ne_a_a2_9)
  have G34 : Fld Z h30 a "com/example/talthybius/talthybius/AwaitedPings" "answered" "[Z" (.ref a2_9) := G21.other W30 (Or.inl ne_a_a2_9)
  have G35 : Fld Z h30 a "com/example/talthybius/talthybius/AwaitedPings" "oldest" "I" (.int (0 : Int32)) := G22.other W30 (Or.inl ne_a_a2_9)
  have G36 : Fld Z h30 a "com/example/talthybius/talthybius/AwaitedPings" "count" "I" (.int c1_1) := G23.other W30 (Or.inl ne_a_a2_9)
  have G37 : VA Z h30 aS .long (sl.map Value.long) := G24.other W30 ne_aS_a2_9
  have G38 : VA Z h30 aA .boolean (al.map Value.int) := G25.other W30 ne_aA_a2_9
  have G39 : VA Z h30 s2_9 .long ((sl2_9.set (plaF c1_1 (0 : Int32) sl2_9).toNatClampNeg tm).map Value.long) := G26.other W30 ne_s2_9_a2_9
  have G40 : VA Z h30 a2_9 .boolean ((al2_9.set (plaF c1_1 (0 : Int32) sl2_9).toNatClampNeg (0 : Int32)).map Value.int) := V30
  have N30 := Fr.snoc X30 N17 g_a2_9
  have K30 : Keep h0 h30 [a] := Keep.wr K17 W30 (Or.inr sz_a2_9)
  have Z30 : n0 ≤ h30.size := Nat.le_trans Z0 K30.1
  obtain ⟨T41, X41, e41, st41⟩ := getF X30 hx hZ hown (host := "") (Or.inl (hw _ (List.mem_of_getElem? (i := 34) rfl))) Via.refl e30 G36 (g := (mkF m 46 #[.val (.ref a), .val (.long tm), .second, .val (.int (plaF c1_1 (0 : Int32) sl2_9))] [(.ref a), (.ref a)])) rfl rfl (hb hby d4_46)
  obtain ⟨T42, h42, X42, e42, W42, st42⟩ := putF X41 hx hZ hown (host := "") (Or.inl (hw _ (List.mem_of_getElem? (i := 34) rfl))) Via.refl e41 G36 G31 (Or.inl (hw _ (List.mem_of_getElem? (i := 35) rfl))) (hw _ (List.mem_of_getElem? (i := 10) rfl)) (ty := .int) (by decide) rfl rfl (g := (mkF m 51 #[.val (.ref a), .val (.long tm), .second, .val (.int (plaF c1_1 (0 : Int32) sl2_9))] [(.int (c1_1 + (1 : Int32))), (.ref a)])) rfl rfl (hb hby d4_51)
  have G43 : Exa Z h42 a "com/example/talthybius/talthybius/AwaitedPings" := G31.wr W42
  have G44 : Fld Z h42 a "com/example/talthybius/talthybius/AwaitedPings" "timeoutNanos" "J" (.long tmo) := G32.other W42 (Or.inr (slot_ne (Or.inr (hw _ (List.mem_of_getElem? (i := 24) rfl))) (Or.inl (hw _ (List.mem_of_getElem? (i := 35) rfl))) (by decide) (t := .long) (t' := .int) (by decide) (by decide)))
  have G45 : Fld Z h42 a "com/example/talthybius/talthybius/AwaitedPings" "sentAt" "[J" (.ref s2_9) := G33.other W42 (Or.inr (slot_ne (Or.inl (hw _ (List.mem_of_getElem? (i := 19) rfl))) (Or.inl (hw _ (List.mem_of_getElem? (i := 35) rfl))) (by decide) (t := (.array .long)) (t' := .int) (by decide) (by decide)))
  have G46 : Fld Z h42 a "com/example/talthybius/talthybius/AwaitedPings" "answered" "[Z" (.ref a2_9) := G34.other W42 (Or.inr (slot_ne (Or.inl (hw _ (List.mem_of_getElem? (i := 22) rfl))) (Or.inl (hw _ (List.mem_of_getElem? (i := 35) rfl))) (by decide) (t := (.array .boolean)) (t' := .int) (by decide) (by decide)))
  have G47 : Fld Z h42 a "com/example/talthybius/talthybius/AwaitedPings" "oldest" "I" (.int (0 : Int32)) := G35.other W42 (Or.inr (slot_ne (Or.inl (hw _ (List.mem_of_getElem? (i := 41) rfl))) (Or.inl (hw _ (List.mem_of_getElem? (i := 35) rfl))) (by decide) (t := .int) (t' := .int) (by decide) (by decide)))
  have G48 : Fld Z h42 a "com/example/talthybius/talthybius/AwaitedPings" "count" "I" (.int (c1_1 + (1 : Int32))) := G36.same W42
  have G49 : VA Z h42 aS .long (sl.map Value.long) := G37.other W42 (Ne.symm ne_a_aS)
  have G50 : VA Z h42 aA .boolean (al.map Value.int) := G38.other W42 (Ne.symm ne_a_aA)
  have G51 : VA Z h42 s2_9 .long ((sl2_9.set (plaF c1_1 (0 : Int32) sl2_9).toNatClampNeg tm).map Value.long) := G39.other W42 (Ne.symm ne_a_s2_9)
  have G52 : VA Z h42 a2_9 .boolean ((al2_9.set (plaF c1_1 (0 : Int32) sl2_9).toNatClampNeg (0 : Int32)).map Value.int) := G40.other W42 (Ne.symm ne_a_a2_9)
  have N42 := Fr.snoc X42 N30 g_a
  have K42 : Keep h0 h42 [a] := Keep.wr K30 W42 (Or.inl (List.mem_of_getElem? (i := 0) rfl))
  have Z42 : n0 ≤ h42.size := Nat.le_trans Z0 K42.1
  refine Go.step (T' := T42) (f' := (mkF m 54 #[.val (.ref a), .val (.long tm), .second, .val (.int (plaF c1_1 (0 : Int32) sl2_9))] [])) (fun t kt => ?_) ?_
  · show Steps p.tables e below (T6.setTop (mkF m 14 #[.val (.ref a), .val (.long tm), .second, .unset] [(.int (sl.length.toInt32)), (.int c1_1)])) _
    refine XS.icmpNo X6.here hx rfl (hb hby d4_14) rfl (teq hd8).2 ?_
    show Steps p.tables e below (T6.setTop (mkF m 17 #[.val (.ref a), .val (.long tm), .second, .unset] [])) _
    refine XS.aloadN X6.here hx rfl (hb hby d4_17) rfl rfl ?_
    show Steps p.tables e below (T6.setTop (mkF m 18 #[.val (.ref a), .val (.long tm), .second, .unset] [(.ref a)])) _
    refine st9.trans ?_
    show Steps p.tables e below (T9.setTop (mkF m 21 #[.val (.ref a), .val (.long tm), .second, .unset] [])) _
    refine XS.aloadN X9.here hx rfl (hb hby d4_21) rfl rfl ?_
    show Steps p.tables e below (T9.setTop (mkF m 22 #[.val (.ref a), .val (.long tm), .second, .unset] [(.ref a)])) _
    refine XS.aloadN X9.here hx rfl (hb hby d4_22) rfl rfl ?_
    show Steps p.tables e below (T9.setTop (mkF m 23 #[.val (.ref a), .val (.long tm), .second, .unset] [(.ref a), (.ref a)])) _
    refine st13 _ ?_
    show Steps p.tables e below (T13.setTop (mkF m 26 #[.val (.ref a), .val (.long tm), .second, .unset] [(.int c1_1), (.ref a)])) _
    refine st14.trans ?_
    show Steps p.tables e below (T14.setTop (mkF m 29 #[.val (.ref a), .val (.long tm), .second, .unset] [(.int (plaF c1_1 (0 : Int32) sl2_9))])) _
    refine XS.istoreN X14.here hx rfl (hb hby d4_29) rfl (l' := #[.val (.ref a), .val (.long tm), .second, .val (.int (plaF c1_1 (0 : Int32) sl2_9))]) rfl ?_
    show Steps p.tables e below (T14.setTop (mkF m 30 #[.val (.ref a), .val (.long tm), .second, .val (.int (plaF c1_1 (0 : Int32) sl2_9))] [])) _
    refine XS.aloadN X14.here hx rfl (hb hby d4_30) rfl rfl ?_
    show Steps p.tables e below (T14.setTop (mkF m 31 #[.val (.ref a), .val (.long tm), .second, .val (.int (plaF c1_1 (0 : Int32) sl2_9))] [(.ref a)])) _
    refine st15 _ ?_
    show Steps p.tables e below (T15.setTop (mkF m 34 #[.val (.ref a), .val (.long tm), .second, .val (.int (plaF c1_1 (0 : Int32) sl2_9))] [(.ref s2_9)])) _
    refine XS.iloadN X15.here hx rfl (hb hby d4_34) rfl ?_
    show Steps p.tables e below (T15.setTop (mkF m 35 #[.val (.ref a), .val (.long tm), .second, .val (.int (plaF c1_1 (0 : Int32) sl2_9))] [(.int (plaF c1_1 (0 : Int32) sl2_9)), (.ref s2_9)])) _
    refine XS.lloadN X15.here hx rfl (hb hby d4_35) rfl ?_
    show Steps p.tables e below (T15.setTop (mkF m 36 #[.val (.ref a), .val (.long tm), .second, .val (.int (plaF c1_1 (0 : Int32) sl2_9))] [(.long tm), (.int (plaF c1_1 (0 : Int32) sl2_9)), (.ref s2_9)])) _
    refine st17 _ ?_
    show Steps p.tables e below (T17.setTop (mkF m 37 #[.val (.ref a), .val (.long tm), .second, .val (.int (plaF c1_1 (0 : Int32) sl2_9))] [])) _
    refine XS.aloadN X17.here hx rfl (hb hby d4_37) rfl rfl ?_
    show Steps p.tables e below (T17.setTop (mkF m 38 #[.val (.ref a), .val (.long tm), .second, .val (.int (plaF c1_1 (0 : Int32) sl2_9))] [(.ref a)])) _
    refine st28 _ ?_
    show Steps p.tables e below (T28.setTop (mkF m 41 #[.val (.ref a), .val (.long tm), .second, .val (.int (plaF c1_1 (0 : Int32) sl2_9))] [(.ref a2_9)])) _
    refine XS.iloadN X28.here hx rfl (hb hby d4_41) rfl ?_
    show Steps p.tables e below (T28.setTop (mkF m 42 #[.val (.ref a), .val (.long tm), .second, .val (.int (plaF c1_1 (0 : Int32) sl2_9))] [(.int (plaF c1_1 (0 : Int32) sl2_9)), (.ref a2_9)])) _
    refine XS.iconst X28.here hx rfl (hb hby d4_42) ?_
    show Steps p.tables e below (T28.setTop (mkF m 43 #[.val (.ref a), .val (.long tm), .second, .val (.int (plaF c1_1 (0 : Int32) sl2_9))] [(.int (0 : Int32)), (.int (plaF c1_1 (0 : Int32) sl2_9)), (.ref a2_9)])) _
    refine st30 _ ?_
    show Steps p.tables e below (T30.setTop (mkF m 44 #[.val (.ref a), .val (.long tm), .second, .val (.int (plaF c1_1 (0 : Int32) sl2_9))] [])) _
    refine XS.aloadN X30.here hx rfl (hb hby d4_44) rfl rfl ?_
    show Steps p.tables e below (T30.setTop (mkF m 45 #[.val (.ref a), .val (.long tm), .second, .val (.int (plaF c1_1 (0 : Int32) sl2_9))] [(.ref a)])) _
    refine XS.dup X30.here hx rfl (hb hby d4_45) rfl rfl ?_
    show Steps p.tables e below (T30.setTop (mkF m 46 #[.val (.ref a), .val (.long tm), .second, .val (.int (plaF c1_1 (0 : Int32) sl2_9))] [(.ref a), (.ref a)])) _
    refine st41 _ ?_
    show Steps p.tables e below (T41.setTop (mkF m 49 #[.val (.ref a), .val (.long tm), .second, .val (.int (plaF c1_1 (0 : Int32) sl2_9))] [(.int c1_1), (.ref a)])) _
    refine XS.iconst X41.here hx rfl (hb hby d4_49) ?_
    show Steps p.tables e below (T41.setTop (mkF m 50 #[.val (.ref a), .val (.long tm), .second, .val (.int (plaF c1_1 (0 : Int32) sl2_9))] [(.int (1 : Int32)), (.int c1_1), (.ref a)])) _
    refine XS.iadd X41.here hx rfl (hb hby d4_50) rfl ?_
    show Steps p.tables e below (T41.setTop (mkF m 51 #[.val (.ref a), .val (.long tm), .second, .val (.int (plaF c1_1 (0 : Int32) sl2_9))] [(.int (c1_1 + (1 : Int32))), (.ref a)])) _
    refine st42 _ ?_
    exact kt
  refine Go.fin X42 (v := none) (fun _ => rfl) Bd.notSynchronized ?_ (Nat.le_trans (Nat.add_le_add_right (Nat.add_le_add_right (Nat.add_le_add_right (Nat.le_refl 0) 0) 2) 0) (by decide)) (Nat.le_trans (Nat.add_le_add_right (Nat.add_le_add_right (Nat.add_le_add_right (Nat.le_refl 0) 0) 32) 0) (by decide)) (fun fs hr => X42.returnOut hx Bd.returns (hb hby d4_54) hr)
  · show QsenG Z a tm aS aA tmo old cnt sl al q h0 n0 _ T42.heap _
    rw [e42]
    exact ⟨s2_9, a2_9, (0 : Int32), (c1_1 + (1 : Int32)), (sl2_9.set (plaF c1_1 (0 : Int32) sl2_9).toNatClampNeg tm), (al2_9.set (plaF c1_1 (0 : Int32) sl2_9).toNatClampNeg (0 : Int32)), rfl, N42, K42, sz_s2_9, sz_a2_9, ne_s2_9_a2_9, G44, G45, G46, G47, G48, G51, G52, own_s3 hG (by rw [h8]; decide)⟩
def own_P (tmo : Int64) (q : List (Int64 × Int32)) (t : Int64) : List (Int64 × Int32) := own_dr t tmo q ++ [(t, (0 : Int32))]
def own_Qn (tmo : Int64) (ss : List Int64) : Nat → List (Int64 × Int32)
  | 0 => own_P tmo [] (ss.getD 0 0)
  | n + 1 => own_P tmo (own_Qn tmo ss n) (ss.getD (n + 1) 0)
def own_SS (m : Nat) (ss : List Int64) : Prop := ss.length = m + 1 ∧ ∀ i j : Nat, i < j → j ≤ m → (ss.getD i 0).toInt < (ss.getD j 0).toInt ∧ (ss.getD j 0).toInt - (ss.getD i 0).toInt ≤ 6000
theorem own_df {a b : Int64} (h0 : 0 ≤ a.toInt - b.toInt) (h1 : a.toInt - b.toInt ≤ 100000) : (a - b).toInt = a.toInt - b.toInt := by
  have := c_lsub a b; have := rng64 (a - b); omega
theorem own_dl {now tmo : Int64} {q : List (Int64 × Int32)} : (own_dr now tmo q).length ≤ q.length := by
  unfold own_dr
  exact (List.dropWhile_suffix _).length_le
theorem own_lP {tmo : Int64} {q : List (Int64 × Int32)} {t : Int64} {n : Nat} (h : q.length ≤ n) : (own_P tmo q t).length ≤ n + 1 := by
  unfold own_P
  have := own_dl (now := t) (tmo := tmo) (q := q)
  rw [List.length_append]; simp; omega
theorem own_dw {α : Type} (p : α → Bool) (l : List α) (h : List.Pairwise (fun a b => p b = true → p a = true) l) : l.dropWhile p = l.filter (fun a => !p a) := by
  induction l with
  | nil => rfl
  | cons a t ih =>
    obtain ⟨h1, h2⟩ := List.pairwise_cons.mp h
    by_cases c : p a = true
    · rw [List.dropWhile_cons, if_pos c, ih h2, List.filter_cons, if_neg (by simp [c])]
    · rw [List.dropWhile_cons, if_neg c]
      symm
      apply List.filter_eq_self.mpr
      intro x hx
      rcases List.mem_cons.mp hx with rfl | hx
      · simp [c]
      · cases e : p x
        · rfl
        · exact absurd (h1 x hx e) c
theorem own_ex {tmo : Int64} {ss : List Int64} {m : Nat} (hs : own_SS m ss) : ∀ n : Nat, n ≤ m → own_Qn tmo ss n = ((List.range (n + 1)).filter (fun j => decide (j = n) || !decide (tmo < ss.getD n 0 - ss.getD j 0))).map (fun j => (ss.getD j 0, (0 : Int32))) := by
  intro n
  induction n with
  | zero => intro _; rfl
  | succ n ih =>
    intro hn
    have hd : ∀ a b : Nat, a ≤ b → b ≤ m → (ss.getD b 0 - ss.getD a 0).toInt = (ss.getD b 0).toInt - (ss.getD a 0).toInt ∧ 0 ≤ (ss.getD b 0).toInt - (ss.getD a 0).toInt := fun a b hab hb => by
      by_cases e : a = b
      · subst e; refine ⟨own_df (by omega) (by omega), by omega⟩
      · have q := hs.2 a b (by omega) hb
        refine ⟨own_df (by omega) (by omega), by omega⟩
    show own_P tmo (own_Qn tmo ss n) (ss.getD (n + 1) 0) = _
    unfold own_P own_dr
    rw [ih (by omega), List.dropWhile_map, own_dw, List.filter_filter, List.range_succ (n := n + 1), List.filter_append, List.map_append]
    · congr 1
      · congr 1
        apply List.filter_congr
        intro j hj
        have hj' := List.mem_range.mp hj
        have e1 : decide (j = n + 1) = false := decide_eq_false (by omega)
        rw [e1, Bool.false_or]
        show (!decide (tmo < ss.getD (n + 1) 0 - ss.getD j 0) && (decide (j = n) || !decide (tmo < ss.getD n 0 - ss.getD j 0))) = !decide (tmo < ss.getD (n + 1) 0 - ss.getD j 0)
        cases c : decide (tmo < ss.getD (n + 1) 0 - ss.getD j 0)
        · have c' := of_decide_eq_false c
          have : (decide (j = n) || !decide (tmo < ss.getD n 0 - ss.getD j 0)) = true := by
            have a1 := hd j (n + 1) (by omega) hn
            have a2 := hd j n (by omega) (by omega)
            have a3 := hd n (n + 1) (by omega) hn
            rw [Int64.lt_iff_toInt_lt] at c'
            have : ¬ tmo < ss.getD n 0 - ss.getD j 0 := by rw [Int64.lt_iff_toInt_lt]; omega
            rw [decide_eq_false this]; cases decide (j = n) <;> rfl
          rw [this]; rfl
        · rfl
      · simp
    · apply List.Pairwise.filter
      refine List.Pairwise.imp_of_mem (R := (· < ·)) ?_ List.pairwise_lt_range
      intro a b ha hb hab hp
      have hb' := List.mem_range.mp hb
      have a1 := hd a (n + 1) (by omega) hn
      have a2 := hd b (n + 1) (by omega) hn
      have a3 := hs.2 a b hab (by omega)
      simp only [Function.comp, decide_eq_true_eq] at hp ⊢
      rw [Int64.lt_iff_toInt_lt] at hp ⊢
      omega
theorem own_mem {tmo : Int64} {ss : List Int64} {m : Nat} (hs : own_SS m ss) {n : Nat} (hn : n ≤ m) {e : Int64 × Int32} : e ∈ own_Qn tmo ss n ↔ ∃ j : Nat, j ≤ n ∧ (j = n ∨ ¬ tmo < ss.getD n 0 - ss.getD j 0) ∧ e = (ss.getD j 0, (0 : Int32)) := by
  rw [own_ex hs n hn, List.mem_map]
  constructor
  · rintro ⟨j, hj, rfl⟩
    rw [List.mem_filter, List.mem_range] at hj
    refine ⟨j, by omega, ?_, rfl⟩
    have := hj.2
    simpa using this
  · rintro ⟨j, h1, h2, rfl⟩
    refine ⟨j, ?_, rfl⟩
    rw [List.mem_filter, List.mem_range]
    exact ⟨by omega, by simpa using h2⟩
theorem own_pw {tmo : Int64} {ss : List Int64} {m : Nat} (hs : own_SS m ss) {n : Nat} (hn : n ≤ m) : List.Pairwise (fun a b : Int64 × Int32 => a.1.toInt < b.1.toInt) (own_Qn tmo ss n) := by
  rw [own_ex hs n hn, List.pairwise_map]
  apply List.Pairwise.filter
  refine List.Pairwise.imp_of_mem (R := (· < ·)) ?_ List.pairwise_lt_range
  intro a b ha hb hab
  have hb' := List.mem_range.mp hb
  exact (hs.2 a b hab (by omega)).1
theorem own_srt_of {q : List (Int64 × Int32)} (h : List.Pairwise (fun a b : Int64 × Int32 => a.1.toInt < b.1.toInt) q) : own_srt q := fun i j hij hj => List.pairwise_iff_getElem.mp h i j (by omega) hj hij
theorem own_drf {now tmo : Int64} {q : List (Int64 × Int32)} (h : List.Pairwise (fun a b : Int64 × Int32 => a.1.toInt < b.1.toInt) q) (hx : ∀ e ∈ q, (now - e.1).toInt = now.toInt - e.1.toInt) : own_dr now tmo q = q.filter (fun e => !decide (tmo < now - e.1)) := by
  unfold own_dr
  apply own_dw
  refine List.Pairwise.imp_of_mem ?_ h
  intro a b ha hb hab hp
  have h1 := hx a ha
  have h2 := hx b hb
  simp only [decide_eq_true_eq] at hp ⊢
  rw [Int64.lt_iff_toInt_lt] at hp ⊢
  omega
theorem own_an1 {e : Int64} {q : List (Int64 × Int32)} (h : (e, (0 : Int32)) ∈ q) : own_an e q = 1 := by
  unfold own_an
  rw [if_pos]
  exact List.any_eq_true.mpr ⟨_, h, by simp⟩
theorem own_an0 {e : Int64} {q : List (Int64 × Int32)} (h : ¬ (e, (0 : Int32)) ∈ q) : own_an e q = 0 := by
  unfold own_an
  rw [if_neg]
  intro hx
  obtain ⟨x, hx1, hx2⟩ := List.any_eq_true.mp hx
  simp only [Bool.and_eq_true, decide_eq_true_eq] at hx2
  apply h
  have : x = (e, (0 : Int32)) := Prod.ext hx2.1 hx2.2
  rw [← this]; exact hx1
theorem own_nx {now : Int64} {tmo : Int64} {ss : List Int64} {m : Nat} (hs : own_SS m ss) (hnow : 0 ≤ now.toInt - (ss.getD m 0).toInt ∧ now.toInt - (ss.getD m 0).toInt ≤ 6000) : ∀ j : Nat, j ≤ m → (now - ss.getD j 0).toInt = now.toInt - (ss.getD j 0).toInt ∧ (ss.getD m 0 - ss.getD j 0).toInt = (ss.getD m 0).toInt - (ss.getD j 0).toInt := fun j hj => by
  by_cases e : j = m
  · subst e; exact ⟨own_df (by omega) (by omega), own_df (by omega) (by omega)⟩
  · have q := hs.2 j m (by omega) (Nat.le_refl _)
    exact ⟨own_df (by omega) (by omega), own_df (by omega) (by omega)⟩
theorem own_uni {ss : List Int64} {m : Nat} (hs : own_SS m ss) {i j : Nat} (hi : i ≤ m) (hj : j ≤ m) (e : ss.getD i 0 = ss.getD j 0) : i = j := by
  rcases Nat.lt_trichotomy i j with g | g | g
  · have := hs.2 i j g hj; rw [e] at this; omega
  · exact g
  · have := hs.2 j i g hi; rw [e] at this; omega
theorem own_dm {now : Int64} {tmo : Int64} {ss : List Int64} {m : Nat} (hs : own_SS m ss) (hnow : 0 ≤ now.toInt - (ss.getD m 0).toInt ∧ now.toInt - (ss.getD m 0).toInt ≤ 6000) {e : Int64 × Int32} : e ∈ own_dr now tmo (own_Qn tmo ss m) ↔ ∃ j : Nat, j ≤ m ∧ ¬ tmo < now - ss.getD j 0 ∧ e = (ss.getD j 0, (0 : Int32)) := by
  have nx := own_nx (tmo := tmo) hs hnow
  rw [own_drf (own_pw hs (Nat.le_refl _)) (fun x hx => by
    obtain ⟨j, hj, -, rfl⟩ := (own_mem hs (Nat.le_refl _)).mp hx
    exact (nx j hj).1), List.mem_filter, own_mem hs (Nat.le_refl _)]
  constructor
  · rintro ⟨⟨j, h1, h2, rfl⟩, h3⟩
    exact ⟨j, h1, by simpa using h3, rfl⟩
  · rintro ⟨j, h1, h2, rfl⟩
    refine ⟨⟨j, h1, ?_, rfl⟩, by simpa using h2⟩
    right
    have a := nx j h1
    rw [Int64.lt_iff_toInt_lt] at h2 ⊢
    omega
/-- the first answer, where nothing was answered before -/
theorem own_A1 {now : Int64} {tmo : Int64} {ss : List Int64} {m : Nat} (hs : own_SS m ss) (hnow : 0 ≤ now.toInt - (ss.getD m 0).toInt ∧ now.toInt - (ss.getD m 0).toInt ≤ 6000) {k : Nat} (hk : k ≤ m) : own_an (ss.getD k 0) (own_dr now tmo (own_Qn tmo ss m)) = if tmo < now - ss.getD k 0 then 0 else 1 := by
  split
  · rename_i h
    apply own_an0
    intro hm
    obtain ⟨j, h1, h2, h3⟩ := (own_dm hs hnow).mp hm
    have e := own_uni hs hk h1 (Prod.mk.inj h3).1
    subst e; exact h2 h
  · rename_i h
    exact own_an1 ((own_dm hs hnow).mpr ⟨k, hk, h, rfl⟩)
theorem own_mkp {a : Int64} {q : List (Int64 × Int32)} (h : List.Pairwise (fun a b : Int64 × Int32 => a.1.toInt < b.1.toInt) q) : List.Pairwise (fun a b : Int64 × Int32 => a.1.toInt < b.1.toInt) (own_mk a q) := by
  unfold own_mk
  rw [List.pairwise_map]
  refine h.imp ?_
  intro x y hxy
  have f : ∀ z : Int64 × Int32, (if z.1 = a then (z.1, (1 : Int32)) else z).1 = z.1 := fun z => by split <;> rfl
  rw [f, f]; exact hxy
theorem own_dpw {now tmo : Int64} {q : List (Int64 × Int32)} (h : List.Pairwise (fun a b : Int64 × Int32 => a.1.toInt < b.1.toInt) q) : List.Pairwise (fun a b : Int64 × Int32 => a.1.toInt < b.1.toInt) (own_dr now tmo q) := by
  unfold own_dr
  exact h.sublist (List.dropWhile_sublist _)
theorem own_mk_mem {a e : Int64} {q : List (Int64 × Int32)} : (e, (0 : Int32)) ∈ own_mk a q ↔ e ≠ a ∧ (e, (0 : Int32)) ∈ q := by
  unfold own_mk
  rw [List.mem_map]
  constructor
  · rintro ⟨x, hx, hq⟩
    split at hq
    · exact absurd (Prod.mk.inj hq).2 (by decide)
    · rename_i g
      subst hq
      exact ⟨g, hx⟩
  · rintro ⟨h1, h2⟩
    exact ⟨_, h2, by rw [if_neg h1]⟩
theorem own_mk_fst {a : Int64} {q : List (Int64 × Int32)} {x : Int64 × Int32} (h : x ∈ own_mk a q) : ∃ y ∈ q, x.1 = y.1 := by
  unfold own_mk at h
  obtain ⟨y, hy, rfl⟩ := List.mem_map.mp h
  refine ⟨y, hy, ?_⟩
  split <;> rfl
/-- the second answer: a was asked at now1 before -/
theorem own_A2 {now now1 : Int64} {tmo : Int64} {ss : List Int64} {m : Nat} (hs : own_SS m ss) (h1 : 0 ≤ now1.toInt - (ss.getD m 0).toInt ∧ now1.toInt - (ss.getD m 0).toInt ≤ 6000) (hnow : 0 ≤ now.toInt - (ss.getD m 0).toInt ∧ now.toInt - (ss.getD m 0).toInt ≤ 6000) (hle : now1.toInt ≤ now.toInt) {a e : Int64} : (e, (0 : Int32)) ∈ own_dr now tmo (own_mk a (own_dr now1 tmo (own_Qn tmo ss m))) ↔ e ≠ a ∧ ∃ j : Nat, j ≤ m ∧ ¬ tmo < now - ss.getD j 0 ∧ e = ss.getD j 0 := by
  have nx := own_nx (tmo := tmo) hs hnow
  have nx1 := own_nx (tmo := tmo) hs h1
  rw [own_drf (own_mkp (own_dpw (own_pw hs (Nat.le_refl _)))) (fun x hx => by
    obtain ⟨y, hy, e⟩ := own_mk_fst hx
    obtain ⟨j, hj, -, rfl⟩ := (own_dm hs h1).mp hy
    rw [e]; exact (nx j hj).1), List.mem_filter, own_mk_mem, own_dm hs h1]
  constructor
  · rintro ⟨⟨g1, j, g2, g3, g4⟩, g5⟩
    have e1 := (Prod.mk.inj g4).1
    exact ⟨g1, j, g2, by rw [← e1]; simpa using g5, e1⟩
  · rintro ⟨g1, j, g2, g3, rfl⟩
    refine ⟨⟨g1, j, g2, ?_, rfl⟩, by simpa using g3⟩
    have b1 := nx j g2
    have b2 := nx1 j g2
    rw [Int64.lt_iff_toInt_lt] at g3 ⊢
    omega
theorem own_ap0 : own_AP 8 [(0 : Int64), (0 : Int64), (0 : Int64), (0 : Int64), (0 : Int64), (0 : Int64), (0 : Int64), (0 : Int64)] [(0 : Int32), (0 : Int32), (0 : Int32), (0 : Int32), (0 : Int32), (0 : Int32), (0 : Int32), (0 : Int32)] (0 : Int32) (0 : Int32) [] :=
  ⟨rfl, rfl, Or.inl rfl, by decide, by decide, rfl, by decide, (fun e he => nomatch he), fun i h => absurd h (Nat.not_lt_zero _)⟩
theorem own_hlt {now tmo : Int64} {q : List (Int64 × Int32)} {n : Nat} (h : q.length ≤ n) (hn : n < 8) : (own_dr now tmo q).length < 8 := by
  have := own_dl (now := now) (tmo := tmo) (q := q); omega
theorem own_hlt8 {now tmo : Int64} {q : List (Int64 × Int32)} (h : q.length ≤ 8) (hn : ¬ (own_dr now tmo q).length = 8) : (own_dr now tmo q).length < 8 := by
  have := own_dl (now := now) (tmo := tmo) (q := q); omega
theorem own_st {m G : Nat} {ss : List Int64} (hl : ss.length = m + 1) (hG : m * G ≤ 6000) (hs : ∀ i : Nat, i < m → (ss.getD i 0).toInt < (ss.getD (i + 1) 0).toInt ∧ (ss.getD (i + 1) 0).toInt - (ss.getD i 0).toInt ≤ G) : own_SS m ss := by
  refine ⟨hl, fun i j hij hj => ?_⟩
  have key : ∀ d : Nat, i + d + 1 ≤ m → (ss.getD i 0).toInt < (ss.getD (i + d + 1) 0).toInt ∧ (ss.getD (i + d + 1) 0).toInt - (ss.getD i 0).toInt ≤ ((d + 1) * G : Nat) := by
    intro d
    induction d with
    | zero => intro h; have := hs i (by omega); simp only [Nat.add_zero, Nat.zero_add, Nat.one_mul]; exact this
    | succ d ih =>
      intro h
      have a := ih (by omega)
      have b := hs (i + d + 1) (by omega)
      have e : (d + 1 + 1) * G = (d + 1) * G + G := by rw [Nat.add_mul (d + 1) 1 G, Nat.one_mul]
      rw [e]
      rw [show i + (d + 1) + 1 = i + d + 1 + 1 from rfl]
      omega
  obtain ⟨d, rfl⟩ : ∃ d, j = i + d + 1 := ⟨j - i - 1, by omega⟩
  have a := key d hj
  have : (d + 1) * G ≤ m * G := Nat.mul_le_mul_right _ (by omega)
  omega
theorem own_ixl {ss : List Int64} {k : Int32} {m : Nat} (hS : own_SS m ss) (h : 0 ≤ k.toInt ∧ k.toInt ≤ m) : 0 ≤ k.toInt ∧ k.toInt < (ss.length : Int) := by
  have := hS.1; omega
theorem d1_0 : decode jdk_29_method_70_code 0 = .ok (.lload_n 0, 1) := by decide +kernel
theorem d1_1 : decode jdk_29_method_70_code 1 = .ok (.lload_n 2, 1) := by decide +kernel
theorem d1_2 : decode jdk_29_method_70_code 2 = .ok (.lcmp, 1) := by decide +kernel
theorem d1_3 : decode jdk_29_method_70_code 3 = .ok (.ifCond .gt 7, 3) := by decide +kernel
theorem d1_6 : decode jdk_29_method_70_code 6 = .ok (.lload_n 0, 1) := by decide +kernel
theorem d1_7 : decode jdk_29_method_70_code 7 = .ok (.goto 4, 3) := by decide +kernel
theorem d1_10 : decode jdk_29_method_70_code 10 = .ok (.lload_n 2, 1) := by decide +kernel
theorem d1_11 : decode jdk_29_method_70_code 11 = .ok (.lreturn, 1) := by decide +kernel
theorem ef_minF (m : MethodId) (x0 : Int64) (x1 : Int64) : entryFrame m #[(.long x0), (.long x1)] 4 = mkF m 0 #[.val (.long x0), .second, .val (.long x1), .second] [] := by first | (simp [entryFrame, mkF, argsToLocals, Value.category]; done) | rfl
def minF (p1 : Int64) (p2 : Int64) : Int64 := (if p2 < p1 then p2 else p1)
def QminF (RES : Int64) (h0 : Heap) (n0 : Nat) (v : Option Value) (h : Heap) (L : List Loc) : Prop := v = some (.long RES) ∧ Fr n0 L ∧ h = h0
set_option maxRecDepth 65536 in
set_option maxHeartbeats 40000000 in
theorem rm_minF (l : Launch) (Z : State) (a0 : Array Value) (hw : ∀ d ∈ tables_1, d.before a0 Z = true) (ws : List Jvm.Cond) (p1 : Int64) (p2 : Int64)  (h0 : Heap) (n0 : Nat) (Z0 : n0 ≤ h0.size) :
    MetFree l (⟨"java/lang/Math", "min", "(JJ)J"⟩ : MethodName) (head1 (Jvm.Cond.code (⟨"java/lang/Math", "min", "(JJ)J"⟩ : MethodName) jdk_29_method_70_code 4 (some .long) :: ws) ({ frames := 0, cells := 0, slots := 0, locals := 0 } : Room)) (fun A_ U => A_ = #[(.long p1), (.long p2)] ∧ Z.Warmed39 U.vm ∧ U.heap = h0) (fun _ _ _ _ _ => True) (fun _ U o U' => ∃ v L, o = .returned v ∧ QminF (minF p1 p2) h0 n0 v U'.heap L ∧ FrameEnd U o U' L ({ frames := 0, cells := 0, slots := 0, locals := 0 } : Room).cells ({ frames := 0, cells := 0, slots := 0, locals := 0 } : Room).slots) := by
  refine MetFree.of_bodySF (Jvm.Free.JP.mathPlain rfl (by decide +kernel)) hisR ?_
  intro p e s m args below meth c s₁ Bd hml0 hP hK
  obtain ⟨rfl, hZ, hh⟩ := hP
  have hx := Bd.exec
  have hby := Bd.bytes
  have hml : c.maxLocals = 4 := hml0
  have hown : s.vm.findClass "java/lang/Math" = some m.cls := findClass_of_methodNamed Bd.named
  have hnm := (name_of_methodNamed Bd.named Bd.method).1
  have X0 : Stand p l e ({ frames := 0, cells := 0, slots := 0, locals := 0 } : Room) s m #[(.long p1), (.long p2)] below meth c s₁ [] 0 0 := Stand.of_body Bd
  have e0 : s₁.heap = h0 := by rw [← hh, Bd.state]; rfl
  have N0 := Fr.nil n0
  obtain ⟨RES, hf⟩ : ∃ z, z = minF p1 p2 := ⟨_, rfl⟩
  rw [← hf]
  rw [minF] at hf
  suffices HGO : Go p e below s (QminF RES h0 n0) ({ frames := 0, cells := 0, slots := 0, locals := 0 } : Room).cells ({ frames := 0, cells := 0, slots := 0, locals := 0 } : Room).slots s₁ (mkF m 0 #[.val (.long p1), .second, .val (.long p2), .second] []) from Go.cast (ef_minF m p1 p2) HGO
  refine Go.step (T' := s₁) (f' := (mkF m 3 #[.val (.long p1), .second, .val (.long p2), .second] [(.int (lcmpW p1 p2))])) (fun t kt => ?_) ?_
  · show Steps p.tables e below (s₁.setTop (mkF m 0 #[.val (.long p1), .second, .val (.long p2), .second] [])) _
    refine XS.lloadN X0.here hx rfl (hb hby d1_0) rfl ?_
    show Steps p.tables e below (s₁.setTop (mkF m 1 #[.val (.long p1), .second, .val (.long p2), .second] [(.long p1)])) _
    refine XS.lloadN X0.here hx rfl (hb hby d1_1) rfl ?_
    show Steps p.tables e below (s₁.setTop (mkF m 2 #[.val (.long p1), .second, .val (.long p2), .second] [(.long p2), (.long p1)])) _
    refine XS.lcmp X0.here hx rfl (hb hby d1_2) rfl ?_
    exact kt
  by_cases hc1 : p2 < p1
  · rw [if_pos hc1] at hf
    refine Go.step (T' := s₁) (f' := (mkF m 10 #[.val (.long p1), .second, .val (.long p2), .second] [])) (fun t kt => ?_) ?_
    · show Steps p.tables e below (s₁.setTop (mkF m 3 #[.val (.long p1), .second, .val (.long p2), .second] [(.int (lcmpW p1 p2))])) _
      refine XS.ifYes X0.here hx rfl (pc0 := 3) (pc' := 10) rfl (hb hby d1_3) rfl ((if0 _ _).trans (tlt ((lw_gt _ _).mpr hc1)).2.2.1) (by decide) (by decide) ?_
      exact kt
    refine Go.step (T' := s₁) (f' := (mkF m 11 #[.val (.long p1), .second, .val (.long p2), .second] [(.long p2)])) (fun t kt => ?_) ?_
    · show Steps p.tables e below (s₁.setTop (mkF m 10 #[.val (.long p1), .second, .val (.long p2), .second] [])) _
      refine XS.lloadN X0.here hx rfl (hb hby d1_10) rfl ?_
      exact kt
    refine Go.fin X0 (v := some (.long p2)) (fun h => by rw [Bd.returns] at h; cases h) Bd.notSynchronized ?_ (Nat.le_trans (Nat.le_refl 0) (by decide)) (Nat.le_trans (Nat.le_refl 0) (by decide)) (fun fs hr => X0.lreturnOut hx Bd.returns (hb hby d1_11) hr)
    · exact ⟨by rw [hf], N0, e0⟩
  · rw [if_neg hc1] at hf
    refine Go.step (T' := s₁) (f' := (mkF m 6 #[.val (.long p1), .second, .val (.long p2), .second] [])) (fun t kt => ?_) ?_
    · show Steps p.tables e below (s₁.setTop (mkF m 3 #[.val (.long p1), .second, .val (.long p2), .second] [(.int (lcmpW p1 p2))])) _
      refine XS.ifNo X0.here hx rfl (hb hby d1_3) rfl ((if0 _ _).trans (flt (fun q => hc1 ((lw_gt _ _).mp q))).2.2.1) ?_
      exact kt
    refine Go.step (T' := s₁) (f' := (mkF m 11 #[.val (.long p1), .second, .val (.long p2), .second] [(.long p1)])) (fun t kt => ?_) ?_
    · show Steps p.tables e below (s₁.setTop (mkF m 6 #[.val (.long p1), .second, .val (.long p2), .second] [])) _
      refine XS.lloadN X0.here hx rfl (hb hby d1_6) rfl ?_
      show Steps p.tables e below (s₁.setTop (mkF m 7 #[.val (.long p1), .second, .val (.long p2), .second] [(.long p1)])) _
      refine XS.goto X0.here hx rfl (pc0 := 7) (pc' := 11) rfl (hb hby d1_7) (by decide) (by decide) ?_
      exact kt
    refine Go.fin X0 (v := some (.long p1)) (fun h => by rw [Bd.returns] at h; cases h) Bd.notSynchronized ?_ (Nat.le_trans (Nat.le_refl 0) (by decide)) (Nat.le_trans (Nat.le_refl 0) (by decide)) (fun fs hr => X0.lreturnOut hx Bd.returns (hb hby d1_11) hr)
    · exact ⟨by rw [hf], N0, e0⟩
theorem d9_0 : decode method_2_code 0 = .ok (.aload_n 0, 1) := by decide +kernel
theorem d9_1 : decode method_2_code 1 = .ok (.iconst 0, 1) := by decide +kernel
theorem d9_2 : decode method_2_code 2 = .ok (.laload, 1) := by decide +kernel
theorem d9_3 : decode method_2_code 3 = .ok (.lload_n 1, 1) := by decide +kernel
theorem d9_4 : decode method_2_code 4 = .ok (.lcmp, 1) := by decide +kernel
theorem d9_5 : decode method_2_code 5 = .ok (.ifCond .ne 5, 3) := by decide +kernel
theorem d9_8 : decode method_2_code 8 = .ok (.iconst 0, 1) := by decide +kernel
theorem d9_9 : decode method_2_code 9 = .ok (.ireturn, 1) := by decide +kernel
theorem d9_10 : decode method_2_code 10 = .ok (.aload_n 0, 1) := by decide +kernel
theorem d9_11 : decode method_2_code 11 = .ok (.iconst 1, 1) := by decide +kernel
theorem d9_12 : decode method_2_code 12 = .ok (.laload, 1) := by decide +kernel
theorem d9_13 : decode method_2_code 13 = .ok (.lload_n 1, 1) := by decide +kernel
theorem d9_14 : decode method_2_code 14 = .ok (.lcmp, 1) := by decide +kernel
theorem d9_15 : decode method_2_code 15 = .ok (.ifCond .ne 5, 3) := by decide +kernel
theorem d9_18 : decode method_2_code 18 = .ok (.iconst 1, 1) := by decide +kernel
theorem d9_19 : decode method_2_code 19 = .ok (.ireturn, 1) := by decide +kernel
theorem d9_20 : decode method_2_code 20 = .ok (.aload_n 0, 1) := by decide +kernel
theorem d9_21 : decode method_2_code 21 = .ok (.iconst 2, 1) := by decide +kernel
theorem d9_22 : decode method_2_code 22 = .ok (.laload, 1) := by decide +kernel
theorem d9_23 : decode method_2_code 23 = .ok (.lload_n 1, 1) := by decide +kernel
theorem d9_24 : decode method_2_code 24 = .ok (.lcmp, 1) := by decide +kernel
theorem d9_25 : decode method_2_code 25 = .ok (.ifCond .ne 5, 3) := by decide +kernel
theorem d9_28 : decode method_2_code 28 = .ok (.iconst 2, 1) := by decide +kernel
theorem d9_29 : decode method_2_code 29 = .ok (.ireturn, 1) := by decide +kernel
theorem d9_30 : decode method_2_code 30 = .ok (.aload_n 0, 1) := by decide +kernel
theorem d9_31 : decode method_2_code 31 = .ok (.iconst 3, 1) := by decide +kernel
theorem d9_32 : decode method_2_code 32 = .ok (.laload, 1) := by decide +kernel
theorem d9_33 : decode method_2_code 33 = .ok (.lload_n 1, 1) := by decide +kernel
theorem d9_34 : decode method_2_code 34 = .ok (.lcmp, 1) := by decide +kernel
theorem d9_35 : decode method_2_code 35 = .ok (.ifCond .ne 5, 3) := by decide +kernel
theorem d9_38 : decode method_2_code 38 = .ok (.iconst 3, 1) := by decide +kernel
theorem d9_39 : decode method_2_code 39 = .ok (.ireturn, 1) := by decide +kernel
theorem d9_40 : decode method_2_code 40 = .ok (.aload_n 0, 1) := by decide +kernel
theorem d9_41 : decode method_2_code 41 = .ok (.iconst 4, 1) := by decide +kernel
theorem d9_42 : decode method_2_code 42 = .ok (.laload, 1) := by decide +kernel
theorem d9_43 : decode method_2_code 43 = .ok (.lload_n 1, 1) := by decide +kernel
theorem d9_44 : decode method_2_code 44 = .ok (.lcmp, 1) := by decide +kernel
theorem d9_45 : decode method_2_code 45 = .ok (.ifCond .ne 5, 3) := by decide +kernel
theorem d9_48 : decode method_2_code 48 = .ok (.iconst 4, 1) := by decide +kernel
theorem d9_49 : decode method_2_code 49 = .ok (.ireturn, 1) := by decide +kernel
theorem d9_50 : decode method_2_code 50 = .ok (.aload_n 0, 1) := by decide +kernel
theorem d9_51 : decode method_2_code 51 = .ok (.iconst 5, 1) := by decide +kernel
theorem d9_52 : decode method_2_code 52 = .ok (.laload, 1) := by decide +kernel
theorem d9_53 : decode method_2_code 53 = .ok (.lload_n 1, 1) := by decide +kernel
theorem d9_54 : decode method_2_code 54 = .ok (.lcmp, 1) := by decide +kernel
theorem d9_55 : decode method_2_code 55 = .ok (.ifCond .ne 5, 3) := by decide +kernel
theorem d9_58 : decode method_2_code 58 = .ok (.iconst 5, 1) := by decide +kernel
theorem d9_59 : decode method_2_code 59 = .ok (.ireturn, 1) := by decide +kernel
theorem d9_60 : decode method_2_code 60 = .ok (.aload_n 0, 1) := by decide +kernel
theorem d9_61 : decode method_2_code 61 = .ok (.bipush 6, 2) := by decide +kernel
theorem d9_63 : decode method_2_code 63 = .ok (.laload, 1) := by decide +kernel
theorem d9_64 : decode method_2_code 64 = .ok (.lload_n 1, 1) := by decide +kernel
theorem d9_65 : decode method_2_code 65 = .ok (.lcmp, 1) := by decide +kernel
theorem d9_66 : decode method_2_code 66 = .ok (.ifCond .ne 6, 3) := by decide +kernel
theorem d9_69 : decode method_2_code 69 = .ok (.bipush 6, 2) := by decide +kernel
theorem d9_71 : decode method_2_code 71 = .ok (.ireturn, 1) := by decide +kernel
theorem d9_72 : decode method_2_code 72 = .ok (.aload_n 0, 1) := by decide +kernel
theorem d9_73 : decode method_2_code 73 = .ok (.bipush 7, 2) := by decide +kernel
theorem d9_75 : decode method_2_code 75 = .ok (.laload, 1) := by decide +kernel
theorem d9_76 : decode method_2_code 76 = .ok (.lload_n 1, 1) := by decide +kernel
theorem d9_77 : decode method_2_code 77 = .ok (.lcmp, 1) := by decide +kernel
theorem d9_78 : decode method_2_code 78 = .ok (.ifCond .ne 6, 3) := by decide +kernel
theorem d9_81 : decode method_2_code 81 = .ok (.bipush 7, 2) := by decide +kernel
theorem d9_83 : decode method_2_code 83 = .ok (.ireturn, 1) := by decide +kernel
theorem d9_84 : decode method_2_code 84 = .ok (.aload_n 0, 1) := by decide +kernel
theorem d9_85 : decode method_2_code 85 = .ok (.bipush 8, 2) := by decide +kernel
theorem d9_87 : decode method_2_code 87 = .ok (.laload, 1) := by decide +kernel
theorem d9_88 : decode method_2_code 88 = .ok (.lload_n 1, 1) := by decide +kernel
theorem d9_89 : decode method_2_code 89 = .ok (.lcmp, 1) := by decide +kernel
theorem d9_90 : decode method_2_code 90 = .ok (.ifCond .ne 6, 3) := by decide +kernel
theorem d9_93 : decode method_2_code 93 = .ok (.bipush 8, 2) := by decide +kernel
theorem d9_95 : decode method_2_code 95 = .ok (.ireturn, 1) := by decide +kernel
theorem d9_96 : decode method_2_code 96 = .ok (.iconst (-1), 1) := by decide +kernel
theorem d9_97 : decode method_2_code 97 = .ok (.ireturn, 1) := by decide +kernel
theorem pn_1 : plainName "com/example/talthybius/talthybius/AwaitedPingsAnswerPinLaw" = true := by first | (simp [plainName, overriddenIn]; done) | decide +kernel
theorem ef_idxF (m : MethodId) (x0 : Addr) (x1 : Int64) : entryFrame m #[(.ref x0), (.long x1)] 3 = mkF m 0 #[.val (.ref x0), .val (.long x1), .second] [] := by first | (simp [entryFrame, mkF, argsToLocals, Value.category]; done) | rfl
def idxF (tx : Int64) (ss : List Int64) : Int32 := (if (ss.getD 0 (0 : Int64)) = tx then (0 : Int32) else (if (ss.getD 1 (0 : Int64)) = tx then (1 : Int32) else (if (ss.getD 2 (0 : Int64)) = tx then (2 : Int32) else (if (ss.getD 3 (0 : Int64)) = tx then (3 : Int32) else (if (ss.getD 4 (0 : Int64)) = tx then (4 : Int32) else (if (ss.getD 5 (0 : Int64)) = tx then (5 : Int32) else (if (ss.getD 6 (0 : Int64)) = tx then (6 : Int32) else (if (ss.getD 7 (0 : Int64)) = tx then (7 : Int32) else (if (ss.getD 8 (0 : Int64)) = tx then (8 : Int32) else (-1 : Int32))))))))))
def QidxF (Z : State) (aX : Addr) (tx : Int64) (ss : List Int64) (RES : Int32) (h0 : Heap) (n0 : Nat) (v : Option Value) (h : Heap) (L : List Loc) : Prop := v = some (.int RES) ∧ Fr n0 L ∧ h = h0
set_option maxRecDepth 65536 in
set_option maxHeartbeats 40000000 in
theorem rm_idxF (l : Launch) (Z : State) (a0 : Array Value) (hw : ∀ d ∈ tables_1, d.before a0 Z = true) (ws : List Jvm.Cond) (aX : Addr) (tx : Int64) (ss : List Int64) (h0 : Heap) (n0 : Nat) (Z0 : n0 ≤ h0.size) (F0 : VA Z h0 aX .long (ss.map Value.long)) (h9 : ss.length = 9) :
    MetFree l (⟨"com/example/talthybius/talthybius/AwaitedPingsAnswerPinLaw", "indexOf", "([JJ)I"⟩ : MethodName) (head1 (Jvm.Cond.code (⟨"com/example/talthybius/talthybius/AwaitedPingsAnswerPinLaw", "indexOf", "([JJ)I"⟩ : MethodName) method_2_code 3 (some .int) :: ws) ({ frames := 0, cells := 0, slots := 0, locals := 0 } : Room)) (fun A_ U => A_ = #[(.ref aX), (.long tx)] ∧ Z.Warmed39 U.vm ∧ U.heap = h0) (fun _ _ _ _ _ => True) (fun _ U o U' => ∃ v L, o = .returned v ∧ QidxF Z aX tx ss (idxF tx ss) h0 n0 v U'.heap L ∧ FrameEnd U o U' L ({ frames := 0, cells := 0, slots := 0, locals := 0 } : Room).cells ({ frames := 0, cells := 0, slots := 0, locals := 0 } : Room).slots) := by
  refine MetFree.of_bodySF (plainFor_of_name pn_1) hisR ?_
  intro p e s m args below meth c s₁ Bd hml0 hP hK
  obtain ⟨rfl, hZ, hh⟩ := hP
  have hx := Bd.exec
  have hby := Bd.bytes
  have hml : c.maxLocals = 3 := hml0
  have hown : s.vm.findClass "com/example/talthybius/talthybius/AwaitedPingsAnswerPinLaw" = some m.cls := findClass_of_methodNamed Bd.named
  have hnm := (name_of_methodNamed Bd.named Bd.method).1
  have X0 : Stand p l e ({ frames := 0, cells := 0, slots := 0, locals := 0 } : Room) s m #[(.ref aX), (.long tx)] below meth c s₁ [] 0 0 := Stand.of_body Bd
  have e0 : s₁.heap = h0 := by rw [← hh, Bd.state]; rfl
  have N0 := Fr.nil n0
  obtain ⟨RES, hf⟩ : ∃ z, z = idxF tx ss := ⟨_, rfl⟩
  rw [← hf]
  rw [idxF] at hf
  suffices HGO : Go p e below s (QidxF Z aX tx ss RES h0 n0) ({ frames := 0, cells := 0, slots := 0, locals := 0 } : Room).cells ({ frames := 0, cells := 0, slots := 0, locals := 0 } : Room).slots s₁ (mkF m 0 #[.val (.ref aX), .val (.long tx), .second] []) from Go.cast (ef_idxF m aX tx) HGO
  have ix1 : 0 ≤ ((0 : Int32)).toInt ∧ ((0 : Int32)).toInt < ((ss).length : Int) := ⟨by decide, by rw [h9]; decide⟩
  refine Go.step (T' := s₁) (f' := (mkF m 5 #[.val (.ref aX), .val (.long tx), .second] [(.int (lcmpW (ss.getD 0 (0 : Int64)) tx))])) (fun t kt => ?_) ?_
  · show Steps p.tables e below (s₁.setTop (mkF m 0 #[.val (.ref aX), .val (.long tx), .second] [])) _
    refine XS.aloadN X0.here hx rfl (hb hby d9_0) rfl rfl ?_
    show Steps p.tables e below (s₁.setTop (mkF m 1 #[.val (.ref aX), .val (.long tx), .second] [(.ref aX)])) _
    refine XS.iconst X0.here hx rfl (hb hby d9_1) ?_
    show Steps p.tables e below (s₁.setTop (mkF m 2 #[.val (.ref aX), .val (.long tx), .second] [(.int (0 : Int32)), (.ref aX)])) _
    refine ldJ X0 hx hZ e0 F0 ix1.1 ix1.2 (g := (mkF m 2 #[.val (.ref aX), .val (.long tx), .second] [(.int (0 : Int32)), (.ref aX)])) rfl rfl (hb hby d9_2) _ ?_
    show Steps p.tables e below (s₁.setTop (mkF m 3 #[.val (.ref aX), .val (.long tx), .second] [(.long (ss.getD 0 (0 : Int64)))])) _
    refine XS.lloadN X0.here hx rfl (hb hby d9_3) rfl ?_
    show Steps p.tables e below (s₁.setTop (mkF m 4 #[.val (.ref aX), .val (.long tx), .second] [(.long tx), (.long (ss.getD 0 (0 : Int64)))])) _
    refine XS.lcmp X0.here hx rfl (hb hby d9_4) rfl ?_
    exact kt
  by_cases hc2 : (ss.getD 0 (0 : Int64)) = tx
  · rw [if_pos hc2] at hf
    refine Go.step (T' := s₁) (f' := (mkF m 8 #[.val (.ref aX), .val (.long tx), .second] [])) (fun t kt => ?_) ?_
    · show Steps p.tables e below (s₁.setTop (mkF m 5 #[.val (.ref aX), .val (.long tx), .second] [(.int (lcmpW (ss.getD 0 (0 : Int64)) tx))])) _
      refine XS.ifNo X0.here hx rfl (hb hby d9_5) rfl ((if0 _ _).trans (teq ((lw_eq _ _).mpr hc2)).2) ?_
      exact kt
    refine Go.step (T' := s₁) (f' := (mkF m 9 #[.val (.ref aX), .val (.long tx), .second] [(.int (0 : Int32))])) (fun t kt => ?_) ?_
    · show Steps p.tables e below (s₁.setTop (mkF m 8 #[.val (.ref aX), .val (.long tx), .second] [])) _
      refine XS.iconst X0.here hx rfl (hb hby d9_8) ?_
      exact kt
    refine Go.fin X0 (v := some (.int (0 : Int32))) (fun h => by rw [Bd.returns] at h; cases h) Bd.notSynchronized ?_ (Nat.le_trans (Nat.le_refl 0) (by decide)) (Nat.le_trans (Nat.le_refl 0) (by decide)) (fun fs hr => retI X0 hx Bd.returns (hb hby d9_9) hr)
    · exact ⟨by rw [hf], N0, e0⟩
  · rw [if_neg hc2] at hf
    refine Go.step (T' := s₁) (f' := (mkF m 10 #[.val (.ref aX), .val (.long tx), .second] [])) (fun t kt => ?_) ?_
    · show Steps p.tables e below (s₁.setTop (mkF m 5 #[.val (.ref aX), .val (.long tx), .second] [(.int (lcmpW (ss.getD 0 (0 : Int64)) tx))])) _
      refine XS.ifYes X0.here hx rfl (pc0 := 5) (pc' := 10) rfl (hb hby d9_5) rfl ((if0 _ _).trans (feq (fun q => hc2 ((lw_eq _ _).mp q))).2) (by decide) (by decide) ?_
      exact kt
    have ix3 : 0 ≤ ((1 : Int32)).toInt ∧ ((1 : Int32)).toInt < ((ss).length : Int) := ⟨by decide, by rw [h9]; decide⟩
    refine Go.step (T' := s₁) (f' := (mkF m 15 #[.val (.ref aX), .val (.long tx), .second] [(.int (lcmpW (ss.getD 1 (0 : Int64)) tx))])) (fun t kt => ?_) ?_
    · show Steps p.tables e below (s₁.setTop (mkF m 10 #[.val (.ref aX), .val (.long tx), .second] [])) _
      refine XS.aloadN X0.here hx rfl (hb hby d9_10) rfl rfl ?_
      show Steps p.tables e below (s₁.setTop (mkF m 11 #[.val (.ref aX), .val (.long tx), .second] [(.ref aX)])) _
      refine XS.iconst X0.here hx rfl (hb hby d9_11) ?_
      show Steps p.tables e below (s₁.setTop (mkF m 12 #[.val (.ref aX), .val (.long tx), .second] [(.int (1 : Int32)), (.ref aX)])) _
      refine ldJ X0 hx hZ e0 F0 ix3.1 ix3.2 (g := (mkF m 12 #[.val (.ref aX), .val (.long tx), .second] [(.int (1 : Int32)), (.ref aX)])) rfl rfl (hb hby d9_12) _ ?_
      show Steps p.tables e below (s₁.setTop (mkF m 13 #[.val (.ref aX), .val (.long tx), .second] [(.long (ss.getD 1 (0 : Int64)))])) _
      refine XS.lloadN X0.here hx rfl (hb hby d9_13) rfl ?_
      show Steps p.tables e below (s₁.setTop (mkF m 14 #[.val (.ref aX), .val (.long tx), .second] [(.long tx), (.long (ss.getD 1 (0 : Int64)))])) _
      refine XS.lcmp X0.here hx rfl (hb hby d9_14) rfl ?_
      exact kt
    by_cases hc4 : (ss.getD 1 (0 : Int64)) = tx
    · rw [if_pos hc4] at hf
      refine Go.step (T' := s₁) (f' := (mkF m 18 #[.val (.ref aX), .val (.long tx), .second] [])) (fun t kt => ?_) ?_
      · show Steps p.tables e below (s₁.setTop (mkF m 15 #[.val (.ref aX), .val (.long tx), .second] [(.int (lcmpW (ss.getD 1 (0 : Int64)) tx))])) _
        refine XS.ifNo X0.here hx rfl (hb hby d9_15) rfl ((if0 _ _).trans (teq ((lw_eq _ _).mpr hc4)).2) ?_
        exact kt
      refine Go.step (T' := s₁) (f' := (mkF m 19 #[.val (.ref aX), .val (.long tx), .second] [(.int (1 : Int32))])) (fun t kt => ?_) ?_
      · show Steps p.tables e below (s₁.setTop (mkF m 18 #[.val (.ref aX), .val (.long tx), .second] [])) _
        refine XS.iconst X0.here hx rfl (hb hby d9_18) ?_
        exact kt
      refine Go.fin X0 (v := some (.int (1 : Int32))) (fun h => by rw [Bd.returns] at h; cases h) Bd.notSynchronized ?_ (Nat.le_trans (Nat.le_refl 0) (by decide)) (Nat.le_trans (Nat.le_refl 0) (by decide)) (fun fs hr => retI X0 hx Bd.returns (hb hby d9_19) hr)
      · exact ⟨by rw [hf], N0, e0⟩
    · rw [if_neg hc4] at hf
      refine Go.step (T' := s₁) (f' := (mkF m 20 #[.val (.ref aX), .val (.long tx), .second] [])) (fun t kt => ?_) ?_
      · show Steps p.tables e below (s₁.setTop (mkF m 15 #[.val (.ref aX), .val (.long tx), .second] [(.int (lcmpW (ss.getD 1 (0 : Int64)) tx))])) _
        refine XS.ifYes X0.here hx rfl (pc0 := 15) (pc' := 20) rfl (hb hby d9_15) rfl ((if0 _ _).trans (feq (fun q => hc4 ((lw_eq _ _).mp q))).2) (by decide) (by decide) ?_
        exact kt
      have ix5 : 0 ≤ ((2 : Int32)).toInt ∧ ((2 : Int32)).toInt < ((ss).length : Int) := ⟨by decide, by rw [h9]; decide⟩
      refine Go.step (T' := s₁) (f' := (mkF m 25 #[.val (.ref aX), .val (.long tx), .second] [(.int (lcmpW (ss.getD 2 (0 : Int64)) tx))])) (fun t kt => ?_) ?_
      · show Steps p.tables e below (s₁.setTop (mkF m 20 #[.val (.ref aX), .val (.long tx), .second] [])) _
        refine XS.aloadN X0.here hx rfl (hb hby d9_20) rfl rfl ?_
        show Steps p.tables e below (s₁.setTop (mkF m 21 #[.val (.ref aX), .val (.long tx), .second] [(.ref aX)])) _
        refine XS.iconst X0.here hx rfl (hb hby d9_21) ?_
        show Steps p.tables e below (s₁.setTop (mkF m 22 #[.val (.ref aX), .val (.long tx), .second] [(.int (2 : Int32)), (.ref aX)])) _
        refine ldJ X0 hx hZ e0 F0 ix5.1 ix5.2 (g := (mkF m 22 #[.val (.ref aX), .val (.long tx), .second] [(.int (2 : Int32)), (.ref aX)])) rfl rfl (hb hby d9_22) _ ?_
        show Steps p.tables e below (s₁.setTop (mkF m 23 #[.val (.ref aX), .val (.long tx), .second] [(.long (ss.getD 2 (0 : Int64)))])) _
        refine XS.lloadN X0.here hx rfl (hb hby d9_23) rfl ?_
        show Steps p.tables e below (s₁.setTop (mkF m 24 #[.val (.ref aX), .val (.long tx), .second] [(.long tx), (.long (ss.getD 2 (0 : Int64)))])) _
        refine XS.lcmp X0.here hx rfl (hb hby d9_24) rfl ?_
        exact kt
      by_cases hc6 : (ss.getD 2 (0 : Int64)) = tx
      · rw [if_pos hc6] at hf
        refine Go.step (T' := s₁) (f' := (mkF m 28 #[.val (.ref aX), .val (.long tx), .second] [])) (fun t kt => ?_) ?_
        · show Steps p.tables e below (s₁.setTop (mkF m 25 #[.val (.ref aX), .val (.long tx), .second] [(.int (lcmpW (ss.getD 2 (0 : Int64)) tx))])) _
          refine XS.ifNo X0.here hx rfl (hb hby d9_25) rfl ((if0 _ _).trans (teq ((lw_eq _ _).mpr hc6)).2) ?_
          exact kt
        refine Go.step (T' := s₁) (f' := (mkF m 29 #[.val (.ref aX), .val (.long tx), .second] [(.int (2 : Int32))])) (fun t kt => ?_) ?_
        · show Steps p.tables e below (s₁.setTop (mkF m 28 #[.val (.ref aX), .val (.long tx), .second] [])) _
          refine XS.iconst X0.here hx rfl (hb hby d9_28) ?_
          exact kt
        refine Go.fin X0 (v := some (.int (2 : Int32))) (fun h => by rw [Bd.returns] at h; cases h) Bd.notSynchronized ?_ (Nat.le_trans (Nat.le_refl 0) (by decide)) (Nat.le_trans (Nat.le_refl 0) (by decide)) (fun fs hr => retI X0 hx Bd.returns (hb hby d9_29) hr)
        · exact ⟨by rw [hf], N0, e0⟩
      · rw [if_neg hc6] at hf
        refine Go.step (T' := s₁) (f' := (mkF m 30 #[.val (.ref aX), .val (.long tx), .second] [])) (fun t kt => ?_) ?_
        · show Steps p.tables e below (s₁.setTop (mkF m 25 #[.val (.ref aX), .val (.long tx), .second] [(.int (lcmpW (ss.getD 2 (0 : Int64)) tx))])) _
          refine XS.ifYes X0.here hx rfl (pc0 := 25) (pc' := 30) rfl (hb hby d9_25) rfl ((if0 _ _).trans (feq (fun q => hc6 ((lw_eq _ _).mp q))).2) (by decide) (by decide) ?_
          exact kt
        have ix7 : 0 ≤ ((3 : Int32)).toInt ∧ ((3 : Int32)).toInt < ((ss).length : Int) := ⟨by decide, by rw [h9]; decide⟩
        refine Go.step (T' := s₁) (f' := (mkF m 35 #[.val (.ref aX), .val (.long tx), .second] [(.int (lcmpW (ss.getD 3 (0 : Int64)) tx))])) (fun t kt => ?_) ?_
        · show Steps p.tables e below (s₁.setTop (mkF m 30 #[.val (.ref aX), .val (.long tx), .second] [])) _
          refine XS.aloadN X0.here hx rfl (hb hby d9_30) rfl rfl ?_
          show Steps p.tables e below (s₁.setTop (mkF m 31 #[.val (.ref aX), .val (.long tx), .second] [(.ref aX)])) _
          refine XS.iconst X0.here hx rfl (hb hby d9_31) ?_
          show Steps p.tables e below (s₁.setTop (mkF m 32 #[.val (.ref aX), .val (.long tx), .second] [(.int (3 : Int32)), (.ref aX)])) _
          refine ldJ X0 hx hZ e0 F0 ix7.1 ix7.2 (g := (mkF m 32 #[.val (.ref aX), .val (.long tx), .second] [(.int (3 : Int32)), (.ref aX)])) rfl rfl (hb hby d9_32) _ ?_
          show Steps p.tables e below (s₁.setTop (mkF m 33 #[.val (.ref aX), .val (.long tx), .second] [(.long (ss.getD 3 (0 : Int64)))])) _
          refine XS.lloadN X0.here hx rfl (hb hby d9_33) rfl ?_
          show Steps p.tables e below (s₁.setTop (mkF m 34 #[.val (.ref aX), .val (.long tx), .second] [(.long tx), (.long (ss.getD 3 (0 : Int64)))])) _
          refine XS.lcmp X0.here hx rfl (hb hby d9_34) rfl ?_
          exact kt
        by_cases hc8 : (ss.getD 3 (0 : Int64)) = tx
        · rw [if_pos hc8] at hf
          refine Go.step (T' := s₁) (f' := (mkF m 38 #[.val (.ref aX), .val (.long tx), .second] [])) (fun t kt => ?_) ?_
          · show Steps p.tables e below (s₁.setTop (mkF m 35 #[.val (.ref aX), .val (.long tx), .second] [(.int (lcmpW (ss.getD 3 (0 : Int64)) tx))])) _
            refine XS.ifNo X0.here hx rfl (hb hby d9_35) rfl ((if0 _ _).trans (teq ((lw_eq _ _).mpr hc8)).2) ?_
            exact kt
          refine Go.step (T' := s₁) (f' := (mkF m 39 #[.val (.ref aX), .val (.long tx), .second] [(.int (3 : Int32))])) (fun t kt => ?_) ?_
          · show Steps p.tables e below (s₁.setTop (mkF m 38 #[.val (.ref aX), .val (.long tx), .second] [])) _
            refine XS.iconst X0.here hx rfl (hb hby d9_38) ?_
            exact kt
          refine Go.fin X0 (v := some (.int (3 : Int32))) (fun h => by rw [Bd.returns] at h; cases h) Bd.notSynchronized ?_ (Nat.le_trans (Nat.le_refl 0) (by decide)) (Nat.le_trans (Nat.le_refl 0) (by decide)) (fun fs hr => retI X0 hx Bd.returns (hb hby d9_39) hr)
          · exact ⟨by rw [hf], N0, e0⟩
        · rw [if_neg hc8] at hf
          refine Go.step (T' := s₁) (f' := (mkF m 40 #[.val (.ref aX), .val (.long tx), .second] [])) (fun t kt => ?_) ?_
          · show Steps p.tables e below (s₁.setTop (mkF m 35 #[.val (.ref aX), .val (.long tx), .second] [(.int (lcmpW (ss.getD 3 (0 : Int64)) tx))])) _
            refine XS.ifYes X0.here hx rfl (pc0 := 35) (pc' := 40) rfl (hb hby d9_35) rfl ((if0 _ _).trans (feq (fun q => hc8 ((lw_eq _ _).mp q))).2) (by decide) (by decide) ?_
            exact kt
          have ix9 : 0 ≤ ((4 : Int32)).toInt ∧ ((4 : Int32)).toInt < ((ss).length : Int) := ⟨by decide, by rw [h9]; decide⟩
          refine Go.step (T' := s₁) (f' := (mkF m 45 #[.val (.ref aX), .val (.long tx), .second] [(.int (lcmpW (ss.getD 4 (0 : Int64)) tx))])) (fun t kt => ?_) ?_
          · show Steps p.tables e below (s₁.setTop (mkF m 40 #[.val (.ref aX), .val (.long tx), .second] [])) _
            refine XS.aloadN X0.here hx rfl (hb hby d9_40) rfl rfl ?_
            show Steps p.tables e below (s₁.setTop (mkF m 41 #[.val (.ref aX), .val (.long tx), .second] [(.ref aX)])) _
            refine XS.iconst X0.here hx rfl (hb hby d9_41) ?_
            show Steps p.tables e below (s₁.setTop (mkF m 42 #[.val (.ref aX), .val (.long tx), .second] [(.int (4 : Int32)), (.ref aX)])) _
            refine ldJ X0 hx hZ e0 F0 ix9.1 ix9.2 (g := (mkF m 42 #[.val (.ref aX), .val (.long tx), .second] [(.int (4 : Int32)), (.ref aX)])) rfl rfl (hb hby d9_42) _ ?_
            show Steps p.tables e below (s₁.setTop (mkF m 43 #[.val (.ref aX), .val (.long tx), .second] [(.long (ss.getD 4 (0 : Int64)))])) _
            refine XS.lloadN X0.here hx rfl (hb hby d9_43) rfl ?_
            show Steps p.tables e below (s₁.setTop (mkF m 44 #[.val (.ref aX), .val (.long tx), .second] [(.long tx), (.long (ss.getD 4 (0 : Int64)))])) _
            refine XS.lcmp X0.here hx rfl (hb hby d9_44) rfl ?_
            exact kt
          by_cases hc10 : (ss.getD 4 (0 : Int64)) = tx
          · rw [if_pos hc10] at hf
            refine Go.step (T' := s₁) (f' := (mkF m 48 #[.val (.ref aX), .val (.long tx), .second] [])) (fun t kt => ?_) ?_
            · show Steps p.tables e below (s₁.setTop (mkF m 45 #[.val (.ref aX), .val (.long tx), .second] [(.int (lcmpW (ss.getD 4 (0 : Int64)) tx))])) _
              refine XS.ifNo X0.here hx rfl (hb hby d9_45) rfl ((if0 _ _).trans (teq ((lw_eq _ _).mpr hc10)).2) ?_
              exact kt
            refine Go.step (T' := s₁) (f' := (mkF m 49 #[.val (.ref aX), .val (.long tx), .second] [(.int (4 : Int32))])) (fun t kt => ?_) ?_
            · show Steps p.tables e below (s₁.setTop (mkF m 48 #[.val (.ref aX), .val (.long tx), .second] [])) _
              refine XS.iconst X0.here hx rfl (hb hby d9_48) ?_
              exact kt
            refine Go.fin X0 (v := some (.int (4 : Int32))) (fun h => by rw [Bd.returns] at h; cases h) Bd.notSynchronized ?_ (Nat.le_trans (Nat.le_refl 0) (by decide)) (Nat.le_trans (Nat.le_refl 0) (by decide)) (fun fs hr => retI X0 hx Bd.returns (hb hby d9_49) hr)
            · exact ⟨by rw [hf], N0, e0⟩
          · rw [if_neg hc10] at hf
            refine Go.step (T' := s₁) (f' := (mkF m 50 #[.val (.ref aX), .val (.long tx), .second] [])) (fun t kt => ?_) ?_
            · show Steps p.tables e below (s₁.setTop (mkF m 45 #[.val (.ref aX), .val (.long tx), .second] [(.int (lcmpW (ss.getD 4 (0 : Int64)) tx))])) _
              refine XS.ifYes X0.here hx rfl (pc0 := 45) (pc' := 50) rfl (hb hby d9_45) rfl ((if0 _ _).trans (feq (fun q => hc10 ((lw_eq _ _).mp q))).2) (by decide) (by decide) ?_
              exact kt
            have ix11 : 0 ≤ ((5 : Int32)).toInt ∧ ((5 : Int32)).toInt < ((ss).length : Int) := ⟨by decide, by rw [h9]; decide⟩
            refine Go.step (T' := s₁) (f' := (mkF m 55 #[.val (.ref aX), .val (.long tx), .second] [(.int (lcmpW (ss.getD 5 (0 : Int64)) tx))])) (fun t kt => ?_) ?_
            · show Steps p.tables e below (s₁.setTop (mkF m 50 #[.val (.ref aX), .val (.long tx), .second] [])) _
              refine XS.aloadN X0.here hx rfl (hb hby d9_50) rfl rfl ?_
              show Steps p.tables e below (s₁.setTop (mkF m 51 #[.val (.ref aX), .val (.long tx), .second] [(.ref aX)])) _
              refine XS.iconst X0.here hx rfl (hb hby d9_51) ?_
              show Steps p.tables e below (s₁.setTop (mkF m 52 #[.val (.ref aX), .val (.long tx), .second] [(.int (5 : Int32)), (.ref aX)])) _
              refine ldJ X0 hx hZ e0 F0 ix11.1 ix11.2 (g := (mkF m 52 #[.val (.ref aX), .val (.long tx), .second] [(.int (5 : Int32)), (.ref aX)])) rfl rfl (hb hby d9_52) _ ?_
              show Steps p.tables e below (s₁.setTop (mkF m 53 #[.val (.ref aX), .val (.long tx), .second] [(.long (ss.getD 5 (0 : Int64)))])) _
              refine XS.lloadN X0.here hx rfl (hb hby d9_53) rfl ?_
              show Steps p.tables e below (s₁.setTop (mkF m 54 #[.val (.ref aX), .val (.long tx), .second] [(.long tx), (.long (ss.getD 5 (0 : Int64)))])) _
              refine XS.lcmp X0.here hx rfl (hb hby d9_54) rfl ?_
              exact kt
            by_cases hc12 : (ss.getD 5 (0 : Int64)) = tx
            · rw [if_pos hc12] at hf
              refine Go.step (T' := s₁) (f' := (mkF m 58 #[.val (.ref aX), .val (.long tx), .second] [])) (fun t kt => ?_) ?_
              · show Steps p.tables e below (s₁.setTop (mkF m 55 #[.val (.ref aX), .val (.long tx), .second] [(.int (lcmpW (ss.getD 5 (0 : Int64)) tx))])) _
                refine XS.ifNo X0.here hx rfl (hb hby d9_55) rfl ((if0 _ _).trans (teq ((lw_eq _ _).mpr hc12)).2) ?_
                exact kt
              refine Go.step (T' := s₁) (f' := (mkF m 59 #[.val (.ref aX), .val (.long tx), .second] [(.int (5 : Int32))])) (fun t kt => ?_) ?_
              · show Steps p.tables e below (s₁.setTop (mkF m 58 #[.val (.ref aX), .val (.long tx), .second] [])) _
                refine XS.iconst X0.here hx rfl (hb hby d9_58) ?_
                exact kt
              refine Go.fin X0 (v := some (.int (5 : Int32))) (fun h => by rw [Bd.returns] at h; cases h) Bd.notSynchronized ?_ (Nat.le_trans (Nat.le_refl 0) (by decide)) (Nat.le_trans (Nat.le_refl 0) (by decide)) (fun fs hr => retI X0 hx Bd.returns (hb hby d9_59) hr)
              · exact ⟨by rw [hf], N0, e0⟩
            · rw [if_neg hc12] at hf
              refine Go.step (T' := s₁) (f' := (mkF m 60 #[.val (.ref aX), .val (.long tx), .second] [])) (fun t kt => ?_) ?_
              · show Steps p.tables e below (s₁.setTop (mkF m 55 #[.val (.ref aX), .val (.long tx), .second] [(.int (lcmpW (ss.getD 5 (0 : Int64)) tx))])) _
                refine XS.ifYes X0.here hx rfl (pc0 := 55) (pc' := 60) rfl (hb hby d9_55) rfl ((if0 _ _).trans (feq (fun q => hc12 ((lw_eq _ _).mp q))).2) (by decide) (by decide) ?_
                exact kt
              have ix13 : 0 ≤ ((6 : Int32)).toInt ∧ ((6 : Int32)).toInt < ((ss).length : Int) := ⟨by decide, by rw [h9]; decide⟩
              refine Go.step (T' := s₁) (f' := (mkF m 66 #[.val (.ref aX), .val (.long tx), .second] [(.int (lcmpW (ss.getD 6 (0 : Int64)) tx))])) (fun t kt => ?_) ?_
              · show Steps p.tables e below (s₁.setTop (mkF m 60 #[.val (.ref aX), .val (.long tx), .second] [])) _
                refine XS.aloadN X0.here hx rfl (hb hby d9_60) rfl rfl ?_
                show Steps p.tables e below (s₁.setTop (mkF m 61 #[.val (.ref aX), .val (.long tx), .second] [(.ref aX)])) _
                refine XS.bipush X0.here hx rfl (hb hby d9_61) ?_
                show Steps p.tables e below (s₁.setTop (mkF m 63 #[.val (.ref aX), .val (.long tx), .second] [(.int (6 : Int32)), (.ref aX)])) _
                refine ldJ X0 hx hZ e0 F0 ix13.1 ix13.2 (g := (mkF m 63 #[.val (.ref aX), .val (.long tx), .second] [(.int (6 : Int32)), (.ref aX)])) rfl rfl (hb hby d9_63) _ ?_
                show Steps p.tables e below (s₁.setTop (mkF m 64 #[.val (.ref aX), .val (.long tx), .second] [(.long (ss.getD 6 (0 : Int64)))])) _
                refine XS.lloadN X0.here hx rfl (hb hby d9_64) rfl ?_
                show Steps p.tables e below (s₁.setTop (mkF m 65 #[.val (.ref aX), .val (.long tx), .second] [(.long tx), (.long (ss.getD 6 (0 : Int64)))])) _
                refine XS.lcmp X0.here hx rfl (hb hby d9_65) rfl ?_
                exact kt
              by_cases hc14 : (ss.getD 6 (0 : Int64)) = tx
              · rw [if_pos hc14] at hf
                refine Go.step (T' := s₁) (f' := (mkF m 69 #[.val (.ref aX), .val (.long tx), .second] [])) (fun t kt => ?_) ?_
                · show Steps p.tables e below (s₁.setTop (mkF m 66 #[.val (.ref aX), .val (.long tx), .second] [(.int (lcmpW (ss.getD 6 (0 : Int64)) tx))])) _
                  refine XS.ifNo X0.here hx rfl (hb hby d9_66) rfl ((if0 _ _).trans (teq ((lw_eq _ _).mpr hc14)).2) ?_
                  exact kt
                refine Go.step (T' := s₁) (f' := (mkF m 71 #[.val (.ref aX), .val (.long tx), .second] [(.int (6 : Int32))])) (fun t kt => ?_) ?_
                · show Steps p.tables e below (s₁.setTop (mkF m 69 #[.val (.ref aX), .val (.long tx), .second] [])) _
                  refine XS.bipush X0.here hx rfl (hb hby d9_69) ?_
                  exact kt
                refine Go.fin X0 (v := some (.int (6 : Int32))) (fun h => by rw [Bd.returns] at h; cases h) Bd.notSynchronized ?_ (Nat.le_trans (Nat.le_refl 0) (by decide)) (Nat.le_trans (Nat.le_refl 0) (by decide)) (fun fs hr => retI X0 hx Bd.returns (hb hby d9_71) hr)
                · exact ⟨by rw [hf], N0, e0⟩
              · rw [if_neg hc14] at hf
                refine Go.step (T' := s₁) (f' := (mkF m 72 #[.val (.ref aX), .val (.long tx), .second] [])) (fun t kt => ?_) ?_
                · show Steps p.tables e below (s₁.setTop (mkF m 66 #[.val (.ref aX), .val (.long tx), .second] [(.int (lcmpW (ss.getD 6 (0 : Int64)) tx))])) _
                  refine XS.ifYes X0.here hx rfl (pc0 := 66) (pc' := 72) rfl (hb hby d9_66) rfl ((if0 _ _).trans (feq (fun q => hc14 ((lw_eq _ _).mp q))).2) (by decide) (by decide) ?_
                  exact kt
                have ix15 : 0 ≤ ((7 : Int32)).toInt ∧ ((7 : Int32)).toInt < ((ss).length : Int) := ⟨by decide, by rw [h9]; decide⟩
                refine Go.step (T' := s₁) (f' := (mkF m 78 #[.val (.ref aX), .val (.long tx), .second] [(.int (lcmpW (ss.getD 7 (0 : Int64)) tx))])) (fun t kt => ?_) ?_
                · show Steps p.tables e below (s₁.setTop (mkF m 72 #[.val (.ref aX), .val (.long tx), .second] [])) _
                  refine XS.aloadN X0.here hx rfl (hb hby d9_72) rfl rfl ?_
                  show Steps p.tables e below (s₁.setTop (mkF m 73 #[.val (.ref aX), .val (.long tx), .second] [(.ref aX)])) _
                  refine XS.bipush X0.here hx rfl (hb hby d9_73) ?_
                  show Steps p.tables e below (s₁.setTop (mkF m 75 #[.val (.ref aX), .val (.long tx), .second] [(.int (7 : Int32)), (.ref aX)])) _
                  refine ldJ X0 hx hZ e0 F0 ix15.1 ix15.2 (g := (mkF m 75 #[.val (.ref aX), .val (.long tx), .second] [(.int (7 : Int32)), (.ref aX)])) rfl rfl (hb hby d9_75) _ ?_
                  show Steps p.tables e below (s₁.setTop (mkF m 76 #[.val (.ref aX), .val (.long tx), .second] [(.long (ss.getD 7 (0 : Int64)))])) _
                  refine XS.lloadN X0.here hx rfl (hb hby d9_76) rfl ?_
                  show Steps p.tables e below (s₁.setTop (mkF m 77 #[.val (.ref aX), .val (.long tx), .second] [(.long tx), (.long (ss.getD 7 (0 : Int64)))])) _
                  refine XS.lcmp X0.here hx rfl (hb hby d9_77) rfl ?_
                  exact kt
                by_cases hc16 : (ss.getD 7 (0 : Int64)) = tx
                · rw [if_pos hc16] at hf
                  refine Go.step (T' := s₁) (f' := (mkF m 81 #[.val (.ref aX), .val (.long tx), .second] [])) (fun t kt => ?_) ?_
                  · show Steps p.tables e below (s₁.setTop (mkF m 78 #[.val (.ref aX), .val (.long tx), .second] [(.int (lcmpW (ss.getD 7 (0 : Int64)) tx))])) _
                    refine XS.ifNo X0.here hx rfl (hb hby d9_78) rfl ((if0 _ _).trans (teq ((lw_eq _ _).mpr hc16)).2) ?_
                    exact kt
                  refine Go.step (T' := s₁) (f' := (mkF m 83 #[.val (.ref aX), .val (.long tx), .second] [(.int (7 : Int32))])) (fun t kt => ?_) ?_
                  · show Steps p.tables e below (s₁.setTop (mkF m 81 #[.val (.ref aX), .val (.long tx), .second] [])) _
                    refine XS.bipush X0.here hx rfl (hb hby d9_81) ?_
                    exact kt
                  refine Go.fin X0 (v := some (.int (7 : Int32))) (fun h => by rw [Bd.returns] at h; cases h) Bd.notSynchronized ?_ (Nat.le_trans (Nat.le_refl 0) (by decide)) (Nat.le_trans (Nat.le_refl 0) (by decide)) (fun fs hr => retI X0 hx Bd.returns (hb hby d9_83) hr)
                  · exact ⟨by rw [hf], N0, e0⟩
                · rw [if_neg hc16] at hf
                  refine Go.step (T' := s₁) (f' := (mkF m 84 #[.val (.ref aX), .val (.long tx), .second] [])) (fun t kt => ?_) ?_
                  · show Steps p.tables e below (s₁.setTop (mkF m 78 #[.val (.ref aX), .val (.long tx), .second] [(.int (lcmpW (ss.getD 7 (0 : Int64)) tx))])) _
                    refine XS.ifYes X0.here hx rfl (pc0 := 78) (pc' := 84) rfl (hb hby d9_78) rfl ((if0 _ _).trans (feq (fun q => hc16 ((lw_eq _ _).mp q))).2) (by decide) (by decide) ?_
                    exact kt
                  have ix17 : 0 ≤ ((8 : Int32)).toInt ∧ ((8 : Int32)).toInt < ((ss).length : Int) := ⟨by decide, by rw [h9]; decide⟩
                  refine Go.step (T' := s₁) (f' := (mkF m 90 #[.val (.ref aX), .val (.long tx), .second] [(.int (lcmpW (ss.getD 8 (0 : Int64)) tx))])) (fun t kt => ?_) ?_
                  · show Steps p.tables e below (s₁.setTop (mkF m 84 #[.val (.ref aX), .val (.long tx), .second] [])) _
                    refine XS.aloadN X0.here hx rfl (hb hby d9_84) rfl rfl ?_
                    show Steps p.tables e below (s₁.setTop (mkF m 85 #[.val (.ref aX), .val (.long tx), .second] [(.ref aX)])) _
                    refine XS.bipush X0.here hx rfl (hb hby d9_85) ?_
                    show Steps p.tables e below (s₁.setTop (mkF m 87 #[.val (.ref aX), .val (.long tx), .second] [(.int (8 : Int32)), (.ref aX)])) _
                    refine ldJ X0 hx hZ e0 F0 ix17.1 ix17.2 (g := (mkF m 87 #[.val (.ref aX), .val (.long tx), .second] [(.int (8 : Int32)), (.ref aX)])) rfl rfl (hb hby d9_87) _ ?_
                    show Steps p.tables e below (s₁.setTop (mkF m 88 #[.val (.ref aX), .val (.long tx), .second] [(.long (ss.getD 8 (0 : Int64)))])) _
                    refine XS.lloadN X0.here hx rfl (hb hby d9_88) rfl ?_
                    show Steps p.tables e below (s₁.setTop (mkF m 89 #[.val (.ref aX), .val (.long tx), .second] [(.long tx), (.long (ss.getD 8 (0 : Int64)))])) _
                    refine XS.lcmp X0.here hx rfl (hb hby d9_89) rfl ?_
                    exact kt
                  by_cases hc18 : (ss.getD 8 (0 : Int64)) = tx
                  · rw [if_pos hc18] at hf
                    refine Go.step (T' := s₁) (f' := (mkF m 93 #[.val (.ref aX), .val (.long tx), .second] [])) (fun t kt => ?_) ?_
                    · show Steps p.tables e below (s₁.setTop (mkF m 90 #[.val (.ref aX), .val (.long tx), .second] [(.int (lcmpW (ss.getD 8 (0 : Int64)) tx))])) _
                      refine XS.ifNo X0.here hx rfl (hb hby d9_90) rfl ((if0 _ _).trans (teq ((lw_eq _ _).mpr hc18)).2) ?_
                      exact kt
                    refine Go.step (T' := s₁) (f' := (mkF m 95 #[.val (.ref aX), .val (.long tx), .second] [(.int (8 : Int32))])) (fun t kt => ?_) ?_
                    · show Steps p.tables e below (s₁.setTop (mkF m 93 #[.val (.ref aX), .val (.long tx), .second] [])) _
                      refine XS.bipush X0.here hx rfl (hb hby d9_93) ?_
                      exact kt
                    refine Go.fin X0 (v := some (.int (8 : Int32))) (fun h => by rw [Bd.returns] at h; cases h) Bd.notSynchronized ?_ (Nat.le_trans (Nat.le_refl 0) (by decide)) (Nat.le_trans (Nat.le_refl 0) (by decide)) (fun fs hr => retI X0 hx Bd.returns (hb hby d9_95) hr)
                    · exact ⟨by rw [hf], N0, e0⟩
                  · rw [if_neg hc18] at hf
                    refine Go.step (T' := s₁) (f' := (mkF m 96 #[.val (.ref aX), .val (.long tx), .second] [])) (fun t kt => ?_) ?_
                    · show Steps p.tables e below (s₁.setTop (mkF m 90 #[.val (.ref aX), .val (.long tx), .second] [(.int (lcmpW (ss.getD 8 (0 : Int64)) tx))])) _
                      refine XS.ifYes X0.here hx rfl (pc0 := 90) (pc' := 96) rfl (hb hby d9_90) rfl ((if0 _ _).trans (feq (fun q => hc18 ((lw_eq _ _).mp q))).2) (by decide) (by decide) ?_
                      exact kt
                    refine Go.step (T' := s₁) (f' := (mkF m 97 #[.val (.ref aX), .val (.long tx), .second] [(.int (-1 : Int32))])) (fun t kt => ?_) ?_
                    · show Steps p.tables e below (s₁.setTop (mkF m 96 #[.val (.ref aX), .val (.long tx), .second] [])) _
                      refine XS.iconst X0.here hx rfl (hb hby d9_96) ?_
                      exact kt
                    refine Go.fin X0 (v := some (.int (-1 : Int32))) (fun h => by rw [Bd.returns] at h; cases h) Bd.notSynchronized ?_ (Nat.le_trans (Nat.le_refl 0) (by decide)) (Nat.le_trans (Nat.le_refl 0) (by decide)) (fun fs hr => retI X0 hx Bd.returns (hb hby d9_97) hr)
                    · exact ⟨by rw [hf], N0, e0⟩
theorem own_min (b : Int64) : (minF b (9223372036854767615 : Int64)).toInt ≤ 9223372036854767615 := by
  have k : (9223372036854767615 : Int64).toInt = 9223372036854767615 := rfl
  unfold minF
  split
  · rw [k]; exact Int.le_refl _
  · rename_i h
    rw [Int64.lt_iff_toInt_lt, k] at h
    omega
theorem own_nib (x : Int64) : 0 ≤ (x &&& (15 : Int64)).toInt ∧ (x &&& (15 : Int64)).toInt ≤ 15 := by
  have := c_maskL x 15 4 (by decide) (by decide)
  rw [this]; omega
theorem own_byt (x : Int64) : 0 ≤ (x &&& (255 : Int64)).toInt ∧ (x &&& (255 : Int64)).toInt ≤ 255 := by
  have := c_maskL x 255 8 (by decide) (by decide)
  rw [this]; omega
theorem own_l2n (x : Int64) : 0 ≤ ((x &&& (15 : Int64)).toInt32).toInt ∧ ((x &&& (15 : Int64)).toInt32).toInt ≤ 15 := by
  have a := own_nib x
  have b := c_l2i (x &&& 15)
  have := rng32 ((x &&& (15 : Int64)).toInt32)
  omega
theorem own_sp {a b : Int64} (h : a.toInt ≤ 9223372036854767615 + 256) (e : ∃ d : Int64, (0 ≤ d.toInt ∧ d.toInt ≤ 15) ∧ b = a + 1 + d) : a.toInt < b.toInt ∧ b.toInt - a.toInt ≤ 16 := by
  obtain ⟨d, hd, rfl⟩ := e
  have k : (1 : Int64).toInt = 1 := rfl
  have a1 := c_ladd a 1; have a2 := c_ladd (a + 1) d
  have r1 := rng64 (a + 1); have r2 := rng64 (a + 1 + d); have r3 := rng64 a
  omega
theorem own_s8 {s0 s1 s2 s3 s4 s5 s6 s7 s8 : Int64} (h : s0.toInt ≤ 9223372036854767615) (e1 : ∃ d : Int64, (0 ≤ d.toInt ∧ d.toInt ≤ 15) ∧ s1 = s0 + 1 + d) (e2 : ∃ d : Int64, (0 ≤ d.toInt ∧ d.toInt ≤ 15) ∧ s2 = s1 + 1 + d) (e3 : ∃ d : Int64, (0 ≤ d.toInt ∧ d.toInt ≤ 15) ∧ s3 = s2 + 1 + d) (e4 : ∃ d : Int64, (0 ≤ d.toInt ∧ d.toInt ≤ 15) ∧ s4 = s3 + 1 + d) (e5 : ∃ d : Int64, (0 ≤ d.toInt ∧ d.toInt ≤ 15) ∧ s5 = s4 + 1 + d) (e6 : ∃ d : Int64, (0 ≤ d.toInt ∧ d.toInt ≤ 15) ∧ s6 = s5 + 1 + d) (e7 : ∃ d : Int64, (0 ≤ d.toInt ∧ d.toInt ≤ 15) ∧ s7 = s6 + 1 + d) (e8 : ∃ d : Int64, (0 ≤ d.toInt ∧ d.toInt ≤ 15) ∧ s8 = s7 + 1 + d) : own_SS 8 [s0, s1, s2, s3, s4, s5, s6, s7, s8] ∧ s8.toInt ≤ 9223372036854767615 + 128 := by
  have a1 := own_sp (by omega) e1
  have a2 := own_sp (by omega) e2
  have a3 := own_sp (by omega) e3
  have a4 := own_sp (by omega) e4
  have a5 := own_sp (by omega) e5
  have a6 := own_sp (by omega) e6
  have a7 := own_sp (by omega) e7
  have a8 := own_sp (by omega) e8
  refine ⟨own_st (G := 16) rfl (by decide) fun i hi => ?_, by omega⟩
  match i, hi with
  | 0, _ => exact (show s0.toInt < s1.toInt ∧ s1.toInt - s0.toInt ≤ (16 : Nat) by omega)
  | 1, _ => exact (show s1.toInt < s2.toInt ∧ s2.toInt - s1.toInt ≤ (16 : Nat) by omega)
  | 2, _ => exact (show s2.toInt < s3.toInt ∧ s3.toInt - s2.toInt ≤ (16 : Nat) by omega)
  | 3, _ => exact (show s3.toInt < s4.toInt ∧ s4.toInt - s3.toInt ≤ (16 : Nat) by omega)
  | 4, _ => exact (show s4.toInt < s5.toInt ∧ s5.toInt - s4.toInt ≤ (16 : Nat) by omega)
  | 5, _ => exact (show s5.toInt < s6.toInt ∧ s6.toInt - s5.toInt ≤ (16 : Nat) by omega)
  | 6, _ => exact (show s6.toInt < s7.toInt ∧ s7.toInt - s6.toInt ≤ (16 : Nat) by omega)
  | 7, _ => exact (show s7.toInt < s8.toInt ∧ s8.toInt - s7.toInt ≤ (16 : Nat) by omega)
theorem own_nw {a d : Int64} (h : a.toInt ≤ 9223372036854767615 + 128) (hd : 0 ≤ d.toInt ∧ d.toInt ≤ 255) : 0 ≤ (a + d).toInt - a.toInt ∧ (a + d).toInt - a.toInt ≤ 6000 := by
  have a1 := c_ladd a d; have r1 := rng64 (a + d); have r3 := rng64 a
  omega
theorem own_l9 {x : Int32} (h : x < (9 : Int32)) : x.toInt ≤ (8 : Nat) := by
  have k : (9 : Int32).toInt = 9 := rfl
  rw [Int32.lt_iff_toInt_lt, k] at h
  omega
theorem own_k8 {x : Int32} (h0 : 0 ≤ x.toInt) (h : x < (9 : Int32)) : x.toNatClampNeg ≤ 8 := by
  have := own_l9 h
  rw [own_cl h0]; omega
theorem own_xI {ss : List Int64} {tx : Int64} : (idxF tx ss = -1 ∧ ∀ j : Nat, j ≤ 8 → ss.getD j 0 ≠ tx) ∨ (0 ≤ (idxF tx ss).toInt ∧ (idxF tx ss).toInt ≤ (8 : Nat) ∧ ss.getD (idxF tx ss).toNatClampNeg 0 = tx) := by
  unfold idxF
  by_cases h0 : ss.getD 0 0 = tx
  · rw [if_pos h0]; exact Or.inr ⟨by decide, by decide, h0⟩
  rw [if_neg h0]
  by_cases h1 : ss.getD 1 0 = tx
  · rw [if_pos h1]; exact Or.inr ⟨by decide, by decide, h1⟩
  rw [if_neg h1]
  by_cases h2 : ss.getD 2 0 = tx
  · rw [if_pos h2]; exact Or.inr ⟨by decide, by decide, h2⟩
  rw [if_neg h2]
  by_cases h3 : ss.getD 3 0 = tx
  · rw [if_pos h3]; exact Or.inr ⟨by decide, by decide, h3⟩
  rw [if_neg h3]
  by_cases h4 : ss.getD 4 0 = tx
  · rw [if_pos h4]; exact Or.inr ⟨by decide, by decide, h4⟩
  rw [if_neg h4]
  by_cases h5 : ss.getD 5 0 = tx
  · rw [if_pos h5]; exact Or.inr ⟨by decide, by decide, h5⟩
  rw [if_neg h5]
  by_cases h6 : ss.getD 6 0 = tx
  · rw [if_pos h6]; exact Or.inr ⟨by decide, by decide, h6⟩
  rw [if_neg h6]
  by_cases h7 : ss.getD 7 0 = tx
  · rw [if_pos h7]; exact Or.inr ⟨by decide, by decide, h7⟩
  rw [if_neg h7]
  by_cases h8 : ss.getD 8 0 = tx
  · rw [if_pos h8]; exact Or.inr ⟨by decide, by decide, h8⟩
  rw [if_neg h8]
  refine Or.inl ⟨rfl, fun j hj => ?_⟩
  match j, hj with
  | 0, _ => exact h0
  | 1, _ => exact h1
  | 2, _ => exact h2
  | 3, _ => exact h3
  | 4, _ => exact h4
  | 5, _ => exact h5
  | 6, _ => exact h6
  | 7, _ => exact h7
  | 8, _ => exact h8
theorem own_xJ {ss : List Int64} {tx : Int64} (h : ¬ (idxF tx ss) < (0 : Int32)) : 0 ≤ (idxF tx ss).toInt ∧ (idxF tx ss).toInt ≤ (8 : Nat) := by
  rcases own_xI (ss := ss) (tx := tx) with ⟨q, -⟩ | ⟨q1, q2, -⟩
  · exact absurd (by rw [q]; decide) h
  · exact ⟨q1, q2⟩
def own_QQ (x8 : Int64) (x15 : Int32) (ss : List Int64) (qq : List (Int64 × Int32)) : Prop := (¬ x15 < (9 : Int32) ∧ qq = own_Qn x8 ss 8) ∨ (x15 < (9 : Int32) ∧ qq = own_mk (ss.getD x15.toNatClampNeg 0) (own_dr (ss.getD 8 0) x8 (own_Qn x8 ss 8)))
theorem own_sQ {x8 : Int64} {x15 : Int32} {ss : List Int64} {qq : List (Int64 × Int32)} (hS : own_SS 8 ss) (hQ : own_QQ x8 x15 ss qq) : own_srt qq := by
  have a := own_pw (tmo := x8) hS (Nat.le_refl 8)
  unfold own_QQ at hQ
  generalize own_Qn x8 ss 8 = Q at a hQ
  rcases hQ with ⟨-, rfl⟩ | ⟨-, rfl⟩
  · exact own_srt_of a
  · exact own_srt_of (own_mkp (own_dpw a))
theorem own_last {ss : List Int64} {x8 x13 x17 : Int64} {x15 r b : Int32} {qq : List (Int64 × Int32)} (hS : own_SS 8 ss) (h13 : 0 ≤ x13.toInt - (ss.getD 8 0).toInt ∧ x13.toInt - (ss.getD 8 0).toInt ≤ 6000) (h15 : 0 ≤ x15.toInt ∧ x15.toInt ≤ 15) (hQ : own_QQ x8 x15 ss qq)
    (hI : (r = -1 ∧ ∀ j : Nat, j ≤ 8 → ss.getD j 0 ≠ x17) ∨ (0 ≤ r.toInt ∧ r.toInt ≤ (8 : Nat) ∧ ss.getD r.toNatClampNeg 0 = x17)) (hb' : b = own_an x17 (own_dr x13 x8 qq)) :
    (r < (0 : Int32) → b = 0) ∧ (¬ r < (0 : Int32) → x8 < x13 - ss.getD r.toNatClampNeg 0 → b = 0) ∧ (¬ r < (0 : Int32) → ¬ x8 < x13 - ss.getD r.toNatClampNeg 0 → ¬ x15 < (9 : Int32) → b = 1) ∧ (¬ r < (0 : Int32) → x15 < (9 : Int32) → x15 = r → b = 0) ∧ (¬ r < (0 : Int32) → ¬ x8 < x13 - ss.getD r.toNatClampNeg 0 → x15 < (9 : Int32) → ¬ x15 = r → b = 1) := by
  have hM : (x17, (0 : Int32)) ∈ own_dr x13 x8 qq ↔ ¬ (x15 < (9 : Int32) ∧ x17 = ss.getD x15.toNatClampNeg 0) ∧ ∃ j : Nat, j ≤ 8 ∧ ¬ x8 < x13 - ss.getD j 0 ∧ x17 = ss.getD j 0 := by
    have dm := own_dm (now := x13) (tmo := x8) hS h13 (e := (x17, (0 : Int32)))
    have a2 := own_A2 (now := x13) (now1 := ss.getD 8 0) (tmo := x8) hS ⟨by omega, by omega⟩ h13 (by omega) (a := ss.getD x15.toNatClampNeg 0) (e := x17)
    unfold own_QQ at hQ
    generalize own_Qn x8 ss 8 = Q at dm a2 hQ
    rcases hQ with ⟨q1, rfl⟩ | ⟨q1, rfl⟩
    · rw [dm]
      constructor
      · rintro ⟨j, a1, a2, a3⟩
        exact ⟨fun g => q1 g.1, j, a1, a2, (Prod.mk.inj a3).1⟩
      · rintro ⟨-, j, a1, a2, a3⟩
        exact ⟨j, a1, a2, by rw [a3]⟩
    · rw [a2]
      constructor
      · rintro ⟨g, w⟩; exact ⟨fun z => g z.2, w⟩
      · rintro ⟨g, w⟩; exact ⟨fun z => g ⟨q1, z⟩, w⟩
  have k0 : (0 : Int32).toInt = 0 := rfl
  have T1 : (x17, (0 : Int32)) ∈ own_dr x13 x8 qq → b = 1 := fun h => hb'.trans (own_an1 h)
  have T0 : ¬ (x17, (0 : Int32)) ∈ own_dr x13 x8 qq → b = 0 := fun h => hb'.trans (own_an0 h)
  rw [hM] at T1 T0
  have hr : ¬ r < (0 : Int32) → 0 ≤ r.toInt ∧ r.toInt ≤ (8 : Nat) ∧ ss.getD r.toNatClampNeg 0 = x17 := fun g => by
    rcases hI with ⟨rfl, -⟩ | q
    · exact absurd (by decide) g
    · exact q
  have hn : ¬ r < (0 : Int32) → r.toNatClampNeg ≤ 8 := fun g => by
    have := hr g
    rw [own_cl this.1]; omega
  refine ⟨fun g => T0 ?_, fun g g1 => T0 ?_, fun g g1 g2 => T1 ?_, fun g g1 g2 => T0 ?_, fun g g1 g2 g3 => T1 ?_⟩
  · rintro ⟨-, j, a1, a2, a3⟩
    rcases hI with ⟨-, q⟩ | ⟨q, -⟩
    · exact q j a1 a3.symm
    · rw [Int32.lt_iff_toInt_lt, k0] at g; omega
  · rintro ⟨-, j, a1, a2, a3⟩
    have e := own_uni hS a1 (hn g) (a3.symm.trans (hr g).2.2.symm)
    subst e; exact a2 g1
  · exact ⟨fun z => g2 z.1, _, hn g, g1, (hr g).2.2.symm⟩
  · rintro ⟨z, -⟩
    exact z ⟨g1, by rw [g2]; exact (hr g).2.2.symm⟩
  · refine ⟨fun z => g3 ?_, _, hn g, g1, (hr g).2.2.symm⟩
    have e := own_uni hS (own_k8 h15.1 z.1) (hn g) (z.2.symm.trans (hr g).2.2.symm)
    have r0 := (hr g).1
    rw [own_cl h15.1, own_cl r0] at e
    exact Int32.toInt_inj.mp (by omega)
theorem pd_4 : parseMethodDescriptor "(JJ)J" = some ⟨[.long, .long], some .long⟩ := by decide +kernel
theorem pd_5 : parseMethodDescriptor "(JJ)Z" = some ⟨[.long, .long], some .boolean⟩ := by decide +kernel
theorem pd_6 : parseMethodDescriptor "([JJ)I" = some ⟨[(.array .long), .long], some .int⟩ := by decide +kernel
theorem ef_0 (m : MethodId) (x0 : Int64) (x1 : Int64) (x2 : Int64) (x3 : Int64) : entryFrame m #[(.long x0), (.long x1), (.long x2), (.long x3)] maxLocals = mkF m 0 #[.val (.long x0), .second, .val (.long x1), .second, .val (.long x2), .second, .val (.long x3), .second, .unset, .unset, .unset, .unset, .unset, .unset, .unset, .unset, .unset, .unset, .unset, .unset, .unset, .unset, .unset, .unset] [] := by first | (simp [entryFrame, mkF, argsToLocals, Value.category, maxLocals]; done) | rfl
def Q0 (Z : State) (p1 : Int64) (p2 : Int64) (p3 : Int64) (p4 : Int64)  (h0 : Heap) (n0 : Nat) (v : Option Value) (h : Heap) (L : List Loc) : Prop := v = some (.int (1 : Int32)) ∧ Fr n0 L
set_option maxRecDepth 65536 in
set_option maxHeartbeats 40000000 in
theorem rm_0 (l : Launch) (Z : State) (a0 : Array Value) (hw : ∀ d ∈ tables_1, d.before a0 Z = true) (ws : List Jvm.Cond) (p1 : Int64) (p2 : Int64) (p3 : Int64) (p4 : Int64)  (h0 : Heap) (n0 : Nat) (Z0 : n0 ≤ h0.size) :
    MetFree l x (head1 (Jvm.Cond.code x code maxLocals ret :: ws) room_1) (fun A_ U => A_ = #[(.long p1), (.long p2), (.long p3), (.long p4)] ∧ Z.Warmed39 U.vm ∧ U.heap = h0) (fun _ _ _ _ _ => True) (fun _ U o U' => ∃ v L, o = .returned v ∧ Q0 Z p1 p2 p3 p4 h0 n0 v U'.heap L ∧ FrameEnd U o U' L 24 192) := by
  refine MetFree.of_bodySF (plainFor_of_name pn_1) hisR ?_
  intro p e s m args below meth c s₁ Bd hml0 hP hK
  obtain ⟨rfl, hZ, hh⟩ := hP
  have hx := Bd.exec
  have hby := Bd.bytes
  have hml : c.maxLocals = 24 := hml0
  have hown : s.vm.findClass "com/example/talthybius/talthybius/AwaitedPingsAnswerPinLaw" = some m.cls := findClass_of_methodNamed Bd.named
  have hnm := (name_of_methodNamed Bd.named Bd.method).1
  have X0 : Stand p l e room_1 s m #[(.long p1), (.long p2), (.long p3), (.long p4)] below meth c s₁ [] 0 0 := Stand.of_body Bd
  have e0 : s₁.heap = h0 := by rw [← hh, Bd.state]; rfl
  have N0 := Fr.nil n0
  suffices HGO : Go p e below s (Q0 Z p1 p2 p3 p4 h0 n0) 24 192 s₁ (mkF m 0 #[.val (.long p1), .second, .val (.long p2), .second, .val (.long p3), .second, .val (.long p4), .second, .unset, .unset, .unset, .unset, .unset, .unset, .unset, .unset, .unset, .unset, .unset, .unset, .unset, .unset, .unset, .unset] []) from Go.cast (ef_0 m p1 p2 p3 p4) HGO
  have S443 : ∀ (T : State) (locs : List Loc) (cells slots : Nat) (X : Stand p l e room_1 s m #[(.long p1), (.long p2), (.long p3), (.long p4)] below meth c T locs cells slots) (hcl : cells ≤ 6) (hsl : slots ≤ 62) (h : Heap) (eT : T.heap = h) (N : Fr n0 locs) (x8 : Int64) (x10 : Int64) (x13 : Int64) (x15 : Int32) (x16 : Int32) (x17 : Int64) (s21 : Slot) (One_s21 : One s21) (b3 : Addr) (b44 : Addr) (s2_87 : Addr) (a2_87 : Addr) (ss : List Int64) (c1 : Int32) (o1 : Int32) (sl : List Int64) (al : List Int32) (NN : Nat) (qq : List (Int64 × Int32)) (K : Keep h0 h []) (fc0 : VA Z h b3 .long (ss.map Value.long)) (fc1 : Exa Z h b44 "com/example/talthybius/talthybius/AwaitedPings") (fc2 : Fld Z h b44 "com/example/talthybius/talthybius/AwaitedPings" "sentAt" "[J" (.ref s2_87)) (fc3 : Fld Z h b44 "com/example/talthybius/talthybius/AwaitedPings" "answered" "[Z" (.ref a2_87)) (fc4 : Fld Z h b44 "com/example/talthybius/talthybius/AwaitedPings" "timeoutNanos" "J" (.long x8)) (fc5 : Fld Z h b44 "com/example/talthybius/talthybius/AwaitedPings" "count" "I" (.int c1)) (fc6 : Fld Z h b44 "com/example/talthybius/talthybius/AwaitedPings" "oldest" "I" (.int o1)) (fc7 : VA Z h s2_87 .long (sl.map Value.long)) (fc8 : VA Z h a2_87 .boolean (al.map Value.int)) (g_b3 : n0 ≤ b3) (g_b44 : n0 ≤ b44) (g_s2_87 : n0 ≤ s2_87) (g_a2_87 : n0 ≤ a2_87) (sz_b3 : h0.size ≤ b3) (sz_b44 : h0.size ≤ b44) (sz_s2_87 : h0.size ≤ s2_87) (sz_a2_87 : h0.size ≤ a2_87) (ne_b3_b44 : b3 ≠ b44) (ne_b3_s2_87 : b3 ≠ s2_87) (ne_b44_s2_87 : b44 ≠ s2_87) (ne_b3_a2_87 : b3 ≠ a2_87) (ne_b44_a2_87 : b44 ≠ a2_87) (ne_s2_87_a2_87 : s2_87 ≠ a2_87) (hA : own_AP NN sl al o1 c1 qq) (hS : own_SS 8 ss) (h13 : 0 ≤ x13.toInt - (ss.getD 8 0).toInt ∧ x13.toInt - (ss.getD 8 0).toInt ≤ 6000) (h15 : 0 ≤ x15.toInt ∧ x15.toInt ≤ 15) (hQ : own_QQ x8 x15 ss qq), Go p e below s (Q0 Z p1 p2 p3 p4 h0 n0) 24 192 T (mkF m 443 #[.val (.long p1), .second, .val (.long p2), .second, .val (.long p3), .second, .val (.long p4), .second, .val (.long x8), .second, .val (.long x10), .second, .val (.ref b3), .val (.long x13), .second, .val (.int x15), .val (.int x16), .val (.long x17), .second, .val (.ref b44), .val (.int (1 : Int32)), s21, .unset, .unset] []) := by
    intro T locs cells slots X hcl hsl h eT N x8 x10 x13 x15 x16 x17 s21 One_s21 b3 b44 s2_87 a2_87 ss c1 o1 sl al NN qq K fc0 fc1 fc2 fc3 fc4 fc5 fc6 fc7 fc8 g_b3 g_b44 g_s2_87 g_a2_87 sz_b3 sz_b44 sz_s2_87 sz_a2_87 ne_b3_b44 ne_b3_s2_87 ne_b44_s2_87 ne_b3_a2_87 ne_b44_a2_87 ne_s2_87_a2_87 hA hS h13 h15 hQ
    have Zh : n0 ≤ h.size := Nat.le_trans Z0 K.1
    obtain ⟨cq1, kq1, q1a, q1b, q1c⟩ := isOf hZ eT (fc1 : Exa Z h b44 "com/example/talthybius/talthybius/AwaitedPings")
    obtain ⟨_, _, ⟨T1, L1, k1, n1⟩, -, X1, ⟨Lc1, hQ1, l1, y1, z1⟩, st1⟩ := X.virtualBack hx (y := (⟨"com/example/talthybius/talthybius/AwaitedPings", "answer", "(JJ)Z"⟩ : MethodName)) (z := (⟨"com/example/talthybius/talthybius/AwaitedPings", "answer", "(JJ)Z"⟩ : MethodName)) hown (mvT hZ (hw _ (List.mem_of_getElem? (i := 42) rfl))) (mvT hZ (hw _ (List.mem_of_getElem? (i := 43) rfl))) (notFace_of_selects (args := #[]) (mvT hZ (hw _ (List.mem_of_getElem? (i := 45) rfl)))) (mvT hZ (hw _ (List.mem_of_getElem? (i := 45) rfl))) (mvT hZ (hw _ (List.mem_of_getElem? (i := 44) rfl))) (by decide) (backOf (W := 0) (rm_ansA l Z a0 hw [] b44 x17 x13 s2_87 a2_87 x8 o1 c1 sl al NN qq h n0 Zh fc1 fc4 fc2 fc3 fc6 fc5 fc7 fc8 g_b44 g_a2_87 ne_b44_s2_87 ne_b44_a2_87 ne_s2_87_a2_87 hA (own_sQ hS hQ)) hZ (hw _ (List.mem_of_getElem? (i := 46) rfl)) (hw _ (List.mem_of_getElem? (i := 11) rfl)) (by decide) (by decide)) q1a q1c (g := (mkF m 449 #[.val (.long p1), .second, .val (.long p2), .second, .val (.long p3), .second, .val (.long p4), .second, .val (.long x8), .second, .val (.long x10), .second, .val (.ref b3), .val (.long x13), .second, .val (.int x15), .val (.int x16), .val (.long x17), .second, .val (.ref b44), .val (.int (1 : Int32)), s21, .unset, .unset] [(.long x13), (.long x17), (.ref b44)])) rfl (by rw [hml]; rfl) (Steps.refl _) (argsL := [(.long x17), (.long x13)]) (rest := []) (lenOf pd_5 rfl) rfl (by show 2 * 0 + _ ≤ _; exact Nat.le_of_eq rfl) (hb hby at_449) (fun _ _ => ⟨rfl, eT, (Nat.le_trans (Nat.add_le_add_right hcl 0) (by decide)), (Nat.le_trans (Nat.add_le_add_right hsl 0) (by decide))⟩)
    dsimp only [Pt.U, Pt.locs, Pt.cells, Pt.slots] at X1 l1 y1 z1 st1 hQ1
    subst l1 y1 z1
    obtain ⟨o1_1, c1_1, al1_1, b_1, rfl, N1q, Kq1, pf1_0, pf1_1, pf1_2, pf1_3, pf1_4, pf1_5, ph1_0⟩ := hQ1
    have G2 : VA Z T1.heap b3 .long (ss.map Value.long) := fc0.keep Kq1 (ninS ne_b3_b44 (ninS ne_b3_a2_87 nin0))
    have G3 : Exa Z T1.heap b44 "com/example/talthybius/talthybius/AwaitedPings" := Exa.keep fc1 Kq1
    have G4 : VA Z T1.heap s2_87 .long (sl.map Value.long) := fc7.keep Kq1 (ninS (Ne.symm ne_b44_s2_87) (ninS ne_s2_87_a2_87 nin0))
    have K1 : Keep h0 T1.heap [] := Keep.trans K Kq1 (allS (Or.inr sz_b44) (allS (Or.inr sz_a2_87) all0))
    have Z1 : n0 ≤ T1.heap.size := Nat.le_trans Z0 K1.1
    have N1 := Fr.app N N1q
    have hZ9 := own_last hS h13 h15 hQ (own_xI (ss := ss) (tx := x17)) ph1_0.2
    obtain ⟨_, _, ⟨T5, L5, k5, n5⟩, -, X5, ⟨Lc5, hQ5, l5, y5, z5⟩, st5⟩ := Jvm.LawKit.callS X1 hx (y := (⟨"com/example/talthybius/talthybius/AwaitedPingsAnswerPinLaw", "indexOf", "([JJ)I"⟩ : MethodName)) hown (mvT hZ (hw _ (List.mem_of_getElem? (i := 51) rfl))) (mvT hZ (hw _ (List.mem_of_getElem? (i := 52) rfl))) (mvT hZ (hw _ (List.mem_of_getElem? (i := 53) rfl))) (mvT hZ (hw _ (List.mem_of_getElem? (i := 54) rfl))) (by decide) (backOf (W := 0) (rm_idxF l Z a0 hw [] b3 x17 ss T1.heap n0 Z1 G2 hS.1) hZ (hw _ (List.mem_of_getElem? (i := 54) rfl)) (hw _ (List.mem_of_getElem? (i := 53) rfl)) (by decide) (by decide)) (g := (mkF m 458 #[.val (.long p1), .second, .val (.long p2), .second, .val (.long p3), .second, .val (.long p4), .second, .val (.long x8), .second, .val (.long x10), .second, .val (.ref b3), .val (.long x13), .second, .val (.int x15), .val (.int x16), .val (.long x17), .second, .val (.ref b44), .val (.int (1 : Int32)), .val (.int b_1), .unset, .unset] [(.long x17), (.ref b3)])) rfl (by rw [hml]; rfl) (argsL := [(.ref b3), (.long x17)]) (rest := []) (lenOf pd_6 rfl) rfl (by show 2 * 0 + _ ≤ _; exact Nat.le_of_eq rfl) (hb hby at_458) (fun _ _ => ⟨rfl, rfl, (Nat.le_trans (Nat.add_le_add_right (Nat.add_le_add_right hcl 0) 0) (by decide)), (Nat.le_trans (Nat.add_le_add_right (Nat.add_le_add_right hsl 0) 0) (by decide))⟩)
    dsimp only [Pt.U, Pt.locs, Pt.cells, Pt.slots] at X5 l5 y5 z5 st5 hQ5
    subst l5 y5 z5
    obtain ⟨rfl, N5q, e5⟩ := hQ5
    have N5 := Fr.app N1 N5q
    refine Go.step (T' := T5) (f' := (mkF m 465 #[.val (.long p1), .second, .val (.long p2), .second, .val (.long p3), .second, .val (.long p4), .second, .val (.long x8), .second, .val (.long x10), .second, .val (.ref b3), .val (.long x13), .second, .val (.int x15), .val (.int x16), .val (.long x17), .second, .val (.ref b44), .val (.int (1 : Int32)), .val (.int b_1), .val (.int (idxF x17 ss)), .unset] [(.int (idxF x17 ss))])) (fun t kt => ?_) ?_
    · show Steps p.tables e below (T.setTop (mkF m 443 #[.val (.long p1), .second, .val (.long p2), .second, .val (.long p3), .second, .val (.long p4), .second, .val (.long x8), .second, .val (.long x10), .second, .val (.ref b3), .val (.long x13), .second, .val (.int x15), .val (.int x16), .val (.long x17), .second, .val (.ref b44), .val (.int (1 : Int32)), s21, .unset, .unset] [])) _
      refine XS.aload X.here hx rfl (hb hby at_443) rfl rfl ?_
      show Steps p.tables e below (T.setTop (mkF m 445 #[.val (.long p1), .second, .val (.long p2), .second, .val (.long p3), .second, .val (.long p4), .second, .val (.long x8), .second, .val (.long x10), .second, .val (.ref b3), .val (.long x13), .second, .val (.int x15), .val (.int x16), .val (.long x17), .second, .val (.ref b44), .val (.int (1 : Int32)), s21, .unset, .unset] [(.ref b44)])) _
      refine XS.lload X.here hx rfl (hb hby at_445) rfl ?_
      show Steps p.tables e below (T.setTop (mkF m 447 #[.val (.long p1), .second, .val (.long p2), .second, .val (.long p3), .second, .val (.long p4), .second, .val (.long x8), .second, .val (.long x10), .second, .val (.ref b3), .val (.long x13), .second, .val (.int x15), .val (.int x16), .val (.long x17), .second, .val (.ref b44), .val (.int (1 : Int32)), s21, .unset, .unset] [(.long x17), (.ref b44)])) _
      refine XS.lload X.here hx rfl (hb hby at_447) rfl ?_
      show Steps p.tables e below (T.setTop (mkF m 449 #[.val (.long p1), .second, .val (.long p2), .second, .val (.long p3), .second, .val (.long p4), .second, .val (.long x8), .second, .val (.long x10), .second, .val (.ref b3), .val (.long x13), .second, .val (.int x15), .val (.int x16), .val (.long x17), .second, .val (.ref b44), .val (.int (1 : Int32)), s21, .unset, .unset] [(.long x13), (.long x17), (.ref b44)])) _
      refine st1.trans ?_
      show Steps p.tables e below (T1.setTop (mkF m 452 #[.val (.long p1), .second, .val (.long p2), .second, .val (.long p3), .second, .val (.long p4), .second, .val (.long x8), .second, .val (.long x10), .second, .val (.ref b3), .val (.long x13), .second, .val (.int x15), .val (.int x16), .val (.long x17), .second, .val (.ref b44), .val (.int (1 : Int32)), s21, .unset, .unset] [(.int b_1)])) _
      refine XS.istoreS X1.here hx rfl (hb hby at_452) rfl rfl One_s21 ?_
      show Steps p.tables e below (T1.setTop (mkF m 454 #[.val (.long p1), .second, .val (.long p2), .second, .val (.long p3), .second, .val (.long p4), .second, .val (.long x8), .second, .val (.long x10), .second, .val (.ref b3), .val (.long x13), .second, .val (.int x15), .val (.int x16), .val (.long x17), .second, .val (.ref b44), .val (.int (1 : Int32)), .val (.int b_1), .unset, .unset] [])) _
      refine XS.aload X1.here hx rfl (hb hby at_454) rfl rfl ?_
      show Steps p.tables e below (T1.setTop (mkF m 456 #[.val (.long p1), .second, .val (.long p2), .second, .val (.long p3), .second, .val (.long p4), .second, .val (.long x8), .second, .val (.long x10), .second, .val (.ref b3), .val (.long x13), .second, .val (.int x15), .val (.int x16), .val (.long x17), .second, .val (.ref b44), .val (.int (1 : Int32)), .val (.int b_1), .unset, .unset] [(.ref b3)])) _
      refine XS.lload X1.here hx rfl (hb hby at_456) rfl ?_
      show Steps p.tables e below (T1.setTop (mkF m 458 #[.val (.long p1), .second, .val (.long p2), .second, .val (.long p3), .second, .val (.long p4), .second, .val (.long x8), .second, .val (.long x10), .second, .val (.ref b3), .val (.long x13), .second, .val (.int x15), .val (.int x16), .val (.long x17), .second, .val (.ref b44), .val (.int (1 : Int32)), .val (.int b_1), .unset, .unset] [(.long x17), (.ref b3)])) _
      refine st5 _ ?_
      show Steps p.tables e below (T5.setTop (mkF m 461 #[.val (.long p1), .second, .val (.long p2), .second, .val (.long p3), .second, .val (.long p4), .second, .val (.long x8), .second, .val (.long x10), .second, .val (.ref b3), .val (.long x13), .second, .val (.int x15), .val (.int x16), .val (.long x17), .second, .val (.ref b44), .val (.int (1 : Int32)), .val (.int b_1), .unset, .unset] [(.int (idxF x17 ss))])) _
      refine XS.istore X5.here hx rfl (hb hby at_461) rfl (l' := #[.val (.long p1), .second, .val (.long p2), .second, .val (.long p3), .second, .val (.long p4), .second, .val (.long x8), .second, .val (.long x10), .second, .val (.ref b3), .val (.long x13), .second, .val (.int x15), .val (.int x16), .val (.long x17), .second, .val (.ref b44), .val (.int (1 : Int32)), .val (.int b_1), .val (.int (idxF x17 ss)), .unset]) rfl ?_
      show Steps p.tables e below (T5.setTop (mkF m 463 #[.val (.long p1), .second, .val (.long p2), .second, .val (.long p3), .second, .val (.long p4), .second, .val (.long x8), .second, .val (.long x10), .second, .val (.ref b3), .val (.long x13), .second, .val (.int x15), .val (.int x16), .val (.long x17), .second, .val (.ref b44), .val (.int (1 : Int32)), .val (.int b_1), .val (.int (idxF x17 ss)), .unset] [])) _
      refine XS.iload X5.here hx rfl (hb hby at_463) rfl ?_
      exact kt
    by_cases hc6 : (idxF x17 ss) < (0 : Int32)
    · have _ := hc6
      refine Go.step (T' := T5) (f' := (mkF m 500 #[.val (.long p1), .second, .val (.long p2), .second, .val (.long p3), .second, .val (.long p4), .second, .val (.long x8), .second, .val (.long x10), .second, .val (.ref b3), .val (.long x13), .second, .val (.int x15), .val (.int x16), .val (.long x17), .second, .val (.ref b44), .val (.int (1 : Int32)), .val (.int b_1), .val (.int (idxF x17 ss)), .unset] [])) (fun t kt => ?_) ?_
      · show Steps p.tables e below (T5.setTop (mkF m 465 #[.val (.long p1), .second, .val (.long p2), .second, .val (.long p3), .second, .val (.long p4), .second, .val (.long x8), .second, .val (.long x10), .second, .val (.ref b3), .val (.long x13), .second, .val (.int x15), .val (.int x16), .val (.long x17), .second, .val (.ref b44), .val (.int (1 : Int32)), .val (.int b_1), .val (.int (idxF x17 ss)), .unset] [(.int (idxF x17 ss))])) _
        refine XS.ifYes X5.here hx rfl (pc0 := 465) (pc' := 500) rfl (hb hby at_465) rfl ((if0 _ _).trans (tlt hc6).1) (by decide) (by decide) ?_
        exact kt
      refine Go.step (T' := T5) (f' := (mkF m 512 #[.val (.long p1), .second, .val (.long p2), .second, .val (.long p3), .second, .val (.long p4), .second, .val (.long x8), .second, .val (.long x10), .second, .val (.ref b3), .val (.long x13), .second, .val (.int x15), .val (.int x16), .val (.long x17), .second, .val (.ref b44), .val (.int (1 : Int32)), .val (.int b_1), .val (.int (idxF x17 ss)), .val (.int (0 : Int32))] [(.int (0 : Int32)), (.int b_1)])) (fun t kt => ?_) ?_
      · show Steps p.tables e below (T5.setTop (mkF m 500 #[.val (.long p1), .second, .val (.long p2), .second, .val (.long p3), .second, .val (.long p4), .second, .val (.long x8), .second, .val (.long x10), .second, .val (.ref b3), .val (.long x13), .second, .val (.int x15), .val (.int x16), .val (.long x17), .second, .val (.ref b44), .val (.int (1 : Int32)), .val (.int b_1), .val (.int (idxF x17 ss)), .unset] [])) _
        refine XS.iconst X5.here hx rfl (hb hby at_500) ?_
        show Steps p.tables e below (T5.setTop (mkF m 501 #[.val (.long p1), .second, .val (.long p2), .second, .val (.long p3), .second, .val (.long p4), .second, .val (.long x8), .second, .val (.long x10), .second, .val (.ref b3), .val (.long x13), .second, .val (.int x15), .val (.int x16), .val (.long x17), .second, .val (.ref b44), .val (.int (1 : Int32)), .val (.int b_1), .val (.int (idxF x17 ss)), .unset] [(.int (0 : Int32))])) _
        refine XS.istore X5.here hx rfl (hb hby at_501) rfl (l' := #[.val (.long p1), .second, .val (.long p2), .second, .val (.long p3), .second, .val (.long p4), .second, .val (.long x8), .second, .val (.long x10), .second, .val (.ref b3), .val (.long x13), .second, .val (.int x15), .val (.int x16), .val (.long x17), .second, .val (.ref b44), .val (.int (1 : Int32)), .val (.int b_1), .val (.int (idxF x17 ss)), .val (.int (0 : Int32))]) rfl ?_
        show Steps p.tables e below (T5.setTop (mkF m 503 #[.val (.long p1), .second, .val (.long p2), .second, .val (.long p3), .second, .val (.long p4), .second, .val (.long x8), .second, .val (.long x10), .second, .val (.ref b3), .val (.long x13), .second, .val (.int x15), .val (.int x16), .val (.long x17), .second, .val (.ref b44), .val (.int (1 : Int32)), .val (.int b_1), .val (.int (idxF x17 ss)), .val (.int (0 : Int32))] [])) _
        refine XS.iload X5.here hx rfl (hb hby at_503) rfl ?_
        show Steps p.tables e below (T5.setTop (mkF m 505 #[.val (.long p1), .second, .val (.long p2), .second, .val (.long p3), .second, .val (.long p4), .second, .val (.long x8), .second, .val (.long x10), .second, .val (.ref b3), .val (.long x13), .second, .val (.int x15), .val (.int x16), .val (.long x17), .second, .val (.ref b44), .val (.int (1 : Int32)), .val (.int b_1), .val (.int (idxF x17 ss)), .val (.int (0 : Int32))] [(.int (1 : Int32))])) _
        refine XS.ifNo X5.here hx rfl (hb hby at_505) rfl ((if0 _ _).trans (feq (by decide : ¬ ((1 : Int32) = (0 : Int32)))).1) ?_
        show Steps p.tables e below (T5.setTop (mkF m 508 #[.val (.long p1), .second, .val (.long p2), .second, .val (.long p3), .second, .val (.long p4), .second, .val (.long x8), .second, .val (.long x10), .second, .val (.ref b3), .val (.long x13), .second, .val (.int x15), .val (.int x16), .val (.long x17), .second, .val (.ref b44), .val (.int (1 : Int32)), .val (.int b_1), .val (.int (idxF x17 ss)), .val (.int (0 : Int32))] [])) _
        refine XS.iload X5.here hx rfl (hb hby at_508) rfl ?_
        show Steps p.tables e below (T5.setTop (mkF m 510 #[.val (.long p1), .second, .val (.long p2), .second, .val (.long p3), .second, .val (.long p4), .second, .val (.long x8), .second, .val (.long x10), .second, .val (.ref b3), .val (.long x13), .second, .val (.int x15), .val (.int x16), .val (.long x17), .second, .val (.ref b44), .val (.int (1 : Int32)), .val (.int b_1), .val (.int (idxF x17 ss)), .val (.int (0 : Int32))] [(.int b_1)])) _
        refine XS.iload X5.here hx rfl (hb hby at_510) rfl ?_
        exact kt
      have hd7 : b_1 = (0 : Int32) := hZ9.1 (by assumption)
      refine Go.step (T' := T5) (f' := (mkF m 520 #[.val (.long p1), .second, .val (.long p2), .second, .val (.long p3), .second, .val (.long p4), .second, .val (.long x8), .second, .val (.long x10), .second, .val (.ref b3), .val (.long x13), .second, .val (.int x15), .val (.int x16), .val (.long x17), .second, .val (.ref b44), .val (.int (1 : Int32)), .val (.int b_1), .val (.int (idxF x17 ss)), .val (.int (0 : Int32))] [(.int (1 : Int32))])) (fun t kt => ?_) ?_
      · show Steps p.tables e below (T5.setTop (mkF m 512 #[.val (.long p1), .second, .val (.long p2), .second, .val (.long p3), .second, .val (.long p4), .second, .val (.long x8), .second, .val (.long x10), .second, .val (.ref b3), .val (.long x13), .second, .val (.int x15), .val (.int x16), .val (.long x17), .second, .val (.ref b44), .val (.int (1 : Int32)), .val (.int b_1), .val (.int (idxF x17 ss)), .val (.int (0 : Int32))] [(.int (0 : Int32)), (.int b_1)])) _
        refine XS.icmpNo X5.here hx rfl (hb hby at_512) rfl (teq hd7).2 ?_
        show Steps p.tables e below (T5.setTop (mkF m 515 #[.val (.long p1), .second, .val (.long p2), .second, .val (.long p3), .second, .val (.long p4), .second, .val (.long x8), .second, .val (.long x10), .second, .val (.ref b3), .val (.long x13), .second, .val (.int x15), .val (.int x16), .val (.long x17), .second, .val (.ref b44), .val (.int (1 : Int32)), .val (.int b_1), .val (.int (idxF x17 ss)), .val (.int (0 : Int32))] [])) _
        refine XS.iconst X5.here hx rfl (hb hby at_515) ?_
        show Steps p.tables e below (T5.setTop (mkF m 516 #[.val (.long p1), .second, .val (.long p2), .second, .val (.long p3), .second, .val (.long p4), .second, .val (.long x8), .second, .val (.long x10), .second, .val (.ref b3), .val (.long x13), .second, .val (.int x15), .val (.int x16), .val (.long x17), .second, .val (.ref b44), .val (.int (1 : Int32)), .val (.int b_1), .val (.int (idxF x17 ss)), .val (.int (0 : Int32))] [(.int (1 : Int32))])) _
        refine XS.goto X5.here hx rfl (pc0 := 516) (pc' := 520) rfl (hb hby at_516) (by decide) (by decide) ?_
        exact kt
      refine Go.fin X5 (v := some (.int (1 : Int32))) (fun h => by rw [Bd.returns] at h; cases h) Bd.notSynchronized ?_ (Nat.le_trans (Nat.add_le_add_right (Nat.add_le_add_right hcl 0) 0) (by decide)) (Nat.le_trans (Nat.add_le_add_right (Nat.add_le_add_right hsl 0) 0) (by decide)) (fun fs hr => retN X5 hx (t := .boolean) Bd.returns (by simp) (hb hby at_520) hr)
      · show Q0 Z p1 p2 p3 p4 h0 n0 _ T5.heap _
        exact ⟨rfl, N5⟩
    · have _ := hc6
      refine Go.step (T' := T5) (f' := (mkF m 468 #[.val (.long p1), .second, .val (.long p2), .second, .val (.long p3), .second, .val (.long p4), .second, .val (.long x8), .second, .val (.long x10), .second, .val (.ref b3), .val (.long x13), .second, .val (.int x15), .val (.int x16), .val (.long x17), .second, .val (.ref b44), .val (.int (1 : Int32)), .val (.int b_1), .val (.int (idxF x17 ss)), .unset] [])) (fun t kt => ?_) ?_
      · show Steps p.tables e below (T5.setTop (mkF m 465 #[.val (.long p1), .second, .val (.long p2), .second, .val (.long p3), .second, .val (.long p4), .second, .val (.long x8), .second, .val (.long x10), .second, .val (.ref b3), .val (.long x13), .second, .val (.int x15), .val (.int x16), .val (.long x17), .second, .val (.ref b44), .val (.int (1 : Int32)), .val (.int b_1), .val (.int (idxF x17 ss)), .unset] [(.int (idxF x17 ss))])) _
        refine XS.ifNo X5.here hx rfl (hb hby at_465) rfl ((if0 _ _).trans (flt hc6).1) ?_
        exact kt
      have ix8 : 0 ≤ ((idxF x17 ss)).toInt ∧ ((idxF x17 ss)).toInt < ((ss).length : Int) := own_ixl hS (own_xJ (by assumption))
      refine Go.step (T' := T5) (f' := (mkF m 479 #[.val (.long p1), .second, .val (.long p2), .second, .val (.long p3), .second, .val (.long p4), .second, .val (.long x8), .second, .val (.long x10), .second, .val (.ref b3), .val (.long x13), .second, .val (.int x15), .val (.int x16), .val (.long x17), .second, .val (.ref b44), .val (.int (1 : Int32)), .val (.int b_1), .val (.int (idxF x17 ss)), .unset] [(.int (lcmpW (x13 - (ss.getD (idxF x17 ss).toNatClampNeg (0 : Int64))) x8))])) (fun t kt => ?_) ?_
      · show Steps p.tables e below (T5.setTop (mkF m 468 #[.val (.long p1), .second, .val (.long p2), .second, .val (.long p3), .second, .val (.long p4), .second, .val (.long x8), .second, .val (.long x10), .second, .val (.ref b3), .val (.long x13), .second, .val (.int x15), .val (.int x16), .val (.long x17), .second, .val (.ref b44), .val (.int (1 : Int32)), .val (.int b_1), .val (.int (idxF x17 ss)), .unset] [])) _
        refine XS.lload X5.here hx rfl (hb hby at_468) rfl ?_
        show Steps p.tables e below (T5.setTop (mkF m 470 #[.val (.long p1), .second, .val (.long p2), .second, .val (.long p3), .second, .val (.long p4), .second, .val (.long x8), .second, .val (.long x10), .second, .val (.ref b3), .val (.long x13), .second, .val (.int x15), .val (.int x16), .val (.long x17), .second, .val (.ref b44), .val (.int (1 : Int32)), .val (.int b_1), .val (.int (idxF x17 ss)), .unset] [(.long x13)])) _
        refine XS.aload X5.here hx rfl (hb hby at_470) rfl rfl ?_
        show Steps p.tables e below (T5.setTop (mkF m 472 #[.val (.long p1), .second, .val (.long p2), .second, .val (.long p3), .second, .val (.long p4), .second, .val (.long x8), .second, .val (.long x10), .second, .val (.ref b3), .val (.long x13), .second, .val (.int x15), .val (.int x16), .val (.long x17), .second, .val (.ref b44), .val (.int (1 : Int32)), .val (.int b_1), .val (.int (idxF x17 ss)), .unset] [(.ref b3), (.long x13)])) _
        refine XS.iload X5.here hx rfl (hb hby at_472) rfl ?_
        show Steps p.tables e below (T5.setTop (mkF m 474 #[.val (.long p1), .second, .val (.long p2), .second, .val (.long p3), .second, .val (.long p4), .second, .val (.long x8), .second, .val (.long x10), .second, .val (.ref b3), .val (.long x13), .second, .val (.int x15), .val (.int x16), .val (.long x17), .second, .val (.ref b44), .val (.int (1 : Int32)), .val (.int b_1), .val (.int (idxF x17 ss)), .unset] [(.int (idxF x17 ss)), (.ref b3), (.long x13)])) _
        refine ldJ X5 hx hZ e5 G2 ix8.1 ix8.2 (g := (mkF m 474 #[.val (.long p1), .second, .val (.long p2), .second, .val (.long p3), .second, .val (.long p4), .second, .val (.long x8), .second, .val (.long x10), .second, .val (.ref b3), .val (.long x13), .second, .val (.int x15), .val (.int x16), .val (.long x17), .second, .val (.ref b44), .val (.int (1 : Int32)), .val (.int b_1), .val (.int (idxF x17 ss)), .unset] [(.int (idxF x17 ss)), (.ref b3), (.long x13)])) rfl rfl (hb hby at_474) _ ?_
        show Steps p.tables e below (T5.setTop (mkF m 475 #[.val (.long p1), .second, .val (.long p2), .second, .val (.long p3), .second, .val (.long p4), .second, .val (.long x8), .second, .val (.long x10), .second, .val (.ref b3), .val (.long x13), .second, .val (.int x15), .val (.int x16), .val (.long x17), .second, .val (.ref b44), .val (.int (1 : Int32)), .val (.int b_1), .val (.int (idxF x17 ss)), .unset] [(.long (ss.getD (idxF x17 ss).toNatClampNeg (0 : Int64))), (.long x13)])) _
        refine XS.lsub X5.here hx rfl (hb hby at_475) rfl ?_
        show Steps p.tables e below (T5.setTop (mkF m 476 #[.val (.long p1), .second, .val (.long p2), .second, .val (.long p3), .second, .val (.long p4), .second, .val (.long x8), .second, .val (.long x10), .second, .val (.ref b3), .val (.long x13), .second, .val (.int x15), .val (.int x16), .val (.long x17), .second, .val (.ref b44), .val (.int (1 : Int32)), .val (.int b_1), .val (.int (idxF x17 ss)), .unset] [(.long (x13 - (ss.getD (idxF x17 ss).toNatClampNeg (0 : Int64))))])) _
        refine XS.lload X5.here hx rfl (hb hby at_476) rfl ?_
        show Steps p.tables e below (T5.setTop (mkF m 478 #[.val (.long p1), .second, .val (.long p2), .second, .val (.long p3), .second, .val (.long p4), .second, .val (.long x8), .second, .val (.long x10), .second, .val (.ref b3), .val (.long x13), .second, .val (.int x15), .val (.int x16), .val (.long x17), .second, .val (.ref b44), .val (.int (1 : Int32)), .val (.int b_1), .val (.int (idxF x17 ss)), .unset] [(.long x8), (.long (x13 - (ss.getD (idxF x17 ss).toNatClampNeg (0 : Int64))))])) _
        refine XS.lcmp X5.here hx rfl (hb hby at_478) rfl ?_
        exact kt
      by_cases hc9 : x8 < (x13 - (ss.getD (idxF x17 ss).toNatClampNeg (0 : Int64)))
      · have _ := hc9
        refine Go.step (T' := T5) (f' := (mkF m 500 #[.val (.long p1), .second, .val (.long p2), .second, .val (.long p3), .second, .val (.long p4), .second, .val (.long x8), .second, .val (.long x10), .second, .val (.ref b3), .val (.long x13), .second, .val (.int x15), .val (.int x16), .val (.long x17), .second, .val (.ref b44), .val (.int (1 : Int32)), .val (.int b_1), .val (.int (idxF x17 ss)), .unset] [])) (fun t kt => ?_) ?_
        · show Steps p.tables e below (T5.setTop (mkF m 479 #[.val (.long p1), .second, .val (.long p2), .second, .val (.long p3), .second, .val (.long p4), .second, .val (.long x8), .second, .val (.long x10), .second, .val (.ref b3), .val (.long x13), .second, .val (.int x15), .val (.int x16), .val (.long x17), .second, .val (.ref b44), .val (.int (1 : Int32)), .val (.int b_1), .val (.int (idxF x17 ss)), .unset] [(.int (lcmpW (x13 - (ss.getD (idxF x17 ss).toNatClampNeg (0 : Int64))) x8))])) _
          refine XS.ifYes X5.here hx rfl (pc0 := 479) (pc' := 500) rfl (hb hby at_479) rfl ((if0 _ _).trans (tlt ((lw_gt _ _).mpr hc9)).2.2.1) (by decide) (by decide) ?_
          exact kt
        refine Go.step (T' := T5) (f' := (mkF m 512 #[.val (.long p1), .second, .val (.long p2), .second, .val (.long p3), .second, .val (.long p4), .second, .val (.long x8), .second, .val (.long x10), .second, .val (.ref b3), .val (.long x13), .second, .val (.int x15), .val (.int x16), .val (.long x17), .second, .val (.ref b44), .val (.int (1 : Int32)), .val (.int b_1), .val (.int (idxF x17 ss)), .val (.int (0 : Int32))] [(.int (0 : Int32)), (.int b_1)])) (fun t kt => ?_) ?_
        · show Steps p.tables e below (T5.setTop (mkF m 500 #[.val (.long p1), .second, .val (.long p2), .second, .val (.long p3), .second, .val (.long p4), .second, .val (.long x8), .second, .val (.long x10), .second, .val (.ref b3), .val (.long x13), .second, .val (.int x15), .val (.int x16), .val (.long x17), .second, .val (.ref b44), .val (.int (1 : Int32)), .val (.int b_1), .val (.int (idxF x17 ss)), .unset] [])) _
          refine XS.iconst X5.here hx rfl (hb hby at_500) ?_
          show Steps p.tables e below (T5.setTop (mkF m 501 #[.val (.long p1), .second, .val (.long p2), .second, .val (.long p3), .second, .val (.long p4), .second, .val (.long x8), .second, .val (.long x10), .second, .val (.ref b3), .val (.long x13), .second, .val (.int x15), .val (.int x16), .val (.long x17), .second, .val (.ref b44), .val (.int (1 : Int32)), .val (.int b_1), .val (.int (idxF x17 ss)), .unset] [(.int (0 : Int32))])) _
          refine XS.istore X5.here hx rfl (hb hby at_501) rfl (l' := #[.val (.long p1), .second, .val (.long p2), .second, .val (.long p3), .second, .val (.long p4), .second, .val (.long x8), .second, .val (.long x10), .second, .val (.ref b3), .val (.long x13), .second, .val (.int x15), .val (.int x16), .val (.long x17), .second, .val (.ref b44), .val (.int (1 : Int32)), .val (.int b_1), .val (.int (idxF x17 ss)), .val (.int (0 : Int32))]) rfl ?_
          show Steps p.tables e below (T5.setTop (mkF m 503 #[.val (.long p1), .second, .val (.long p2), .second, .val (.long p3), .second, .val (.long p4), .second, .val (.long x8), .second, .val (.long x10), .second, .val (.ref b3), .val (.long x13), .second, .val (.int x15), .val (.int x16), .val (.long x17), .second, .val (.ref b44), .val (.int (1 : Int32)), .val (.int b_1), .val (.int (idxF x17 ss)), .val (.int (0 : Int32))] [])) _
          refine XS.iload X5.here hx rfl (hb hby at_503) rfl ?_
          show Steps p.tables e below (T5.setTop (mkF m 505 #[.val (.long p1), .second, .val (.long p2), .second, .val (.long p3), .second, .val (.long p4), .second, .val (.long x8), .second, .val (.long x10), .second, .val (.ref b3), .val (.long x13), .second, .val (.int x15), .val (.int x16), .val (.long x17), .second, .val (.ref b44), .val (.int (1 : Int32)), .val (.int b_1), .val (.int (idxF x17 ss)), .val (.int (0 : Int32))] [(.int (1 : Int32))])) _
          refine XS.ifNo X5.here hx rfl (hb hby at_505) rfl ((if0 _ _).trans (feq (by decide : ¬ ((1 : Int32) = (0 : Int32)))).1) ?_
          show Steps p.tables e below (T5.setTop (mkF m 508 #[.val (.long p1), .second, .val (.long p2), .second, .val (.long p3), .second, .val (.long p4), .second, .val (.long x8), .second, .val (.long x10), .second, .val (.ref b3), .val (.long x13), .second, .val (.int x15), .val (.int x16), .val (.long x17), .second, .val (.ref b44), .val (.int (1 : Int32)), .val (.int b_1), .val (.int (idxF x17 ss)), .val (.int (0 : Int32))] [])) _
          refine XS.iload X5.here hx rfl (hb hby at_508) rfl ?_
          show Steps p.tables e below (T5.setTop (mkF m 510 #[.val (.long p1), .second, .val (.long p2), .second, .val (.long p3), .second, .val (.long p4), .second, .val (.long x8), .second, .val (.long x10), .second, .val (.ref b3), .val (.long x13), .second, .val (.int x15), .val (.int x16), .val (.long x17), .second, .val (.ref b44), .val (.int (1 : Int32)), .val (.int b_1), .val (.int (idxF x17 ss)), .val (.int (0 : Int32))] [(.int b_1)])) _
          refine XS.iload X5.here hx rfl (hb hby at_510) rfl ?_
          exact kt
        have hd10 : b_1 = (0 : Int32) := hZ9.2.1 (by assumption) (by assumption)
        refine Go.step (T' := T5) (f' := (mkF m 520 #[.val (.long p1), .second, .val (.long p2), .second, .val (.long p3), .second, .val (.long p4), .second, .val (.long x8), .second, .val (.long x10), .second, .val (.ref b3), .val (.long x13), .second, .val (.int x15), .val (.int x16), .val (.long x17), .second, .val (.ref b44), .val (.int (1 : Int32)), .val (.int b_1), .val (.int (idxF x17 ss)), .val (.int (0 : Int32))] [(.int (1 : Int32))])) (fun t kt => ?_) ?_
        · show Steps p.tables e below (T5.setTop (mkF m 512 #[.val (.long p1), .second, .val (.long p2), .second, .val (.long p3), .second, .val (.long p4), .second, .val (.long x8), .second, .val (.long x10), .second, .val (.ref b3), .val (.long x13), .second, .val (.int x15), .val (.int x16), .val (.long x17), .second, .val (.ref b44), .val (.int (1 : Int32)), .val (.int b_1), .val (.int (idxF x17 ss)), .val (.int (0 : Int32))] [(.int (0 : Int32)), (.int b_1)])) _
          refine XS.icmpNo X5.here hx rfl (hb hby at_512) rfl (teq hd10).2 ?_
          show Steps p.tables e below (T5.setTop (mkF m 515 #[.val (.long p1), .second, .val (.long p2), .second, .val (.long p3), .second, .val (.long p4), .second, .val (.long x8), .second, .val (.long x10), .second, .val (.ref b3), .val (.long x13), .second, .val (.int x15), .val (.int x16), .val (.long x17), .second, .val (.ref b44), .val (.int (1 : Int32)), .val (.int b_1), .val (.int (idxF x17 ss)), .val (.int (0 : Int32))] [])) _
          refine XS.iconst X5.here hx rfl (hb hby at_515) ?_
          show Steps p.tables e below (T5.setTop (mkF m 516 #[.val (.long p1), .second, .val (.long p2), .second, .val (.long p3), .second, .val (.long p4), .second, .val (.long x8), .second, .val (.long x10), .second, .val (.ref b3), .val (.long x13), .second, .val (.int x15), .val (.int x16), .val (.long x17), .second, .val (.ref b44), .val (.int (1 : Int32)), .val (.int b_1), .val (.int (idxF x17 ss)), .val (.int (0 : Int32))] [(.int (1 : Int32))])) _
          refine XS.goto X5.here hx rfl (pc0 := 516) (pc' := 520) rfl (hb hby at_516) (by decide) (by decide) ?_
          exact kt
        refine Go.fin X5 (v := some (.int (1 : Int32))) (fun h => by rw [Bd.returns] at h; cases h) Bd.notSynchronized ?_ (Nat.le_trans (Nat.add_le_add_right (Nat.add_le_add_right hcl 0) 0) (by decide)) (Nat.le_trans (Nat.add_le_add_right (Nat.add_le_add_right hsl 0) 0) (by decide)) (fun fs hr => retN X5 hx (t := .boolean) Bd.returns (by simp) (hb hby at_520) hr)
        · show Q0 Z p1 p2 p3 p4 h0 n0 _ T5.heap _
          exact ⟨rfl, N5⟩
      · have _ := hc9
        refine Go.step (T' := T5) (f' := (mkF m 482 #[.val (.long p1), .second, .val (.long p2), .second, .val (.long p3), .second, .val (.long p4), .second, .val (.long x8), .second, .val (.long x10), .second, .val (.ref b3), .val (.long x13), .second, .val (.int x15), .val (.int x16), .val (.long x17), .second, .val (.ref b44), .val (.int (1 : Int32)), .val (.int b_1), .val (.int (idxF x17 ss)), .unset] [])) (fun t kt => ?_) ?_
        · show Steps p.tables e below (T5.setTop (mkF m 479 #[.val (.long p1), .second, .val (.long p2), .second, .val (.long p3), .second, .val (.long p4), .second, .val (.long x8), .second, .val (.long x10), .second, .val (.ref b3), .val (.long x13), .second, .val (.int x15), .val (.int x16), .val (.long x17), .second, .val (.ref b44), .val (.int (1 : Int32)), .val (.int b_1), .val (.int (idxF x17 ss)), .unset] [(.int (lcmpW (x13 - (ss.getD (idxF x17 ss).toNatClampNeg (0 : Int64))) x8))])) _
          refine XS.ifNo X5.here hx rfl (hb hby at_479) rfl ((if0 _ _).trans (flt (fun q => hc9 ((lw_gt _ _).mp q))).2.2.1) ?_
          exact kt
        refine Go.step (T' := T5) (f' := (mkF m 486 #[.val (.long p1), .second, .val (.long p2), .second, .val (.long p3), .second, .val (.long p4), .second, .val (.long x8), .second, .val (.long x10), .second, .val (.ref b3), .val (.long x13), .second, .val (.int x15), .val (.int x16), .val (.long x17), .second, .val (.ref b44), .val (.int (1 : Int32)), .val (.int b_1), .val (.int (idxF x17 ss)), .unset] [(.int (9 : Int32)), (.int x15)])) (fun t kt => ?_) ?_
        · show Steps p.tables e below (T5.setTop (mkF m 482 #[.val (.long p1), .second, .val (.long p2), .second, .val (.long p3), .second, .val (.long p4), .second, .val (.long x8), .second, .val (.long x10), .second, .val (.ref b3), .val (.long x13), .second, .val (.int x15), .val (.int x16), .val (.long x17), .second, .val (.ref b44), .val (.int (1 : Int32)), .val (.int b_1), .val (.int (idxF x17 ss)), .unset] [])) _
          refine XS.iload X5.here hx rfl (hb hby at_482) rfl ?_
          show Steps p.tables e below (T5.setTop (mkF m 484 #[.val (.long p1), .second, .val (.long p2), .second, .val (.long p3), .second, .val (.long p4), .second, .val (.long x8), .second, .val (.long x10), .second, .val (.ref b3), .val (.long x13), .second, .val (.int x15), .val (.int x16), .val (.long x17), .second, .val (.ref b44), .val (.int (1 : Int32)), .val (.int b_1), .val (.int (idxF x17 ss)), .unset] [(.int x15)])) _
          refine XS.bipush X5.here hx rfl (hb hby at_484) ?_
          exact kt
        by_cases hc11 : x15 < (9 : Int32)
        · have _ := hc11
          refine Go.step (T' := T5) (f' := (mkF m 489 #[.val (.long p1), .second, .val (.long p2), .second, .val (.long p3), .second, .val (.long p4), .second, .val (.long x8), .second, .val (.long x10), .second, .val (.ref b3), .val (.long x13), .second, .val (.int x15), .val (.int x16), .val (.long x17), .second, .val (.ref b44), .val (.int (1 : Int32)), .val (.int b_1), .val (.int (idxF x17 ss)), .unset] [])) (fun t kt => ?_) ?_
          · show Steps p.tables e below (T5.setTop (mkF m 486 #[.val (.long p1), .second, .val (.long p2), .second, .val (.long p3), .second, .val (.long p4), .second, .val (.long x8), .second, .val (.long x10), .second, .val (.ref b3), .val (.long x13), .second, .val (.int x15), .val (.int x16), .val (.long x17), .second, .val (.ref b44), .val (.int (1 : Int32)), .val (.int b_1), .val (.int (idxF x17 ss)), .unset] [(.int (9 : Int32)), (.int x15)])) _
            refine XS.icmpNo X5.here hx rfl (hb hby at_486) rfl (tlt hc11).2.1 ?_
            exact kt
          refine Go.step (T' := T5) (f' := (mkF m 493 #[.val (.long p1), .second, .val (.long p2), .second, .val (.long p3), .second, .val (.long p4), .second, .val (.long x8), .second, .val (.long x10), .second, .val (.ref b3), .val (.long x13), .second, .val (.int x15), .val (.int x16), .val (.long x17), .second, .val (.ref b44), .val (.int (1 : Int32)), .val (.int b_1), .val (.int (idxF x17 ss)), .unset] [(.int (idxF x17 ss)), (.int x15)])) (fun t kt => ?_) ?_
          · show Steps p.tables e below (T5.setTop (mkF m 489 #[.val (.long p1), .second, .val (.long p2), .second, .val (.long p3), .second, .val (.long p4), .second, .val (.long x8), .second, .val (.long x10), .second, .val (.ref b3), .val (.long x13), .second, .val (.int x15), .val (.int x16), .val (.long x17), .second, .val (.ref b44), .val (.int (1 : Int32)), .val (.int b_1), .val (.int (idxF x17 ss)), .unset] [])) _
            refine XS.iload X5.here hx rfl (hb hby at_489) rfl ?_
            show Steps p.tables e below (T5.setTop (mkF m 491 #[.val (.long p1), .second, .val (.long p2), .second, .val (.long p3), .second, .val (.long p4), .second, .val (.long x8), .second, .val (.long x10), .second, .val (.ref b3), .val (.long x13), .second, .val (.int x15), .val (.int x16), .val (.long x17), .second, .val (.ref b44), .val (.int (1 : Int32)), .val (.int b_1), .val (.int (idxF x17 ss)), .unset] [(.int x15)])) _
            refine XS.iload X5.here hx rfl (hb hby at_491) rfl ?_
            exact kt
          by_cases hc12 : x15 = (idxF x17 ss)
          · have _ := hc12
            refine Go.step (T' := T5) (f' := (mkF m 500 #[.val (.long p1), .second, .val (.long p2), .second, .val (.long p3), .second, .val (.long p4), .second, .val (.long x8), .second, .val (.long x10), .second, .val (.ref b3), .val (.long x13), .second, .val (.int x15), .val (.int x16), .val (.long x17), .second, .val (.ref b44), .val (.int (1 : Int32)), .val (.int b_1), .val (.int (idxF x17 ss)), .unset] [])) (fun t kt => ?_) ?_
            · show Steps p.tables e below (T5.setTop (mkF m 493 #[.val (.long p1), .second, .val (.long p2), .second, .val (.long p3), .second, .val (.long p4), .second, .val (.long x8), .second, .val (.long x10), .second, .val (.ref b3), .val (.long x13), .second, .val (.int x15), .val (.int x16), .val (.long x17), .second, .val (.ref b44), .val (.int (1 : Int32)), .val (.int b_1), .val (.int (idxF x17 ss)), .unset] [(.int (idxF x17 ss)), (.int x15)])) _
              refine XS.icmpYes X5.here hx rfl (pc0 := 493) (pc' := 500) rfl (hb hby at_493) rfl (teq hc12).1 (by decide) (by decide) ?_
              exact kt
            refine Go.step (T' := T5) (f' := (mkF m 512 #[.val (.long p1), .second, .val (.long p2), .second, .val (.long p3), .second, .val (.long p4), .second, .val (.long x8), .second, .val (.long x10), .second, .val (.ref b3), .val (.long x13), .second, .val (.int x15), .val (.int x16), .val (.long x17), .second, .val (.ref b44), .val (.int (1 : Int32)), .val (.int b_1), .val (.int (idxF x17 ss)), .val (.int (0 : Int32))] [(.int (0 : Int32)), (.int b_1)])) (fun t kt => ?_) ?_
            · show Steps p.tables e below (T5.setTop (mkF m 500 #[.val (.long p1), .second, .val (.long p2), .second, .val (.long p3), .second, .val (.long p4), .second, .val (.long x8), .second, .val (.long x10), .second, .val (.ref b3), .val (.long x13), .second, .val (.int x15), .val (.int x16), .val (.long x17), .second, .val (.ref b44), .val (.int (1 : Int32)), .val (.int b_1), .val (.int (idxF x17 ss)), .unset] [])) _
              refine XS.iconst X5.here hx rfl (hb hby at_500) ?_
              show Steps p.tables e below (T5.setTop (mkF m 501 #[.val (.long p1), .second, .val (.long p2), .second, .val (.long p3), .second, .val (.long p4), .second, .val (.long x8), .second, .val (.long x10), .second, .val (.ref b3), .val (.long x13), .second, .val (.int x15), .val (.int x16), .val (.long x17), .second, .val (.ref b44), .val (.int (1 : Int32)), .val (.int b_1), .val (.int (idxF x17 ss)), .unset] [(.int (0 : Int32))])) _
              refine XS.istore X5.here hx rfl (hb hby at_501) rfl (l' := #[.val (.long p1), .second, .val (.long p2), .second, .val (.long p3), .second, .val (.long p4), .second, .val (.long x8), .second, .val (.long x10), .second, .val (.ref b3), .val (.long x13), .second, .val (.int x15), .val (.int x16), .val (.long x17), .second, .val (.ref b44), .val (.int (1 : Int32)), .val (.int b_1), .val (.int (idxF x17 ss)), .val (.int (0 : Int32))]) rfl ?_
              show Steps p.tables e below (T5.setTop (mkF m 503 #[.val (.long p1), .second, .val (.long p2), .second, .val (.long p3), .second, .val (.long p4), .second, .val (.long x8), .second, .val (.long x10), .second, .val (.ref b3), .val (.long x13), .second, .val (.int x15), .val (.int x16), .val (.long x17), .second, .val (.ref b44), .val (.int (1 : Int32)), .val (.int b_1), .val (.int (idxF x17 ss)), .val (.int (0 : Int32))] [])) _
              refine XS.iload X5.here hx rfl (hb hby at_503) rfl ?_
              show Steps p.tables e below (T5.setTop (mkF m 505 #[.val (.long p1), .second, .val (.long p2), .second, .val (.long p3), .second, .val (.long p4), .second, .val (.long x8), .second, .val (.long x10), .second, .val (.ref b3), .val (.long x13), .second, .val (.int x15), .val (.int x16), .val (.long x17), .second, .val (.ref b44), .val (.int (1 : Int32)), .val (.int b_1), .val (.int (idxF x17 ss)), .val (.int (0 : Int32))] [(.int (1 : Int32))])) _
              refine XS.ifNo X5.here hx rfl (hb hby at_505) rfl ((if0 _ _).trans (feq (by decide : ¬ ((1 : Int32) = (0 : Int32)))).1) ?_
              show Steps p.tables e below (T5.setTop (mkF m 508 #[.val (.long p1), .second, .val (.long p2), .second, .val (.long p3), .second, .val (.long p4), .second, .val (.long x8), .second, .val (.long x10), .second, .val (.ref b3), .val (.long x13), .second, .val (.int x15), .val (.int x16), .val (.long x17), .second, .val (.ref b44), .val (.int (1 : Int32)), .val (.int b_1), .val (.int (idxF x17 ss)), .val (.int (0 : Int32))] [])) _
              refine XS.iload X5.here hx rfl (hb hby at_508) rfl ?_
              show Steps p.tables e below (T5.setTop (mkF m 510 #[.val (.long p1), .second, .val (.long p2), .second, .val (.long p3), .second, .val (.long p4), .second, .val (.long x8), .second, .val (.long x10), .second, .val (.ref b3), .val (.long x13), .second, .val (.int x15), .val (.int x16), .val (.long x17), .second, .val (.ref b44), .val (.int (1 : Int32)), .val (.int b_1), .val (.int (idxF x17 ss)), .val (.int (0 : Int32))] [(.int b_1)])) _
              refine XS.iload X5.here hx rfl (hb hby at_510) rfl ?_
              exact kt
            have hd13 : b_1 = (0 : Int32) := hZ9.2.2.2.1 (by assumption) (by assumption) (by assumption)
            refine Go.step (T' := T5) (f' := (mkF m 520 #[.val (.long p1), .second, .val (.long p2), .second, .val (.long p3), .second, .val (.long p4), .second, .val (.long x8), .second, .val (.long x10), .second, .val (.ref b3), .val (.long x13), .second, .val (.int x15), .val (.int x16), .val (.long x17), .second, .val (.ref b44), .val (.int (1 : Int32)), .val (.int b_1), .val (.int (idxF x17 ss)), .val (.int (0 : Int32))] [(.int (1 : Int32))])) (fun t kt => ?_) ?_
            · show Steps p.tables e below (T5.setTop (mkF m 512 #[.val (.long p1), .second, .val (.long p2), .second, .val (.long p3), .second, .val (.long p4), .second, .val (.long x8), .second, .val (.long x10), .second, .val (.ref b3), .val (.long x13), .second, .val (.int x15), .val (.int x16), .val (.long x17), .second, .val (.ref b44), .val (.int (1 : Int32)), .val (.int b_1), .val (.int (idxF x17 ss)), .val (.int (0 : Int32))] [(.int (0 : Int32)), (.int b_1)])) _
              refine XS.icmpNo X5.here hx rfl (hb hby at_512) rfl (teq hd13).2 ?_
              show Steps p.tables e below (T5.setTop (mkF m 515 #[.val (.long p1), .second, .val (.long p2), .second, .val (.long p3), .second, .val (.long p4), .second, .val (.long x8), .second, .val (.long x10), .second, .val (.ref b3), .val (.long x13), .second, .val (.int x15), .val (.int x16), .val (.long x17), .second, .val (.ref b44), .val (.int (1 : Int32)), .val (.int b_1), .val (.int (idxF x17 ss)), .val (.int (0 : Int32))] [])) _
              refine XS.iconst X5.here hx rfl (hb hby at_515) ?_
              show Steps p.tables e below (T5.setTop (mkF m 516 #[.val (.long p1), .second, .val (.long p2), .second, .val (.long p3), .second, .val (.long p4), .second, .val (.long x8), .second, .val (.long x10), .second, .val (.ref b3), .val (.long x13), .second, .val (.int x15), .val (.int x16), .val (.long x17), .second, .val (.ref b44), .val (.int (1 : Int32)), .val (.int b_1), .val (.int (idxF x17 ss)), .val (.int (0 : Int32))] [(.int (1 : Int32))])) _
              refine XS.goto X5.here hx rfl (pc0 := 516) (pc' := 520) rfl (hb hby at_516) (by decide) (by decide) ?_
              exact kt
            refine Go.fin X5 (v := some (.int (1 : Int32))) (fun h => by rw [Bd.returns] at h; cases h) Bd.notSynchronized ?_ (Nat.le_trans (Nat.add_le_add_right (Nat.add_le_add_right hcl 0) 0) (by decide)) (Nat.le_trans (Nat.add_le_add_right (Nat.add_le_add_right hsl 0) 0) (by decide)) (fun fs hr => retN X5 hx (t := .boolean) Bd.returns (by simp) (hb hby at_520) hr)
            · show Q0 Z p1 p2 p3 p4 h0 n0 _ T5.heap _
              exact ⟨rfl, N5⟩
          · have _ := hc12
            refine Go.step (T' := T5) (f' := (mkF m 496 #[.val (.long p1), .second, .val (.long p2), .second, .val (.long p3), .second, .val (.long p4), .second, .val (.long x8), .second, .val (.long x10), .second, .val (.ref b3), .val (.long x13), .second, .val (.int x15), .val (.int x16), .val (.long x17), .second, .val (.ref b44), .val (.int (1 : Int32)), .val (.int b_1), .val (.int (idxF x17 ss)), .unset] [])) (fun t kt => ?_) ?_
            · show Steps p.tables e below (T5.setTop (mkF m 493 #[.val (.long p1), .second, .val (.long p2), .second, .val (.long p3), .second, .val (.long p4), .second, .val (.long x8), .second, .val (.long x10), .second, .val (.ref b3), .val (.long x13), .second, .val (.int x15), .val (.int x16), .val (.long x17), .second, .val (.ref b44), .val (.int (1 : Int32)), .val (.int b_1), .val (.int (idxF x17 ss)), .unset] [(.int (idxF x17 ss)), (.int x15)])) _
              refine XS.icmpNo X5.here hx rfl (hb hby at_493) rfl (feq hc12).1 ?_
              exact kt
            refine Go.step (T' := T5) (f' := (mkF m 512 #[.val (.long p1), .second, .val (.long p2), .second, .val (.long p3), .second, .val (.long p4), .second, .val (.long x8), .second, .val (.long x10), .second, .val (.ref b3), .val (.long x13), .second, .val (.int x15), .val (.int x16), .val (.long x17), .second, .val (.ref b44), .val (.int (1 : Int32)), .val (.int b_1), .val (.int (idxF x17 ss)), .val (.int (1 : Int32))] [(.int (1 : Int32)), (.int b_1)])) (fun t kt => ?_) ?_
            · show Steps p.tables e below (T5.setTop (mkF m 496 #[.val (.long p1), .second, .val (.long p2), .second, .val (.long p3), .second, .val (.long p4), .second, .val (.long x8), .second, .val (.long x10), .second, .val (.ref b3), .val (.long x13), .second, .val (.int x15), .val (.int x16), .val (.long x17), .second, .val (.ref b44), .val (.int (1 : Int32)), .val (.int b_1), .val (.int (idxF x17 ss)), .unset] [])) _
              refine XS.iconst X5.here hx rfl (hb hby at_496) ?_
              show Steps p.tables e below (T5.setTop (mkF m 497 #[.val (.long p1), .second, .val (.long p2), .second, .val (.long p3), .second, .val (.long p4), .second, .val (.long x8), .second, .val (.long x10), .second, .val (.ref b3), .val (.long x13), .second, .val (.int x15), .val (.int x16), .val (.long x17), .second, .val (.ref b44), .val (.int (1 : Int32)), .val (.int b_1), .val (.int (idxF x17 ss)), .unset] [(.int (1 : Int32))])) _
              refine XS.goto X5.here hx rfl (pc0 := 497) (pc' := 501) rfl (hb hby at_497) (by decide) (by decide) ?_
              show Steps p.tables e below (T5.setTop (mkF m 501 #[.val (.long p1), .second, .val (.long p2), .second, .val (.long p3), .second, .val (.long p4), .second, .val (.long x8), .second, .val (.long x10), .second, .val (.ref b3), .val (.long x13), .second, .val (.int x15), .val (.int x16), .val (.long x17), .second, .val (.ref b44), .val (.int (1 : Int32)), .val (.int b_1), .val (.int (idxF x17 ss)), .unset] [(.int (1 : Int32))])) _
              refine XS.istore X5.here hx rfl (hb hby at_501) rfl (l' := #[.val (.long p1), .second, .val (.long p2), .second, .val (.long p3), .second, .val (.long p4), .second, .val (.long x8), .second, .val (.long x10), .second, .val (.ref b3), .val (.long x13), .second, .val (.int x15), .val (.int x16), .val (.long x17), .second, .val (.ref b44), .val (.int (1 : Int32)), .val (.int b_1), .val (.int (idxF x17 ss)), .val (.int (1 : Int32))]) rfl ?_
              show Steps p.tables e below (T5.setTop (mkF m 503 #[.val (.long p1), .second, .val (.long p2), .second, .val (.long p3), .second, .val (.long p4), .second, .val (.long x8), .second, .val (.long x10), .second, .val (.ref b3), .val (.long x13), .second, .val (.int x15), .val (.int x16), .val (.long x17), .second, .val (.ref b44), .val (.int (1 : Int32)), .val (.int b_1), .val (.int (idxF x17 ss)), .val (.int (1 : Int32))] [])) _
              refine XS.iload X5.here hx rfl (hb hby at_503) rfl ?_
              show Steps p.tables e below (T5.setTop (mkF m 505 #[.val (.long p1), .second, .val (.long p2), .second, .val (.long p3), .second, .val (.long p4), .second, .val (.long x8), .second, .val (.long x10), .second, .val (.ref b3), .val (.long x13), .second, .val (.int x15), .val (.int x16), .val (.long x17), .second, .val (.ref b44), .val (.int (1 : Int32)), .val (.int b_1), .val (.int (idxF x17 ss)), .val (.int (1 : Int32))] [(.int (1 : Int32))])) _
              refine XS.ifNo X5.here hx rfl (hb hby at_505) rfl ((if0 _ _).trans (feq (by decide : ¬ ((1 : Int32) = (0 : Int32)))).1) ?_
              show Steps p.tables e below (T5.setTop (mkF m 508 #[.val (.long p1), .second, .val (.long p2), .second, .val (.long p3), .second, .val (.long p4), .second, .val (.long x8), .second, .val (.long x10), .second, .val (.ref b3), .val (.long x13), .second, .val (.int x15), .val (.int x16), .val (.long x17), .second, .val (.ref b44), .val (.int (1 : Int32)), .val (.int b_1), .val (.int (idxF x17 ss)), .val (.int (1 : Int32))] [])) _
              refine XS.iload X5.here hx rfl (hb hby at_508) rfl ?_
              show Steps p.tables e below (T5.setTop (mkF m 510 #[.val (.long p1), .second, .val (.long p2), .second, .val (.long p3), .second, .val (.long p4), .second, .val (.long x8), .second, .val (.long x10), .second, .val (.ref b3), .val (.long x13), .second, .val (.int x15), .val (.int x16), .val (.long x17), .second, .val (.ref b44), .val (.int (1 : Int32)), .val (.int b_1), .val (.int (idxF x17 ss)), .val (.int (1 : Int32))] [(.int b_1)])) _
              refine XS.iload X5.here hx rfl (hb hby at_510) rfl ?_
              exact kt
            have hd14 : b_1 = (1 : Int32) := hZ9.2.2.2.2 (by assumption) (by assumption) (by assumption) (by assumption)
            refine Go.step (T' := T5) (f' := (mkF m 520 #[.val (.long p1), .second, .val (.long p2), .second, .val (.long p3), .second, .val (.long p4), .second, .val (.long x8), .second, .val (.long x10), .second, .val (.ref b3), .val (.long x13), .second, .val (.int x15), .val (.int x16), .val (.long x17), .second, .val (.ref b44), .val (.int (1 : Int32)), .val (.int b_1), .val (.int (idxF x17 ss)), .val (.int (1 : Int32))] [(.int (1 : Int32))])) (fun t kt => ?_) ?_
            · show Steps p.tables e below (T5.setTop (mkF m 512 #[.val (.long p1), .second, .val (.long p2), .second, .val (.long p3), .second, .val (.long p4), .second, .val (.long x8), .second, .val (.long x10), .second, .val (.ref b3), .val (.long x13), .second, .val (.int x15), .val (.int x16), .val (.long x17), .second, .val (.ref b44), .val (.int (1 : Int32)), .val (.int b_1), .val (.int (idxF x17 ss)), .val (.int (1 : Int32))] [(.int (1 : Int32)), (.int b_1)])) _
              refine XS.icmpNo X5.here hx rfl (hb hby at_512) rfl (teq hd14).2 ?_
              show Steps p.tables e below (T5.setTop (mkF m 515 #[.val (.long p1), .second, .val (.long p2), .second, .val (.long p3), .second, .val (.long p4), .second, .val (.long x8), .second, .val (.long x10), .second, .val (.ref b3), .val (.long x13), .second, .val (.int x15), .val (.int x16), .val (.long x17), .second, .val (.ref b44), .val (.int (1 : Int32)), .val (.int b_1), .val (.int (idxF x17 ss)), .val (.int (1 : Int32))] [])) _
              refine XS.iconst X5.here hx rfl (hb hby at_515) ?_
              show Steps p.tables e below (T5.setTop (mkF m 516 #[.val (.long p1), .second, .val (.long p2), .second, .val (.long p3), .second, .val (.long p4), .second, .val (.long x8), .second, .val (.long x10), .second, .val (.ref b3), .val (.long x13), .second, .val (.int x15), .val (.int x16), .val (.long x17), .second, .val (.ref b44), .val (.int (1 : Int32)), .val (.int b_1), .val (.int (idxF x17 ss)), .val (.int (1 : Int32))] [(.int (1 : Int32))])) _
              refine XS.goto X5.here hx rfl (pc0 := 516) (pc' := 520) rfl (hb hby at_516) (by decide) (by decide) ?_
              exact kt
            refine Go.fin X5 (v := some (.int (1 : Int32))) (fun h => by rw [Bd.returns] at h; cases h) Bd.notSynchronized ?_ (Nat.le_trans (Nat.add_le_add_right (Nat.add_le_add_right hcl 0) 0) (by decide)) (Nat.le_trans (Nat.add_le_add_right (Nat.add_le_add_right hsl 0) 0) (by decide)) (fun fs hr => retN X5 hx (t := .boolean) Bd.returns (by simp) (hb hby at_520) hr)
            · show Q0 Z p1 p2 p3 p4 h0 n0 _ T5.heap _
              exact ⟨rfl, N5⟩
        · have _ := hc11
          refine Go.step (T' := T5) (f' := (mkF m 496 #[.val (.long p1), .second, .val (.long p2), .second, .val (.long p3), .second, .val (.long p4), .second, .val (.long x8), .second, .val (.long x10), .second, .val (.ref b3), .val (.long x13), .second, .val (.int x15), .val (.int x16), .val (.long x17), .second, .val (.ref b44), .val (.int (1 : Int32)), .val (.int b_1), .val (.int (idxF x17 ss)), .unset] [])) (fun t kt => ?_) ?_
          · show Steps p.tables e below (T5.setTop (mkF m 486 #[.val (.long p1), .second, .val (.long p2), .second, .val (.long p3), .second, .val (.long p4), .second, .val (.long x8), .second, .val (.long x10), .second, .val (.ref b3), .val (.long x13), .second, .val (.int x15), .val (.int x16), .val (.long x17), .second, .val (.ref b44), .val (.int (1 : Int32)), .val (.int b_1), .val (.int (idxF x17 ss)), .unset] [(.int (9 : Int32)), (.int x15)])) _
            refine XS.icmpYes X5.here hx rfl (pc0 := 486) (pc' := 496) rfl (hb hby at_486) rfl (flt hc11).2.1 (by decide) (by decide) ?_
            exact kt
          refine Go.step (T' := T5) (f' := (mkF m 512 #[.val (.long p1), .second, .val (.long p2), .second, .val (.long p3), .second, .val (.long p4), .second, .val (.long x8), .second, .val (.long x10), .second, .val (.ref b3), .val (.long x13), .second, .val (.int x15), .val (.int x16), .val (.long x17), .second, .val (.ref b44), .val (.int (1 : Int32)), .val (.int b_1), .val (.int (idxF x17 ss)), .val (.int (1 : Int32))] [(.int (1 : Int32)), (.int b_1)])) (fun t kt => ?_) ?_
          · show Steps p.tables e below (T5.setTop (mkF m 496 #[.val (.long p1), .second, .val (.long p2), .second, .val (.long p3), .second, .val (.long p4), .second, .val (.long x8), .second, .val (.long x10), .second, .val (.ref b3), .val (.long x13), .second, .val (.int x15), .val (.int x16), .val (.long x17), .second, .val (.ref b44), .val (.int (1 : Int32)), .val (.int b_1), .val (.int (idxF x17 ss)), .unset] [])) _
            refine XS.iconst X5.here hx rfl (hb hby at_496) ?_
            show Steps p.tables e below (T5.setTop (mkF m 497 #[.val (.long p1), .second, .val (.long p2), .second, .val (.long p3), .second, .val (.long p4), .second, .val (.long x8), .second, .val (.long x10), .second, .val (.ref b3), .val (.long x13), .second, .val (.int x15), .val (.int x16), .val (.long x17), .second, .val (.ref b44), .val (.int (1 : Int32)), .val (.int b_1), .val (.int (idxF x17 ss)), .unset] [(.int (1 : Int32))])) _
            refine XS.goto X5.here hx rfl (pc0 := 497) (pc' := 501) rfl (hb hby at_497) (by decide) (by decide) ?_
            show Steps p.tables e below (T5.setTop (mkF m 501 #[.val (.long p1), .second, .val (.long p2), .second, .val (.long p3), .second, .val (.long p4), .second, .val (.long x8), .second, .val (.long x10), .second, .val (.ref b3), .val (.long x13), .second, .val (.int x15), .val (.int x16), .val (.long x17), .second, .val (.ref b44), .val (.int (1 : Int32)), .val (.int b_1), .val (.int (idxF x17 ss)), .unset] [(.int (1 : Int32))])) _
            refine XS.istore X5.here hx rfl (hb hby at_501) rfl (l' := #[.val (.long p1), .second, .val (.long p2), .second, .val (.long p3), .second, .val (.long p4), .second, .val (.long x8), .second, .val (.long x10), .second, .val (.ref b3), .val (.long x13), .second, .val (.int x15), .val (.int x16), .val (.long x17), .second, .val (.ref b44), .val (.int (1 : Int32)), .val (.int b_1), .val (.int (idxF x17 ss)), .val (.int (1 : Int32))]) rfl ?_
            show Steps p.tables e below (T5.setTop (mkF m 503 #[.val (.long p1), .second, .val (.long p2), .second, .val (.long p3), .second, .val (.long p4), .second, .val (.long x8), .second, .val (.long x10), .second, .val (.ref b3), .val (.long x13), .second, .val (.int x15), .val (.int x16), .val (.long x17), .second, .val (.ref b44), .val (.int (1 : Int32)), .val (.int b_1), .val (.int (idxF x17 ss)), .val (.int (1 : Int32))] [])) _
            refine XS.iload X5.here hx rfl (hb hby at_503) rfl ?_
            show Steps p.tables e below (T5.setTop (mkF m 505 #[.val (.long p1), .second, .val (.long p2), .second, .val (.long p3), .second, .val (.long p4), .second, .val (.long x8), .second, .val (.long x10), .second, .val (.ref b3), .val (.long x13), .second, .val (.int x15), .val (.int x16), .val (.long x17), .second, .val (.ref b44), .val (.int (1 : Int32)), .val (.int b_1), .val (.int (idxF x17 ss)), .val (.int (1 : Int32))] [(.int (1 : Int32))])) _
            refine XS.ifNo X5.here hx rfl (hb hby at_505) rfl ((if0 _ _).trans (feq (by decide : ¬ ((1 : Int32) = (0 : Int32)))).1) ?_
            show Steps p.tables e below (T5.setTop (mkF m 508 #[.val (.long p1), .second, .val (.long p2), .second, .val (.long p3), .second, .val (.long p4), .second, .val (.long x8), .second, .val (.long x10), .second, .val (.ref b3), .val (.long x13), .second, .val (.int x15), .val (.int x16), .val (.long x17), .second, .val (.ref b44), .val (.int (1 : Int32)), .val (.int b_1), .val (.int (idxF x17 ss)), .val (.int (1 : Int32))] [])) _
            refine XS.iload X5.here hx rfl (hb hby at_508) rfl ?_
            show Steps p.tables e below (T5.setTop (mkF m 510 #[.val (.long p1), .second, .val (.long p2), .second, .val (.long p3), .second, .val (.long p4), .second, .val (.long x8), .second, .val (.long x10), .second, .val (.ref b3), .val (.long x13), .second, .val (.int x15), .val (.int x16), .val (.long x17), .second, .val (.ref b44), .val (.int (1 : Int32)), .val (.int b_1), .val (.int (idxF x17 ss)), .val (.int (1 : Int32))] [(.int b_1)])) _
            refine XS.iload X5.here hx rfl (hb hby at_510) rfl ?_
            exact kt
          have hd15 : b_1 = (1 : Int32) := hZ9.2.2.1 (by assumption) (by assumption) (by assumption)
          refine Go.step (T' := T5) (f' := (mkF m 520 #[.val (.long p1), .second, .val (.long p2), .second, .val (.long p3), .second, .val (.long p4), .second, .val (.long x8), .second, .val (.long x10), .second, .val (.ref b3), .val (.long x13), .second, .val (.int x15), .val (.int x16), .val (.long x17), .second, .val (.ref b44), .val (.int (1 : Int32)), .val (.int b_1), .val (.int (idxF x17 ss)), .val (.int (1 : Int32))] [(.int (1 : Int32))])) (fun t kt => ?_) ?_
          · show Steps p.tables e below (T5.setTop (mkF m 512 #[.val (.long p1), .second, .val (.long p2), .second, .val (.long p3), .second, .val (.long p4), .second, .val (.long x8), .second, .val (.long x10), .second, .val (.ref b3), .val (.long x13), .second, .val (.int x15), .val (.int x16), .val (.long x17), .second, .val (.ref b44), .val (.int (1 : Int32)), .val (.int b_1), .val (.int (idxF x17 ss)), .val (.int (1 : Int32))] [(.int (1 : Int32)), (.int b_1)])) _
            refine XS.icmpNo X5.here hx rfl (hb hby at_512) rfl (teq hd15).2 ?_
            show Steps p.tables e below (T5.setTop (mkF m 515 #[.val (.long p1), .second, .val (.long p2), .second, .val (.long p3), .second, .val (.long p4), .second, .val (.long x8), .second, .val (.long x10), .second, .val (.ref b3), .val (.long x13), .second, .val (.int x15), .val (.int x16), .val (.long x17), .second, .val (.ref b44), .val (.int (1 : Int32)), .val (.int b_1), .val (.int (idxF x17 ss)), .val (.int (1 : Int32))] [])) _
            refine XS.iconst X5.here hx rfl (hb hby at_515) ?_
            show Steps p.tables e below (T5.setTop (mkF m 516 #[.val (.long p1), .second, .val (.long p2), .second, .val (.long p3), .second, .val (.long p4), .second, .val (.long x8), .second, .val (.long x10), .second, .val (.ref b3), .val (.long x13), .second, .val (.int x15), .val (.int x16), .val (.long x17), .second, .val (.ref b44), .val (.int (1 : Int32)), .val (.int b_1), .val (.int (idxF x17 ss)), .val (.int (1 : Int32))] [(.int (1 : Int32))])) _
            refine XS.goto X5.here hx rfl (pc0 := 516) (pc' := 520) rfl (hb hby at_516) (by decide) (by decide) ?_
            exact kt
          refine Go.fin X5 (v := some (.int (1 : Int32))) (fun h => by rw [Bd.returns] at h; cases h) Bd.notSynchronized ?_ (Nat.le_trans (Nat.add_le_add_right (Nat.add_le_add_right hcl 0) 0) (by decide)) (Nat.le_trans (Nat.add_le_add_right (Nat.add_le_add_right hsl 0) 0) (by decide)) (fun fs hr => retN X5 hx (t := .boolean) Bd.returns (by simp) (hb hby at_520) hr)
          · show Q0 Z p1 p2 p3 p4 h0 n0 _ T5.heap _
            exact ⟨rfl, N5⟩
  have S382 : ∀ (T : State) (locs : List Loc) (cells slots : Nat) (X : Stand p l e room_1 s m #[(.long p1), (.long p2), (.long p3), (.long p4)] below meth c T locs cells slots) (hcl : cells ≤ 6) (hsl : slots ≤ 62) (h : Heap) (eT : T.heap = h) (N : Fr n0 locs) (x8 : Int64) (x10 : Int64) (x13 : Int64) (x15 : Int32) (x16 : Int32) (x17 : Int64)  (b3 : Addr) (b44 : Addr) (s2_87 : Addr) (a2_87 : Addr) (ss : List Int64) (c1 : Int32) (o1 : Int32) (sl : List Int64) (al : List Int32) (NN : Nat) (K : Keep h0 h []) (fc0 : VA Z h b3 .long (ss.map Value.long)) (fc1 : Exa Z h b44 "com/example/talthybius/talthybius/AwaitedPings") (fc2 : Fld Z h b44 "com/example/talthybius/talthybius/AwaitedPings" "sentAt" "[J" (.ref s2_87)) (fc3 : Fld Z h b44 "com/example/talthybius/talthybius/AwaitedPings" "answered" "[Z" (.ref a2_87)) (fc4 : Fld Z h b44 "com/example/talthybius/talthybius/AwaitedPings" "timeoutNanos" "J" (.long x8)) (fc5 : Fld Z h b44 "com/example/talthybius/talthybius/AwaitedPings" "count" "I" (.int c1)) (fc6 : Fld Z h b44 "com/example/talthybius/talthybius/AwaitedPings" "oldest" "I" (.int o1)) (fc7 : VA Z h s2_87 .long (sl.map Value.long)) (fc8 : VA Z h a2_87 .boolean (al.map Value.int)) (g_b3 : n0 ≤ b3) (g_b44 : n0 ≤ b44) (g_s2_87 : n0 ≤ s2_87) (g_a2_87 : n0 ≤ a2_87) (sz_b3 : h0.size ≤ b3) (sz_b44 : h0.size ≤ b44) (sz_s2_87 : h0.size ≤ s2_87) (sz_a2_87 : h0.size ≤ a2_87) (ne_b3_b44 : b3 ≠ b44) (ne_b3_s2_87 : b3 ≠ s2_87) (ne_b44_s2_87 : b44 ≠ s2_87) (ne_b3_a2_87 : b3 ≠ a2_87) (ne_b44_a2_87 : b44 ≠ a2_87) (ne_s2_87_a2_87 : s2_87 ≠ a2_87) (hA : own_AP NN sl al o1 c1 (own_Qn x8 ss 8)) (hS : own_SS 8 ss) (h13 : 0 ≤ x13.toInt - (ss.getD 8 0).toInt ∧ x13.toInt - (ss.getD 8 0).toInt ≤ 6000) (h15 : 0 ≤ x15.toInt ∧ x15.toInt ≤ 15), Go p e below s (Q0 Z p1 p2 p3 p4 h0 n0) 24 192 T (mkF m 382 #[.val (.long p1), .second, .val (.long p2), .second, .val (.long p3), .second, .val (.long p4), .second, .val (.long x8), .second, .val (.long x10), .second, .val (.ref b3), .val (.long x13), .second, .val (.int x15), .val (.int x16), .val (.long x17), .second, .val (.ref b44), .unset, .unset, .unset, .unset] []) := by
    intro T locs cells slots X hcl hsl h eT N x8 x10 x13 x15 x16 x17 b3 b44 s2_87 a2_87 ss c1 o1 sl al NN K fc0 fc1 fc2 fc3 fc4 fc5 fc6 fc7 fc8 g_b3 g_b44 g_s2_87 g_a2_87 sz_b3 sz_b44 sz_s2_87 sz_a2_87 ne_b3_b44 ne_b3_s2_87 ne_b44_s2_87 ne_b3_a2_87 ne_b44_a2_87 ne_s2_87_a2_87 hA hS h13 h15
    have Zh : n0 ≤ h.size := Nat.le_trans Z0 K.1
    refine Go.step (T' := T) (f' := (mkF m 389 #[.val (.long p1), .second, .val (.long p2), .second, .val (.long p3), .second, .val (.long p4), .second, .val (.long x8), .second, .val (.long x10), .second, .val (.ref b3), .val (.long x13), .second, .val (.int x15), .val (.int x16), .val (.long x17), .second, .val (.ref b44), .val (.int (1 : Int32)), .unset, .unset, .unset] [(.int (9 : Int32)), (.int x15)])) (fun t kt => ?_) ?_
    · show Steps p.tables e below (T.setTop (mkF m 382 #[.val (.long p1), .second, .val (.long p2), .second, .val (.long p3), .second, .val (.long p4), .second, .val (.long x8), .second, .val (.long x10), .second, .val (.ref b3), .val (.long x13), .second, .val (.int x15), .val (.int x16), .val (.long x17), .second, .val (.ref b44), .unset, .unset, .unset, .unset] [])) _
      refine XS.iconst X.here hx rfl (hb hby at_382) ?_
      show Steps p.tables e below (T.setTop (mkF m 383 #[.val (.long p1), .second, .val (.long p2), .second, .val (.long p3), .second, .val (.long p4), .second, .val (.long x8), .second, .val (.long x10), .second, .val (.ref b3), .val (.long x13), .second, .val (.int x15), .val (.int x16), .val (.long x17), .second, .val (.ref b44), .unset, .unset, .unset, .unset] [(.int (1 : Int32))])) _
      refine XS.istore X.here hx rfl (hb hby at_383) rfl (l' := #[.val (.long p1), .second, .val (.long p2), .second, .val (.long p3), .second, .val (.long p4), .second, .val (.long x8), .second, .val (.long x10), .second, .val (.ref b3), .val (.long x13), .second, .val (.int x15), .val (.int x16), .val (.long x17), .second, .val (.ref b44), .val (.int (1 : Int32)), .unset, .unset, .unset]) rfl ?_
      show Steps p.tables e below (T.setTop (mkF m 385 #[.val (.long p1), .second, .val (.long p2), .second, .val (.long p3), .second, .val (.long p4), .second, .val (.long x8), .second, .val (.long x10), .second, .val (.ref b3), .val (.long x13), .second, .val (.int x15), .val (.int x16), .val (.long x17), .second, .val (.ref b44), .val (.int (1 : Int32)), .unset, .unset, .unset] [])) _
      refine XS.iload X.here hx rfl (hb hby at_385) rfl ?_
      show Steps p.tables e below (T.setTop (mkF m 387 #[.val (.long p1), .second, .val (.long p2), .second, .val (.long p3), .second, .val (.long p4), .second, .val (.long x8), .second, .val (.long x10), .second, .val (.ref b3), .val (.long x13), .second, .val (.int x15), .val (.int x16), .val (.long x17), .second, .val (.ref b44), .val (.int (1 : Int32)), .unset, .unset, .unset] [(.int x15)])) _
      refine XS.bipush X.here hx rfl (hb hby at_387) ?_
      exact kt
    by_cases hc16 : x15 < (9 : Int32)
    · have _ := hc16
      refine Go.step (T' := T) (f' := (mkF m 392 #[.val (.long p1), .second, .val (.long p2), .second, .val (.long p3), .second, .val (.long p4), .second, .val (.long x8), .second, .val (.long x10), .second, .val (.ref b3), .val (.long x13), .second, .val (.int x15), .val (.int x16), .val (.long x17), .second, .val (.ref b44), .val (.int (1 : Int32)), .unset, .unset, .unset] [])) (fun t kt => ?_) ?_
      · show Steps p.tables e below (T.setTop (mkF m 389 #[.val (.long p1), .second, .val (.long p2), .second, .val (.long p3), .second, .val (.long p4), .second, .val (.long x8), .second, .val (.long x10), .second, .val (.ref b3), .val (.long x13), .second, .val (.int x15), .val (.int x16), .val (.long x17), .second, .val (.ref b44), .val (.int (1 : Int32)), .unset, .unset, .unset] [(.int (9 : Int32)), (.int x15)])) _
        refine XS.icmpNo X.here hx rfl (hb hby at_389) rfl (tlt hc16).2.1 ?_
        exact kt
      have ix17 : 0 ≤ (x15).toInt ∧ (x15).toInt < ((ss).length : Int) := own_ixl hS ⟨h15.1, own_l9 (by assumption)⟩
      have ix18 : 0 ≤ ((8 : Int32)).toInt ∧ ((8 : Int32)).toInt < ((ss).length : Int) := own_ixl hS (by decide)
      obtain ⟨cq19, kq19, q19a, q19b, q19c⟩ := isOf hZ eT (fc1 : Exa Z h b44 "com/example/talthybius/talthybius/AwaitedPings")
      obtain ⟨_, _, ⟨T19, L19, k19, n19⟩, -, X19, ⟨Lc19, hQ19, l19, y19, z19⟩, st19⟩ := X.virtualBack hx (y := (⟨"com/example/talthybius/talthybius/AwaitedPings", "answer", "(JJ)Z"⟩ : MethodName)) (z := (⟨"com/example/talthybius/talthybius/AwaitedPings", "answer", "(JJ)Z"⟩ : MethodName)) hown (mvT hZ (hw _ (List.mem_of_getElem? (i := 42) rfl))) (mvT hZ (hw _ (List.mem_of_getElem? (i := 43) rfl))) (notFace_of_selects (args := #[]) (mvT hZ (hw _ (List.mem_of_getElem? (i := 45) rfl)))) (mvT hZ (hw _ (List.mem_of_getElem? (i := 45) rfl))) (mvT hZ (hw _ (List.mem_of_getElem? (i := 44) rfl))) (by decide) (backOf (W := 0) (rm_ansA l Z a0 hw [] b44 (ss.getD x15.toNatClampNeg (0 : Int64)) (ss.getD 8 (0 : Int64)) s2_87 a2_87 x8 o1 c1 sl al NN (own_Qn x8 ss 8) h n0 Zh fc1 fc4 fc2 fc3 fc6 fc5 fc7 fc8 g_b44 g_a2_87 ne_b44_s2_87 ne_b44_a2_87 ne_s2_87_a2_87 hA (own_srt_of (own_pw hS (Nat.le_refl _)))) hZ (hw _ (List.mem_of_getElem? (i := 46) rfl)) (hw _ (List.mem_of_getElem? (i := 11) rfl)) (by decide) (by decide)) q19a q19c (g := (mkF m 404 #[.val (.long p1), .second, .val (.long p2), .second, .val (.long p3), .second, .val (.long p4), .second, .val (.long x8), .second, .val (.long x10), .second, .val (.ref b3), .val (.long x13), .second, .val (.int x15), .val (.int x16), .val (.long x17), .second, .val (.ref b44), .val (.int (1 : Int32)), .unset, .unset, .unset] [(.long (ss.getD 8 (0 : Int64))), (.long (ss.getD x15.toNatClampNeg (0 : Int64))), (.ref b44)])) rfl (by rw [hml]; rfl) (Steps.refl _) (argsL := [(.long (ss.getD x15.toNatClampNeg (0 : Int64))), (.long (ss.getD 8 (0 : Int64)))]) (rest := []) (lenOf pd_5 rfl) rfl (by show 2 * 0 + _ ≤ _; exact Nat.le_of_eq rfl) (hb hby at_404) (fun _ _ => ⟨rfl, eT, (Nat.le_trans (Nat.add_le_add_right hcl 0) (by decide)), (Nat.le_trans (Nat.add_le_add_right hsl 0) (by decide))⟩)
      dsimp only [Pt.U, Pt.locs, Pt.cells, Pt.slots] at X19 l19 y19 z19 st19 hQ19
      subst l19 y19 z19
      obtain ⟨o1_19, c1_19, al1_19, b_19, rfl, N19q, Kq19, pf19_0, pf19_1, pf19_2, pf19_3, pf19_4, pf19_5, ph19_0⟩ := hQ19
      have G20 : VA Z T19.heap b3 .long (ss.map Value.long) := fc0.keep Kq19 (ninS ne_b3_b44 (ninS ne_b3_a2_87 nin0))
      have G21 : Exa Z T19.heap b44 "com/example/talthybius/talthybius/AwaitedPings" := Exa.keep fc1 Kq19
      have G22 : VA Z T19.heap s2_87 .long (sl.map Value.long) := fc7.keep Kq19 (ninS (Ne.symm ne_b44_s2_87) (ninS ne_s2_87_a2_87 nin0))
      have K19 : Keep h0 T19.heap [] := Keep.trans K Kq19 (allS (Or.inr sz_b44) (allS (Or.inr sz_a2_87) all0))
      have Z19 : n0 ≤ T19.heap.size := Nat.le_trans Z0 K19.1
      have N19 := Fr.app N N19q
      have hR := ph19_0
      have hb1 : b_19 = if x8 < ss.getD 8 0 - ss.getD x15.toNatClampNeg 0 then (0 : Int32) else 1 := hR.2.trans (own_A1 (now := ss.getD 8 0) (tmo := x8) hS ⟨by omega, by omega⟩ (own_k8 h15.1 (by assumption)))
      have ix23 : 0 ≤ ((8 : Int32)).toInt ∧ ((8 : Int32)).toInt < ((ss).length : Int) := own_ixl hS (by decide)
      have ix24 : 0 ≤ (x15).toInt ∧ (x15).toInt < ((ss).length : Int) := own_ixl hS ⟨h15.1, own_l9 (by assumption)⟩
      refine Go.step (T' := T19) (f' := (mkF m 425 #[.val (.long p1), .second, .val (.long p2), .second, .val (.long p3), .second, .val (.long p4), .second, .val (.long x8), .second, .val (.long x10), .second, .val (.ref b3), .val (.long x13), .second, .val (.int x15), .val (.int x16), .val (.long x17), .second, .val (.ref b44), .val (.int (1 : Int32)), .val (.int b_19), .unset, .unset] [(.int (lcmpW ((ss.getD 8 (0 : Int64)) - (ss.getD x15.toNatClampNeg (0 : Int64))) x8)), (.int b_19)])) (fun t kt => ?_) ?_
      · show Steps p.tables e below (T.setTop (mkF m 392 #[.val (.long p1), .second, .val (.long p2), .second, .val (.long p3), .second, .val (.long p4), .second, .val (.long x8), .second, .val (.long x10), .second, .val (.ref b3), .val (.long x13), .second, .val (.int x15), .val (.int x16), .val (.long x17), .second, .val (.ref b44), .val (.int (1 : Int32)), .unset, .unset, .unset] [])) _
        refine XS.aload X.here hx rfl (hb hby at_392) rfl rfl ?_
        show Steps p.tables e below (T.setTop (mkF m 394 #[.val (.long p1), .second, .val (.long p2), .second, .val (.long p3), .second, .val (.long p4), .second, .val (.long x8), .second, .val (.long x10), .second, .val (.ref b3), .val (.long x13), .second, .val (.int x15), .val (.int x16), .val (.long x17), .second, .val (.ref b44), .val (.int (1 : Int32)), .unset, .unset, .unset] [(.ref b44)])) _
        refine XS.aload X.here hx rfl (hb hby at_394) rfl rfl ?_
        show Steps p.tables e below (T.setTop (mkF m 396 #[.val (.long p1), .second, .val (.long p2), .second, .val (.long p3), .second, .val (.long p4), .second, .val (.long x8), .second, .val (.long x10), .second, .val (.ref b3), .val (.long x13), .second, .val (.int x15), .val (.int x16), .val (.long x17), .second, .val (.ref b44), .val (.int (1 : Int32)), .unset, .unset, .unset] [(.ref b3), (.ref b44)])) _
        refine XS.iload X.here hx rfl (hb hby at_396) rfl ?_
        show Steps p.tables e below (T.setTop (mkF m 398 #[.val (.long p1), .second, .val (.long p2), .second, .val (.long p3), .second, .val (.long p4), .second, .val (.long x8), .second, .val (.long x10), .second, .val (.ref b3), .val (.long x13), .second, .val (.int x15), .val (.int x16), .val (.long x17), .second, .val (.ref b44), .val (.int (1 : Int32)), .unset, .unset, .unset] [(.int x15), (.ref b3), (.ref b44)])) _
        refine ldJ X hx hZ eT fc0 ix17.1 ix17.2 (g := (mkF m 398 #[.val (.long p1), .second, .val (.long p2), .second, .val (.long p3), .second, .val (.long p4), .second, .val (.long x8), .second, .val (.long x10), .second, .val (.ref b3), .val (.long x13), .second, .val (.int x15), .val (.int x16), .val (.long x17), .second, .val (.ref b44), .val (.int (1 : Int32)), .unset, .unset, .unset] [(.int x15), (.ref b3), (.ref b44)])) rfl rfl (hb hby at_398) _ ?_
        show Steps p.tables e below (T.setTop (mkF m 399 #[.val (.long p1), .second, .val (.long p2), .second, .val (.long p3), .second, .val (.long p4), .second, .val (.long x8), .second, .val (.long x10), .second, .val (.ref b3), .val (.long x13), .second, .val (.int x15), .val (.int x16), .val (.long x17), .second, .val (.ref b44), .val (.int (1 : Int32)), .unset, .unset, .unset] [(.long (ss.getD x15.toNatClampNeg (0 : Int64))), (.ref b44)])) _
        refine XS.aload X.here hx rfl (hb hby at_399) rfl rfl ?_
        show Steps p.tables e below (T.setTop (mkF m 401 #[.val (.long p1), .second, .val (.long p2), .second, .val (.long p3), .second, .val (.long p4), .second, .val (.long x8), .second, .val (.long x10), .second, .val (.ref b3), .val (.long x13), .second, .val (.int x15), .val (.int x16), .val (.long x17), .second, .val (.ref b44), .val (.int (1 : Int32)), .unset, .unset, .unset] [(.ref b3), (.long (ss.getD x15.toNatClampNeg (0 : Int64))), (.ref b44)])) _
        refine XS.bipush X.here hx rfl (hb hby at_401) ?_
        show Steps p.tables e below (T.setTop (mkF m 403 #[.val (.long p1), .second, .val (.long p2), .second, .val (.long p3), .second, .val (.long p4), .second, .val (.long x8), .second, .val (.long x10), .second, .val (.ref b3), .val (.long x13), .second, .val (.int x15), .val (.int x16), .val (.long x17), .second, .val (.ref b44), .val (.int (1 : Int32)), .unset, .unset, .unset] [(.int (8 : Int32)), (.ref b3), (.long (ss.getD x15.toNatClampNeg (0 : Int64))), (.ref b44)])) _
        refine ldJ X hx hZ eT fc0 ix18.1 ix18.2 (g := (mkF m 403 #[.val (.long p1), .second, .val (.long p2), .second, .val (.long p3), .second, .val (.long p4), .second, .val (.long x8), .second, .val (.long x10), .second, .val (.ref b3), .val (.long x13), .second, .val (.int x15), .val (.int x16), .val (.long x17), .second, .val (.ref b44), .val (.int (1 : Int32)), .unset, .unset, .unset] [(.int (8 : Int32)), (.ref b3), (.long (ss.getD x15.toNatClampNeg (0 : Int64))), (.ref b44)])) rfl rfl (hb hby at_403) _ ?_
        show Steps p.tables e below (T.setTop (mkF m 404 #[.val (.long p1), .second, .val (.long p2), .second, .val (.long p3), .second, .val (.long p4), .second, .val (.long x8), .second, .val (.long x10), .second, .val (.ref b3), .val (.long x13), .second, .val (.int x15), .val (.int x16), .val (.long x17), .second, .val (.ref b44), .val (.int (1 : Int32)), .unset, .unset, .unset] [(.long (ss.getD 8 (0 : Int64))), (.long (ss.getD x15.toNatClampNeg (0 : Int64))), (.ref b44)])) _
        refine st19.trans ?_
        show Steps p.tables e below (T19.setTop (mkF m 407 #[.val (.long p1), .second, .val (.long p2), .second, .val (.long p3), .second, .val (.long p4), .second, .val (.long x8), .second, .val (.long x10), .second, .val (.ref b3), .val (.long x13), .second, .val (.int x15), .val (.int x16), .val (.long x17), .second, .val (.ref b44), .val (.int (1 : Int32)), .unset, .unset, .unset] [(.int b_19)])) _
        refine XS.istore X19.here hx rfl (hb hby at_407) rfl (l' := #[.val (.long p1), .second, .val (.long p2), .second, .val (.long p3), .second, .val (.long p4), .second, .val (.long x8), .second, .val (.long x10), .second, .val (.ref b3), .val (.long x13), .second, .val (.int x15), .val (.int x16), .val (.long x17), .second, .val (.ref b44), .val (.int (1 : Int32)), .val (.int b_19), .unset, .unset]) rfl ?_
        show Steps p.tables e below (T19.setTop (mkF m 409 #[.val (.long p1), .second, .val (.long p2), .second, .val (.long p3), .second, .val (.long p4), .second, .val (.long x8), .second, .val (.long x10), .second, .val (.ref b3), .val (.long x13), .second, .val (.int x15), .val (.int x16), .val (.long x17), .second, .val (.ref b44), .val (.int (1 : Int32)), .val (.int b_19), .unset, .unset] [])) _
        refine XS.iload X19.here hx rfl (hb hby at_409) rfl ?_
        show Steps p.tables e below (T19.setTop (mkF m 411 #[.val (.long p1), .second, .val (.long p2), .second, .val (.long p3), .second, .val (.long p4), .second, .val (.long x8), .second, .val (.long x10), .second, .val (.ref b3), .val (.long x13), .second, .val (.int x15), .val (.int x16), .val (.long x17), .second, .val (.ref b44), .val (.int (1 : Int32)), .val (.int b_19), .unset, .unset] [(.int b_19)])) _
        refine XS.aload X19.here hx rfl (hb hby at_411) rfl rfl ?_
        show Steps p.tables e below (T19.setTop (mkF m 413 #[.val (.long p1), .second, .val (.long p2), .second, .val (.long p3), .second, .val (.long p4), .second, .val (.long x8), .second, .val (.long x10), .second, .val (.ref b3), .val (.long x13), .second, .val (.int x15), .val (.int x16), .val (.long x17), .second, .val (.ref b44), .val (.int (1 : Int32)), .val (.int b_19), .unset, .unset] [(.ref b3), (.int b_19)])) _
        refine XS.bipush X19.here hx rfl (hb hby at_413) ?_
        show Steps p.tables e below (T19.setTop (mkF m 415 #[.val (.long p1), .second, .val (.long p2), .second, .val (.long p3), .second, .val (.long p4), .second, .val (.long x8), .second, .val (.long x10), .second, .val (.ref b3), .val (.long x13), .second, .val (.int x15), .val (.int x16), .val (.long x17), .second, .val (.ref b44), .val (.int (1 : Int32)), .val (.int b_19), .unset, .unset] [(.int (8 : Int32)), (.ref b3), (.int b_19)])) _
        refine ldJ X19 hx hZ rfl G20 ix23.1 ix23.2 (g := (mkF m 415 #[.val (.long p1), .second, .val (.long p2), .second, .val (.long p3), .second, .val (.long p4), .second, .val (.long x8), .second, .val (.long x10), .second, .val (.ref b3), .val (.long x13), .second, .val (.int x15), .val (.int x16), .val (.long x17), .second, .val (.ref b44), .val (.int (1 : Int32)), .val (.int b_19), .unset, .unset] [(.int (8 : Int32)), (.ref b3), (.int b_19)])) rfl rfl (hb hby at_415) _ ?_
        show Steps p.tables e below (T19.setTop (mkF m 416 #[.val (.long p1), .second, .val (.long p2), .second, .val (.long p3), .second, .val (.long p4), .second, .val (.long x8), .second, .val (.long x10), .second, .val (.ref b3), .val (.long x13), .second, .val (.int x15), .val (.int x16), .val (.long x17), .second, .val (.ref b44), .val (.int (1 : Int32)), .val (.int b_19), .unset, .unset] [(.long (ss.getD 8 (0 : Int64))), (.int b_19)])) _
        refine XS.aload X19.here hx rfl (hb hby at_416) rfl rfl ?_
        show Steps p.tables e below (T19.setTop (mkF m 418 #[.val (.long p1), .second, .val (.long p2), .second, .val (.long p3), .second, .val (.long p4), .second, .val (.long x8), .second, .val (.long x10), .second, .val (.ref b3), .val (.long x13), .second, .val (.int x15), .val (.int x16), .val (.long x17), .second, .val (.ref b44), .val (.int (1 : Int32)), .val (.int b_19), .unset, .unset] [(.ref b3), (.long (ss.getD 8 (0 : Int64))), (.int b_19)])) _
        refine XS.iload X19.here hx rfl (hb hby at_418) rfl ?_
        show Steps p.tables e below (T19.setTop (mkF m 420 #[.val (.long p1), .second, .val (.long p2), .second, .val (.long p3), .second, .val (.long p4), .second, .val (.long x8), .second, .val (.long x10), .second, .val (.ref b3), .val (.long x13), .second, .val (.int x15), .val (.int x16), .val (.long x17), .second, .val (.ref b44), .val (.int (1 : Int32)), .val (.int b_19), .unset, .unset] [(.int x15), (.ref b3), (.long (ss.getD 8 (0 : Int64))), (.int b_19)])) _
        refine ldJ X19 hx hZ rfl G20 ix24.1 ix24.2 (g := (mkF m 420 #[.val (.long p1), .second, .val (.long p2), .second, .val (.long p3), .second, .val (.long p4), .second, .val (.long x8), .second, .val (.long x10), .second, .val (.ref b3), .val (.long x13), .second, .val (.int x15), .val (.int x16), .val (.long x17), .second, .val (.ref b44), .val (.int (1 : Int32)), .val (.int b_19), .unset, .unset] [(.int x15), (.ref b3), (.long (ss.getD 8 (0 : Int64))), (.int b_19)])) rfl rfl (hb hby at_420) _ ?_
        show Steps p.tables e below (T19.setTop (mkF m 421 #[.val (.long p1), .second, .val (.long p2), .second, .val (.long p3), .second, .val (.long p4), .second, .val (.long x8), .second, .val (.long x10), .second, .val (.ref b3), .val (.long x13), .second, .val (.int x15), .val (.int x16), .val (.long x17), .second, .val (.ref b44), .val (.int (1 : Int32)), .val (.int b_19), .unset, .unset] [(.long (ss.getD x15.toNatClampNeg (0 : Int64))), (.long (ss.getD 8 (0 : Int64))), (.int b_19)])) _
        refine XS.lsub X19.here hx rfl (hb hby at_421) rfl ?_
        show Steps p.tables e below (T19.setTop (mkF m 422 #[.val (.long p1), .second, .val (.long p2), .second, .val (.long p3), .second, .val (.long p4), .second, .val (.long x8), .second, .val (.long x10), .second, .val (.ref b3), .val (.long x13), .second, .val (.int x15), .val (.int x16), .val (.long x17), .second, .val (.ref b44), .val (.int (1 : Int32)), .val (.int b_19), .unset, .unset] [(.long ((ss.getD 8 (0 : Int64)) - (ss.getD x15.toNatClampNeg (0 : Int64)))), (.int b_19)])) _
        refine XS.lload X19.here hx rfl (hb hby at_422) rfl ?_
        show Steps p.tables e below (T19.setTop (mkF m 424 #[.val (.long p1), .second, .val (.long p2), .second, .val (.long p3), .second, .val (.long p4), .second, .val (.long x8), .second, .val (.long x10), .second, .val (.ref b3), .val (.long x13), .second, .val (.int x15), .val (.int x16), .val (.long x17), .second, .val (.ref b44), .val (.int (1 : Int32)), .val (.int b_19), .unset, .unset] [(.long x8), (.long ((ss.getD 8 (0 : Int64)) - (ss.getD x15.toNatClampNeg (0 : Int64)))), (.int b_19)])) _
        refine XS.lcmp X19.here hx rfl (hb hby at_424) rfl ?_
        exact kt
      by_cases hc25 : x8 < ((ss.getD 8 (0 : Int64)) - (ss.getD x15.toNatClampNeg (0 : Int64)))
      · have _ := hc25
        refine Go.step (T' := T19) (f' := (mkF m 432 #[.val (.long p1), .second, .val (.long p2), .second, .val (.long p3), .second, .val (.long p4), .second, .val (.long x8), .second, .val (.long x10), .second, .val (.ref b3), .val (.long x13), .second, .val (.int x15), .val (.int x16), .val (.long x17), .second, .val (.ref b44), .val (.int (1 : Int32)), .val (.int b_19), .unset, .unset] [(.int b_19)])) (fun t kt => ?_) ?_
        · show Steps p.tables e below (T19.setTop (mkF m 425 #[.val (.long p1), .second, .val (.long p2), .second, .val (.long p3), .second, .val (.long p4), .second, .val (.long x8), .second, .val (.long x10), .second, .val (.ref b3), .val (.long x13), .second, .val (.int x15), .val (.int x16), .val (.long x17), .second, .val (.ref b44), .val (.int (1 : Int32)), .val (.int b_19), .unset, .unset] [(.int (lcmpW ((ss.getD 8 (0 : Int64)) - (ss.getD x15.toNatClampNeg (0 : Int64))) x8)), (.int b_19)])) _
          refine XS.ifYes X19.here hx rfl (pc0 := 425) (pc' := 432) rfl (hb hby at_425) rfl ((if0 _ _).trans (tlt ((lw_gt _ _).mpr hc25)).2.2.1) (by decide) (by decide) ?_
          exact kt
        refine Go.step (T' := T19) (f' := (mkF m 433 #[.val (.long p1), .second, .val (.long p2), .second, .val (.long p3), .second, .val (.long p4), .second, .val (.long x8), .second, .val (.long x10), .second, .val (.ref b3), .val (.long x13), .second, .val (.int x15), .val (.int x16), .val (.long x17), .second, .val (.ref b44), .val (.int (1 : Int32)), .val (.int b_19), .unset, .unset] [(.int (0 : Int32)), (.int b_19)])) (fun t kt => ?_) ?_
        · show Steps p.tables e below (T19.setTop (mkF m 432 #[.val (.long p1), .second, .val (.long p2), .second, .val (.long p3), .second, .val (.long p4), .second, .val (.long x8), .second, .val (.long x10), .second, .val (.ref b3), .val (.long x13), .second, .val (.int x15), .val (.int x16), .val (.long x17), .second, .val (.ref b44), .val (.int (1 : Int32)), .val (.int b_19), .unset, .unset] [(.int b_19)])) _
          refine XS.iconst X19.here hx rfl (hb hby at_432) ?_
          exact kt
        have hd26 : b_19 = (0 : Int32) := hb1.trans (if_pos (by assumption))
        refine Go.step (T' := T19) (f' := (mkF m 443 #[.val (.long p1), .second, .val (.long p2), .second, .val (.long p3), .second, .val (.long p4), .second, .val (.long x8), .second, .val (.long x10), .second, .val (.ref b3), .val (.long x13), .second, .val (.int x15), .val (.int x16), .val (.long x17), .second, .val (.ref b44), .val (.int (1 : Int32)), .val (.int b_19), .unset, .unset] [])) (fun t kt => ?_) ?_
        · show Steps p.tables e below (T19.setTop (mkF m 433 #[.val (.long p1), .second, .val (.long p2), .second, .val (.long p3), .second, .val (.long p4), .second, .val (.long x8), .second, .val (.long x10), .second, .val (.ref b3), .val (.long x13), .second, .val (.int x15), .val (.int x16), .val (.long x17), .second, .val (.ref b44), .val (.int (1 : Int32)), .val (.int b_19), .unset, .unset] [(.int (0 : Int32)), (.int b_19)])) _
          refine XS.icmpNo X19.here hx rfl (hb hby at_433) rfl (teq hd26).2 ?_
          show Steps p.tables e below (T19.setTop (mkF m 436 #[.val (.long p1), .second, .val (.long p2), .second, .val (.long p3), .second, .val (.long p4), .second, .val (.long x8), .second, .val (.long x10), .second, .val (.ref b3), .val (.long x13), .second, .val (.int x15), .val (.int x16), .val (.long x17), .second, .val (.ref b44), .val (.int (1 : Int32)), .val (.int b_19), .unset, .unset] [])) _
          refine XS.iconst X19.here hx rfl (hb hby at_436) ?_
          show Steps p.tables e below (T19.setTop (mkF m 437 #[.val (.long p1), .second, .val (.long p2), .second, .val (.long p3), .second, .val (.long p4), .second, .val (.long x8), .second, .val (.long x10), .second, .val (.ref b3), .val (.long x13), .second, .val (.int x15), .val (.int x16), .val (.long x17), .second, .val (.ref b44), .val (.int (1 : Int32)), .val (.int b_19), .unset, .unset] [(.int (1 : Int32))])) _
          refine XS.goto X19.here hx rfl (pc0 := 437) (pc' := 441) rfl (hb hby at_437) (by decide) (by decide) ?_
          show Steps p.tables e below (T19.setTop (mkF m 441 #[.val (.long p1), .second, .val (.long p2), .second, .val (.long p3), .second, .val (.long p4), .second, .val (.long x8), .second, .val (.long x10), .second, .val (.ref b3), .val (.long x13), .second, .val (.int x15), .val (.int x16), .val (.long x17), .second, .val (.ref b44), .val (.int (1 : Int32)), .val (.int b_19), .unset, .unset] [(.int (1 : Int32))])) _
          refine XS.istore X19.here hx rfl (hb hby at_441) rfl (l' := #[.val (.long p1), .second, .val (.long p2), .second, .val (.long p3), .second, .val (.long p4), .second, .val (.long x8), .second, .val (.long x10), .second, .val (.ref b3), .val (.long x13), .second, .val (.int x15), .val (.int x16), .val (.long x17), .second, .val (.ref b44), .val (.int (1 : Int32)), .val (.int b_19), .unset, .unset]) rfl ?_
          exact kt
        exact S443 _ _ _ _ X19 (Nat.le_trans (Nat.add_le_add_right hcl 0) (by decide)) (Nat.le_trans (Nat.add_le_add_right hsl 0) (by decide)) T19.heap rfl N19 x8 x10 x13 x15 x16 x17 (.val (.int b_19)) (One.val rfl) b3 b44 s2_87 a2_87 ss c1_19 o1_19 sl al1_19 NN _ K19 G20 G21 pf19_1 pf19_2 pf19_0 pf19_4 pf19_3 G22 pf19_5 g_b3 g_b44 g_s2_87 g_a2_87 sz_b3 sz_b44 sz_s2_87 sz_a2_87 ne_b3_b44 ne_b3_s2_87 ne_b44_s2_87 ne_b3_a2_87 ne_b44_a2_87 ne_s2_87_a2_87 hR.1 hS h13 h15 (Or.inr ⟨by assumption, rfl⟩)
      · have _ := hc25
        refine Go.step (T' := T19) (f' := (mkF m 428 #[.val (.long p1), .second, .val (.long p2), .second, .val (.long p3), .second, .val (.long p4), .second, .val (.long x8), .second, .val (.long x10), .second, .val (.ref b3), .val (.long x13), .second, .val (.int x15), .val (.int x16), .val (.long x17), .second, .val (.ref b44), .val (.int (1 : Int32)), .val (.int b_19), .unset, .unset] [(.int b_19)])) (fun t kt => ?_) ?_
        · show Steps p.tables e below (T19.setTop (mkF m 425 #[.val (.long p1), .second, .val (.long p2), .second, .val (.long p3), .second, .val (.long p4), .second, .val (.long x8), .second, .val (.long x10), .second, .val (.ref b3), .val (.long x13), .second, .val (.int x15), .val (.int x16), .val (.long x17), .second, .val (.ref b44), .val (.int (1 : Int32)), .val (.int b_19), .unset, .unset] [(.int (lcmpW ((ss.getD 8 (0 : Int64)) - (ss.getD x15.toNatClampNeg (0 : Int64))) x8)), (.int b_19)])) _
          refine XS.ifNo X19.here hx rfl (hb hby at_425) rfl ((if0 _ _).trans (flt (fun q => hc25 ((lw_gt _ _).mp q))).2.2.1) ?_
          exact kt
        refine Go.step (T' := T19) (f' := (mkF m 433 #[.val (.long p1), .second, .val (.long p2), .second, .val (.long p3), .second, .val (.long p4), .second, .val (.long x8), .second, .val (.long x10), .second, .val (.ref b3), .val (.long x13), .second, .val (.int x15), .val (.int x16), .val (.long x17), .second, .val (.ref b44), .val (.int (1 : Int32)), .val (.int b_19), .unset, .unset] [(.int (1 : Int32)), (.int b_19)])) (fun t kt => ?_) ?_
        · show Steps p.tables e below (T19.setTop (mkF m 428 #[.val (.long p1), .second, .val (.long p2), .second, .val (.long p3), .second, .val (.long p4), .second, .val (.long x8), .second, .val (.long x10), .second, .val (.ref b3), .val (.long x13), .second, .val (.int x15), .val (.int x16), .val (.long x17), .second, .val (.ref b44), .val (.int (1 : Int32)), .val (.int b_19), .unset, .unset] [(.int b_19)])) _
          refine XS.iconst X19.here hx rfl (hb hby at_428) ?_
          show Steps p.tables e below (T19.setTop (mkF m 429 #[.val (.long p1), .second, .val (.long p2), .second, .val (.long p3), .second, .val (.long p4), .second, .val (.long x8), .second, .val (.long x10), .second, .val (.ref b3), .val (.long x13), .second, .val (.int x15), .val (.int x16), .val (.long x17), .second, .val (.ref b44), .val (.int (1 : Int32)), .val (.int b_19), .unset, .unset] [(.int (1 : Int32)), (.int b_19)])) _
          refine XS.goto X19.here hx rfl (pc0 := 429) (pc' := 433) rfl (hb hby at_429) (by decide) (by decide) ?_
          exact kt
        have hd27 : b_19 = (1 : Int32) := hb1.trans (if_neg (by assumption))
        refine Go.step (T' := T19) (f' := (mkF m 443 #[.val (.long p1), .second, .val (.long p2), .second, .val (.long p3), .second, .val (.long p4), .second, .val (.long x8), .second, .val (.long x10), .second, .val (.ref b3), .val (.long x13), .second, .val (.int x15), .val (.int x16), .val (.long x17), .second, .val (.ref b44), .val (.int (1 : Int32)), .val (.int b_19), .unset, .unset] [])) (fun t kt => ?_) ?_
        · show Steps p.tables e below (T19.setTop (mkF m 433 #[.val (.long p1), .second, .val (.long p2), .second, .val (.long p3), .second, .val (.long p4), .second, .val (.long x8), .second, .val (.long x10), .second, .val (.ref b3), .val (.long x13), .second, .val (.int x15), .val (.int x16), .val (.long x17), .second, .val (.ref b44), .val (.int (1 : Int32)), .val (.int b_19), .unset, .unset] [(.int (1 : Int32)), (.int b_19)])) _
          refine XS.icmpNo X19.here hx rfl (hb hby at_433) rfl (teq hd27).2 ?_
          show Steps p.tables e below (T19.setTop (mkF m 436 #[.val (.long p1), .second, .val (.long p2), .second, .val (.long p3), .second, .val (.long p4), .second, .val (.long x8), .second, .val (.long x10), .second, .val (.ref b3), .val (.long x13), .second, .val (.int x15), .val (.int x16), .val (.long x17), .second, .val (.ref b44), .val (.int (1 : Int32)), .val (.int b_19), .unset, .unset] [])) _
          refine XS.iconst X19.here hx rfl (hb hby at_436) ?_
          show Steps p.tables e below (T19.setTop (mkF m 437 #[.val (.long p1), .second, .val (.long p2), .second, .val (.long p3), .second, .val (.long p4), .second, .val (.long x8), .second, .val (.long x10), .second, .val (.ref b3), .val (.long x13), .second, .val (.int x15), .val (.int x16), .val (.long x17), .second, .val (.ref b44), .val (.int (1 : Int32)), .val (.int b_19), .unset, .unset] [(.int (1 : Int32))])) _
          refine XS.goto X19.here hx rfl (pc0 := 437) (pc' := 441) rfl (hb hby at_437) (by decide) (by decide) ?_
          show Steps p.tables e below (T19.setTop (mkF m 441 #[.val (.long p1), .second, .val (.long p2), .second, .val (.long p3), .second, .val (.long p4), .second, .val (.long x8), .second, .val (.long x10), .second, .val (.ref b3), .val (.long x13), .second, .val (.int x15), .val (.int x16), .val (.long x17), .second, .val (.ref b44), .val (.int (1 : Int32)), .val (.int b_19), .unset, .unset] [(.int (1 : Int32))])) _
          refine XS.istore X19.here hx rfl (hb hby at_441) rfl (l' := #[.val (.long p1), .second, .val (.long p2), .second, .val (.long p3), .second, .val (.long p4), .second, .val (.long x8), .second, .val (.long x10), .second, .val (.ref b3), .val (.long x13), .second, .val (.int x15), .val (.int x16), .val (.long x17), .second, .val (.ref b44), .val (.int (1 : Int32)), .val (.int b_19), .unset, .unset]) rfl ?_
          exact kt
        exact S443 _ _ _ _ X19 (Nat.le_trans (Nat.add_le_add_right hcl 0) (by decide)) (Nat.le_trans (Nat.add_le_add_right hsl 0) (by decide)) T19.heap rfl N19 x8 x10 x13 x15 x16 x17 (.val (.int b_19)) (One.val rfl) b3 b44 s2_87 a2_87 ss c1_19 o1_19 sl al1_19 NN _ K19 G20 G21 pf19_1 pf19_2 pf19_0 pf19_4 pf19_3 G22 pf19_5 g_b3 g_b44 g_s2_87 g_a2_87 sz_b3 sz_b44 sz_s2_87 sz_a2_87 ne_b3_b44 ne_b3_s2_87 ne_b44_s2_87 ne_b3_a2_87 ne_b44_a2_87 ne_s2_87_a2_87 hR.1 hS h13 h15 (Or.inr ⟨by assumption, rfl⟩)
    · have _ := hc16
      refine Go.step (T' := T) (f' := (mkF m 443 #[.val (.long p1), .second, .val (.long p2), .second, .val (.long p3), .second, .val (.long p4), .second, .val (.long x8), .second, .val (.long x10), .second, .val (.ref b3), .val (.long x13), .second, .val (.int x15), .val (.int x16), .val (.long x17), .second, .val (.ref b44), .val (.int (1 : Int32)), .unset, .unset, .unset] [])) (fun t kt => ?_) ?_
      · show Steps p.tables e below (T.setTop (mkF m 389 #[.val (.long p1), .second, .val (.long p2), .second, .val (.long p3), .second, .val (.long p4), .second, .val (.long x8), .second, .val (.long x10), .second, .val (.ref b3), .val (.long x13), .second, .val (.int x15), .val (.int x16), .val (.long x17), .second, .val (.ref b44), .val (.int (1 : Int32)), .unset, .unset, .unset] [(.int (9 : Int32)), (.int x15)])) _
        refine XS.icmpYes X.here hx rfl (pc0 := 389) (pc' := 443) rfl (hb hby at_389) rfl (flt hc16).2.1 (by decide) (by decide) ?_
        exact kt
      exact S443 _ _ _ _ X (Nat.le_trans hcl (by decide)) (Nat.le_trans hsl (by decide)) h eT N x8 x10 x13 x15 x16 x17 (.unset) (One.u) b3 b44 s2_87 a2_87 ss c1 o1 sl al NN (own_Qn x8 ss 8) K fc0 fc1 fc2 fc3 fc4 fc5 fc6 fc7 fc8 g_b3 g_b44 g_s2_87 g_a2_87 sz_b3 sz_b44 sz_s2_87 sz_a2_87 ne_b3_b44 ne_b3_s2_87 ne_b44_s2_87 ne_b3_a2_87 ne_b44_a2_87 ne_s2_87_a2_87 hA hS h13 h15 (Or.inl ⟨by assumption, rfl⟩)
  have S285 : ∀ (T : State) (locs : List Loc) (cells slots : Nat) (X : Stand p l e room_1 s m #[(.long p1), (.long p2), (.long p3), (.long p4)] below meth c T locs cells slots) (hcl : cells ≤ 1) (hsl : slots ≤ 9) (h : Heap) (eT : T.heap = h) (N : Fr n0 locs) (x8 : Int64) (x10 : Int64) (x13 : Int64) (x15 : Int32) (x16 : Int32) (t0 : Int64)  (b3 : Addr) (ss : List Int64) (K : Keep h0 h []) (fc0 : VA Z h b3 .long (ss.map Value.long)) (g_b3 : n0 ≤ b3) (sz_b3 : h0.size ≤ b3) (hS : own_SS 8 ss) (h13 : 0 ≤ x13.toInt - (ss.getD 8 0).toInt ∧ x13.toInt - (ss.getD 8 0).toInt ≤ 6000) (h15 : 0 ≤ x15.toInt ∧ x15.toInt ≤ 15), Go p e below s (Q0 Z p1 p2 p3 p4 h0 n0) 24 192 T (mkF m 285 #[.val (.long p1), .second, .val (.long p2), .second, .val (.long p3), .second, .val (.long p4), .second, .val (.long x8), .second, .val (.long x10), .second, .val (.ref b3), .val (.long x13), .second, .val (.int x15), .val (.int x16), .unset, .unset, .unset, .unset, .unset, .unset, .unset] [(.long t0)]) := by
    intro T locs cells slots X hcl hsl h eT N x8 x10 x13 x15 x16 t0 b3 ss K fc0 g_b3 sz_b3 hS h13 h15
    have Zh : n0 ≤ h.size := Nat.le_trans Z0 K.1
    obtain ⟨T28, h28, X28, e28, E28, A28, D28, -, st28⟩ := newO X hx hZ hown (hw _ (List.mem_of_getElem? (i := 9) rfl)) (hw _ (List.mem_of_getElem? (i := 10) rfl)) (hw _ (List.mem_of_getElem? (i := 11) rfl)) eT (g := (mkF m 287 #[.val (.long p1), .second, .val (.long p2), .second, .val (.long p3), .second, .val (.long p4), .second, .val (.long x8), .second, .val (.long x10), .second, .val (.ref b3), .val (.long x13), .second, .val (.int x15), .val (.int x16), .val (.long t0), .second, .unset, .unset, .unset, .unset, .unset] [])) rfl (hb hby at_287) (Nat.le_trans (Nat.add_le_add_right hcl 1) (by decide)) (Nat.le_trans (Nat.add_le_add_right hsl 5) (by decide))
    obtain ⟨b28, g28⟩ : ∃ z, z = h.size := ⟨_, rfl⟩
    rw [← g28] at A28 D28 st28
    have ne_b3_b28 : b3 ≠ b28 := Nat.ne_of_lt (Nat.lt_of_lt_of_le fc0.lt (Nat.le_of_eq g28.symm))
    have G29 : VA Z h28 b3 .long (ss.map Value.long) := fc0.ext E28
    have g_b28 : n0 ≤ b28 := Nat.le_trans Zh (Nat.le_of_eq g28.symm)
    have sz_b28 : h0.size ≤ b28 := Nat.le_trans K.1 (Nat.le_of_eq g28.symm)
    have K28 : Keep h0 h28 [] := Keep.ext K E28
    have Z28 : n0 ≤ h28.size := Nat.le_trans Z0 K28.1
    have G30 : Fld Z h28 b28 "com/example/talthybius/talthybius/AwaitedPings" "sentAt" "[J" .null := D28 (Or.inl (hw _ (List.mem_of_getElem? (i := 19) rfl))) (ty := (.array .long)) (by decide)
    have G31 : Fld Z h28 b28 "com/example/talthybius/talthybius/AwaitedPings" "answered" "[Z" .null := D28 (Or.inl (hw _ (List.mem_of_getElem? (i := 22) rfl))) (ty := (.array .boolean)) (by decide)
    have G32 : Fld Z h28 b28 "com/example/talthybius/talthybius/AwaitedPings" "timeoutNanos" "J" (.long (0 : Int64)) := D28 (Or.inr (hw _ (List.mem_of_getElem? (i := 24) rfl))) (ty := .long) (by decide)
    have G33 : Fld Z h28 b28 "com/example/talthybius/talthybius/AwaitedPings" "count" "I" (.int (0 : Int32)) := D28 (Or.inl (hw _ (List.mem_of_getElem? (i := 35) rfl))) (ty := .int) (by decide)
    have G34 : Fld Z h28 b28 "com/example/talthybius/talthybius/AwaitedPings" "oldest" "I" (.int (0 : Int32)) := D28 (Or.inl (hw _ (List.mem_of_getElem? (i := 41) rfl))) (ty := .int) (by decide)
    obtain ⟨_, _, ⟨T35, L35, k35, n35⟩, -, X35, ⟨Lc35, hQ35, l35, y35, z35⟩, st35⟩ := X28.specialBack hx (y := (⟨"com/example/talthybius/talthybius/AwaitedPings", "<init>", "(J)V"⟩ : MethodName)) rfl hown (mvT hZ (hw _ (List.mem_of_getElem? (i := 12) rfl))) (mvT hZ (hw _ (List.mem_of_getElem? (i := 13) rfl))) (mvT hZ (hw _ (List.mem_of_getElem? (i := 14) rfl))) (by decide) (backOf (W := 1) (rm_iniA l Z a0 hw [] b28 x8 (0 : Int64) (0 : Int32) (0 : Int32) h28 n0 Z28 A28 G32 G30 G31 G34 G33 g_b28 ) hZ (hw _ (List.mem_of_getElem? (i := 14) rfl)) (hw _ (List.mem_of_getElem? (i := 11) rfl)) (by decide) (by decide)) (g := (mkF m 293 #[.val (.long p1), .second, .val (.long p2), .second, .val (.long p3), .second, .val (.long p4), .second, .val (.long x8), .second, .val (.long x10), .second, .val (.ref b3), .val (.long x13), .second, .val (.int x15), .val (.int x16), .val (.long t0), .second, .unset, .unset, .unset, .unset, .unset] [(.long x8), (.ref b28), (.ref b28)])) rfl (by rw [hml]; rfl) (Steps.refl _) (a := b28) (argsL := [(.long x8)]) (rest := [(.ref b28)]) (lenOf pd_1 rfl) rfl (by show 2 * 0 + _ ≤ _; exact Nat.le_of_eq rfl) (hb hby at_293) (fun _ _ => ⟨rfl, e28, (Nat.le_trans (Nat.add_le_add_right (Nat.add_le_add_right hcl 1) 2) (by decide)), (Nat.le_trans (Nat.add_le_add_right (Nat.add_le_add_right hsl 5) 16) (by decide))⟩)
    dsimp only [Pt.U, Pt.locs, Pt.cells, Pt.slots] at X35 l35 y35 z35 st35 hQ35
    subst l35 y35 z35
    obtain ⟨aS_35, aA_35, rfl, N35q, Kq35, fz_aS_35, fz_aA_35, ne_aS_35_aA_35, pf35_0, pf35_1, pf35_2, pf35_3, pf35_4, pf35_5, pf35_6⟩ := hQ35
    have oldlt_35_b3 : b3 < h28.size := G29.lt
    have oldlt_35_b28 : b28 < h28.size := A28.lt
    have G36 : VA Z T35.heap b3 .long (ss.map Value.long) := G29.keep Kq35 (ninS ne_b3_b28 nin0)
    have G37 : Exa Z T35.heap b28 "com/example/talthybius/talthybius/AwaitedPings" := Exa.keep A28 Kq35
    have ne_b3_aS_35 : b3 ≠ aS_35 := Nat.ne_of_lt (Nat.lt_of_lt_of_le oldlt_35_b3 fz_aS_35)
    have ne_b28_aS_35 : b28 ≠ aS_35 := Nat.ne_of_lt (Nat.lt_of_lt_of_le oldlt_35_b28 fz_aS_35)
    have g_aS_35 : n0 ≤ aS_35 := Nat.le_trans Z28 fz_aS_35
    have sz_aS_35 : h0.size ≤ aS_35 := Nat.le_trans K28.1 fz_aS_35
    have ne_b3_aA_35 : b3 ≠ aA_35 := Nat.ne_of_lt (Nat.lt_of_lt_of_le oldlt_35_b3 fz_aA_35)
    have ne_b28_aA_35 : b28 ≠ aA_35 := Nat.ne_of_lt (Nat.lt_of_lt_of_le oldlt_35_b28 fz_aA_35)
    have g_aA_35 : n0 ≤ aA_35 := Nat.le_trans Z28 fz_aA_35
    have sz_aA_35 : h0.size ≤ aA_35 := Nat.le_trans K28.1 fz_aA_35
    have K35 : Keep h0 T35.heap [] := Keep.trans K28 Kq35 (allS (Or.inr sz_b28) all0)
    have Z35 : n0 ≤ T35.heap.size := Nat.le_trans Z0 K35.1
    have N35 := Fr.app N N35q
    have ix38 : 0 ≤ ((0 : Int32)).toInt ∧ ((0 : Int32)).toInt < ((ss).length : Int) := own_ixl hS (by decide)
    obtain ⟨cq39, kq39, q39a, q39b, q39c⟩ := isOf hZ rfl (G37 : Exa Z T35.heap b28 "com/example/talthybius/talthybius/AwaitedPings")
    obtain ⟨_, _, ⟨T39, L39, k39, n39⟩, -, X39, ⟨Lc39, hQ39, l39, y39, z39⟩, st39⟩ := X35.virtualBack hx (y := (⟨"com/example/talthybius/talthybius/AwaitedPings", "sent", "(J)V"⟩ : MethodName)) (z := (⟨"com/example/talthybius/talthybius/AwaitedPings", "sent", "(J)V"⟩ : MethodName)) hown (mvT hZ (hw _ (List.mem_of_getElem? (i := 25) rfl))) (mvT hZ (hw _ (List.mem_of_getElem? (i := 26) rfl))) (notFace_of_selects (args := #[]) (mvT hZ (hw _ (List.mem_of_getElem? (i := 28) rfl)))) (mvT hZ (hw _ (List.mem_of_getElem? (i := 28) rfl))) (mvT hZ (hw _ (List.mem_of_getElem? (i := 27) rfl))) (by decide) (backOf (W := 0) (rm_senN l Z a0 hw [] b28 (ss.getD 0 (0 : Int64)) aS_35 aA_35 x8 (0 : Int32) (0 : Int32) [(0 : Int64), (0 : Int64), (0 : Int64), (0 : Int64), (0 : Int64), (0 : Int64), (0 : Int64), (0 : Int64)] [(0 : Int32), (0 : Int32), (0 : Int32), (0 : Int32), (0 : Int32), (0 : Int32), (0 : Int32), (0 : Int32)] 8 ([] : List (Int64 × Int32)) T35.heap n0 Z35 G37 pf35_0 pf35_1 pf35_2 pf35_3 pf35_4 pf35_5 pf35_6 g_b28 g_aS_35 g_aA_35 ne_b28_aS_35 ne_b28_aA_35 ne_aS_35_aA_35 own_ap0 (own_hlt (n := 0) (Nat.le_refl 0) (by decide))) hZ (hw _ (List.mem_of_getElem? (i := 29) rfl)) (hw _ (List.mem_of_getElem? (i := 11) rfl)) (by decide) (by decide)) q39a q39c (g := (mkF m 304 #[.val (.long p1), .second, .val (.long p2), .second, .val (.long p3), .second, .val (.long p4), .second, .val (.long x8), .second, .val (.long x10), .second, .val (.ref b3), .val (.long x13), .second, .val (.int x15), .val (.int x16), .val (.long t0), .second, .val (.ref b28), .unset, .unset, .unset, .unset] [(.long (ss.getD 0 (0 : Int64))), (.ref b28)])) rfl (by rw [hml]; rfl) (Steps.refl _) (argsL := [(.long (ss.getD 0 (0 : Int64)))]) (rest := []) (lenOf pd_1 rfl) rfl (by show 2 * 0 + _ ≤ _; exact Nat.le_of_eq rfl) (hb hby at_304) (fun _ _ => ⟨rfl, rfl, (Nat.le_trans (Nat.add_le_add_right (Nat.add_le_add_right (Nat.add_le_add_right hcl 1) 2) 0) (by decide)), (Nat.le_trans (Nat.add_le_add_right (Nat.add_le_add_right (Nat.add_le_add_right hsl 5) 16) 0) (by decide))⟩)
    dsimp only [Pt.U, Pt.locs, Pt.cells, Pt.slots] at X39 l39 y39 z39 st39 hQ39
    subst l39 y39 z39
    obtain ⟨o1_39, c1_39, sl1_39, al1_39, rfl, N39q, Kq39, pf39_0, pf39_1, pf39_2, pf39_3, pf39_4, pf39_5, pf39_6, ph39_0⟩ := hQ39
    have G40 : VA Z T39.heap b3 .long (ss.map Value.long) := G36.keep Kq39 (ninS ne_b3_b28 (ninS ne_b3_aS_35 (ninS ne_b3_aA_35 nin0)))
    have G41 : Exa Z T39.heap b28 "com/example/talthybius/talthybius/AwaitedPings" := Exa.keep G37 Kq39
    have K39 : Keep h0 T39.heap [] := Keep.trans K35 Kq39 (allS (Or.inr sz_b28) (allS (Or.inr sz_aS_35) (allS (Or.inr sz_aA_35) all0)))
    have Z39 : n0 ≤ T39.heap.size := Nat.le_trans Z0 K39.1
    have N39 := Fr.app N35 N39q
    have hA0 : own_AP 8 sl1_39 al1_39 o1_39 c1_39 (own_Qn x8 ss 0) := ph39_0
    have hl0 : (own_Qn x8 ss 0).length ≤ 1 := own_lP (Nat.le_refl 0)
    have ix42 : 0 ≤ ((1 : Int32)).toInt ∧ ((1 : Int32)).toInt < ((ss).length : Int) := own_ixl hS (by decide)
    obtain ⟨cq43, kq43, q43a, q43b, q43c⟩ := isOf hZ rfl (G41 : Exa Z T39.heap b28 "com/example/talthybius/talthybius/AwaitedPings")
    obtain ⟨_, _, ⟨T43, L43, k43, n43⟩, -, X43, ⟨Lc43, hQ43, l43, y43, z43⟩, st43⟩ := X39.virtualBack hx (y := (⟨"com/example/talthybius/talthybius/AwaitedPings", "sent", "(J)V"⟩ : MethodName)) (z := (⟨"com/example/talthybius/talthybius/AwaitedPings", "sent", "(J)V"⟩ : MethodName)) hown (mvT hZ (hw _ (List.mem_of_getElem? (i := 25) rfl))) (mvT hZ (hw _ (List.mem_of_getElem? (i := 26) rfl))) (notFace_of_selects (args := #[]) (mvT hZ (hw _ (List.mem_of_getElem? (i := 28) rfl)))) (mvT hZ (hw _ (List.mem_of_getElem? (i := 28) rfl))) (mvT hZ (hw _ (List.mem_of_getElem? (i := 27) rfl))) (by decide) (backOf (W := 0) (rm_senN l Z a0 hw [] b28 (ss.getD 1 (0 : Int64)) aS_35 aA_35 x8 o1_39 c1_39 sl1_39 al1_39 8 (own_Qn x8 ss 0) T39.heap n0 Z39 G41 pf39_0 pf39_1 pf39_2 pf39_3 pf39_4 pf39_5 pf39_6 g_b28 g_aS_35 g_aA_35 ne_b28_aS_35 ne_b28_aA_35 ne_aS_35_aA_35 hA0 (own_hlt (n := 1) hl0 (by decide))) hZ (hw _ (List.mem_of_getElem? (i := 29) rfl)) (hw _ (List.mem_of_getElem? (i := 11) rfl)) (by decide) (by decide)) q43a q43c (g := (mkF m 313 #[.val (.long p1), .second, .val (.long p2), .second, .val (.long p3), .second, .val (.long p4), .second, .val (.long x8), .second, .val (.long x10), .second, .val (.ref b3), .val (.long x13), .second, .val (.int x15), .val (.int x16), .val (.long t0), .second, .val (.ref b28), .unset, .unset, .unset, .unset] [(.long (ss.getD 1 (0 : Int64))), (.ref b28)])) rfl (by rw [hml]; rfl) (Steps.refl _) (argsL := [(.long (ss.getD 1 (0 : Int64)))]) (rest := []) (lenOf pd_1 rfl) rfl (by show 2 * 0 + _ ≤ _; exact Nat.le_of_eq rfl) (hb hby at_313) (fun _ _ => ⟨rfl, rfl, (Nat.le_trans (Nat.add_le_add_right (Nat.add_le_add_right (Nat.add_le_add_right (Nat.add_le_add_right hcl 1) 2) 0) 0) (by decide)), (Nat.le_trans (Nat.add_le_add_right (Nat.add_le_add_right (Nat.add_le_add_right (Nat.add_le_add_right hsl 5) 16) 0) 0) (by decide))⟩)
    dsimp only [Pt.U, Pt.locs, Pt.cells, Pt.slots] at X43 l43 y43 z43 st43 hQ43
    subst l43 y43 z43
    obtain ⟨o1_43, c1_43, sl1_43, al1_43, rfl, N43q, Kq43, pf43_0, pf43_1, pf43_2, pf43_3, pf43_4, pf43_5, pf43_6, ph43_0⟩ := hQ43
    have G44 : VA Z T43.heap b3 .long (ss.map Value.long) := G40.keep Kq43 (ninS ne_b3_b28 (ninS ne_b3_aS_35 (ninS ne_b3_aA_35 nin0)))
    have G45 : Exa Z T43.heap b28 "com/example/talthybius/talthybius/AwaitedPings" := Exa.keep G41 Kq43
    have K43 : Keep h0 T43.heap [] := Keep.trans K39 Kq43 (allS (Or.inr sz_b28) (allS (Or.inr sz_aS_35) (allS (Or.inr sz_aA_35) all0)))
    have Z43 : n0 ≤ T43.heap.size := Nat.le_trans Z0 K43.1
    have N43 := Fr.app N39 N43q
    have hA1 : own_AP 8 sl1_43 al1_43 o1_43 c1_43 (own_Qn x8 ss 1) := ph43_0
    have hl1 : (own_Qn x8 ss 1).length ≤ 2 := own_lP hl0
    have ix46 : 0 ≤ ((2 : Int32)).toInt ∧ ((2 : Int32)).toInt < ((ss).length : Int) := own_ixl hS (by decide)
    obtain ⟨cq47, kq47, q47a, q47b, q47c⟩ := isOf hZ rfl (G45 : Exa Z T43.heap b28 "com/example/talthybius/talthybius/AwaitedPings")
    obtain ⟨_, _, ⟨T47, L47, k47, n47⟩, -, X47, ⟨Lc47, hQ47, l47, y47, z47⟩, st47⟩ := X43.virtualBack hx (y := (⟨"com/example/talthybius/talthybius/AwaitedPings", "sent", "(J)V"⟩ : MethodName)) (z := (⟨"com/example/talthybius/talthybius/AwaitedPings", "sent", "(J)V"⟩ : MethodName)) hown (mvT hZ (hw _ (List.mem_of_getElem? (i := 25) rfl))) (mvT hZ (hw _ (List.mem_of_getElem? (i := 26) rfl))) (notFace_of_selects (args := #[]) (mvT hZ (hw _ (List.mem_of_getElem? (i := 28) rfl)))) (mvT hZ (hw _ (List.mem_of_getElem? (i := 28) rfl))) (mvT hZ (hw _ (List.mem_of_getElem? (i := 27) rfl))) (by decide) (backOf (W := 0) (rm_senN l Z a0 hw [] b28 (ss.getD 2 (0 : Int64)) aS_35 aA_35 x8 o1_43 c1_43 sl1_43 al1_43 8 (own_Qn x8 ss 1) T43.heap n0 Z43 G45 pf43_0 pf43_1 pf43_2 pf43_3 pf43_4 pf43_5 pf43_6 g_b28 g_aS_35 g_aA_35 ne_b28_aS_35 ne_b28_aA_35 ne_aS_35_aA_35 hA1 (own_hlt (n := 2) hl1 (by decide))) hZ (hw _ (List.mem_of_getElem? (i := 29) rfl)) (hw _ (List.mem_of_getElem? (i := 11) rfl)) (by decide) (by decide)) q47a q47c (g := (mkF m 322 #[.val (.long p1), .second, .val (.long p2), .second, .val (.long p3), .second, .val (.long p4), .second, .val (.long x8), .second, .val (.long x10), .second, .val (.ref b3), .val (.long x13), .second, .val (.int x15), .val (.int x16), .val (.long t0), .second, .val (.ref b28), .unset, .unset, .unset, .unset] [(.long (ss.getD 2 (0 : Int64))), (.ref b28)])) rfl (by rw [hml]; rfl) (Steps.refl _) (argsL := [(.long (ss.getD 2 (0 : Int64)))]) (rest := []) (lenOf pd_1 rfl) rfl (by show 2 * 0 + _ ≤ _; exact Nat.le_of_eq rfl) (hb hby at_322) (fun _ _ => ⟨rfl, rfl, (Nat.le_trans (Nat.add_le_add_right (Nat.add_le_add_right (Nat.add_le_add_right (Nat.add_le_add_right (Nat.add_le_add_right hcl 1) 2) 0) 0) 0) (by decide)), (Nat.le_trans (Nat.add_le_add_right (Nat.add_le_add_right (Nat.add_le_add_right (Nat.add_le_add_right (Nat.add_le_add_right hsl 5) 16) 0) 0) 0) (by decide))⟩)
    dsimp only [Pt.U, Pt.locs, Pt.cells, Pt.slots] at X47 l47 y47 z47 st47 hQ47
    subst l47 y47 z47
    obtain ⟨o1_47, c1_47, sl1_47, al1_47, rfl, N47q, Kq47, pf47_0, pf47_1, pf47_2, pf47_3, pf47_4, pf47_5, pf47_6, ph47_0⟩ := hQ47
    have G48 : VA Z T47.heap b3 .long (ss.map Value.long) := G44.keep Kq47 (ninS ne_b3_b28 (ninS ne_b3_aS_35 (ninS ne_b3_aA_35 nin0)))
    have G49 : Exa Z T47.heap b28 "com/example/talthybius/talthybius/AwaitedPings" := Exa.keep G45 Kq47
    have K47 : Keep h0 T47.heap [] := Keep.trans K43 Kq47 (allS (Or.inr sz_b28) (allS (Or.inr sz_aS_35) (allS (Or.inr sz_aA_35) all0)))
    have Z47 : n0 ≤ T47.heap.size := Nat.le_trans Z0 K47.1
    have N47 := Fr.app N43 N47q
    have hA2 : own_AP 8 sl1_47 al1_47 o1_47 c1_47 (own_Qn x8 ss 2) := ph47_0
    have hl2 : (own_Qn x8 ss 2).length ≤ 3 := own_lP hl1
    have ix50 : 0 ≤ ((3 : Int32)).toInt ∧ ((3 : Int32)).toInt < ((ss).length : Int) := own_ixl hS (by decide)
    obtain ⟨cq51, kq51, q51a, q51b, q51c⟩ := isOf hZ rfl (G49 : Exa Z T47.heap b28 "com/example/talthybius/talthybius/AwaitedPings")
    obtain ⟨_, _, ⟨T51, L51, k51, n51⟩, -, X51, ⟨Lc51, hQ51, l51, y51, z51⟩, st51⟩ := X47.virtualBack hx (y := (⟨"com/example/talthybius/talthybius/AwaitedPings", "sent", "(J)V"⟩ : MethodName)) (z := (⟨"com/example/talthybius/talthybius/AwaitedPings", "sent", "(J)V"⟩ : MethodName)) hown (mvT hZ (hw _ (List.mem_of_getElem? (i := 25) rfl))) (mvT hZ (hw _ (List.mem_of_getElem? (i := 26) rfl))) (notFace_of_selects (args := #[]) (mvT hZ (hw _ (List.mem_of_getElem? (i := 28) rfl)))) (mvT hZ (hw _ (List.mem_of_getElem? (i := 28) rfl))) (mvT hZ (hw _ (List.mem_of_getElem? (i := 27) rfl))) (by decide) (backOf (W := 0) (rm_senN l Z a0 hw [] b28 (ss.getD 3 (0 : Int64)) aS_35 aA_35 x8 o1_47 c1_47 sl1_47 al1_47 8 (own_Qn x8 ss 2) T47.heap n0 Z47 G49 pf47_0 pf47_1 pf47_2 pf47_3 pf47_4 pf47_5 pf47_6 g_b28 g_aS_35 g_aA_35 ne_b28_aS_35 ne_b28_aA_35 ne_aS_35_aA_35 hA2 (own_hlt (n := 3) hl2 (by decide))) hZ (hw _ (List.mem_of_getElem? (i := 29) rfl)) (hw _ (List.mem_of_getElem? (i := 11) rfl)) (by decide) (by decide)) q51a q51c (g := (mkF m 331 #[.val (.long p1), .second, .val (.long p2), .second, .val (.long p3), .second, .val (.long p4), .second, .val (.long x8), .second, .val (.long x10), .second, .val (.ref b3), .val (.long x13), .second, .val (.int x15), .val (.int x16), .val (.long t0), .second, .val (.ref b28), .unset, .unset, .unset, .unset] [(.long (ss.getD 3 (0 : Int64))), (.ref b28)])) rfl (by rw [hml]; rfl) (Steps.refl _) (argsL := [(.long (ss.getD 3 (0 : Int64)))]) (rest := []) (lenOf pd_1 rfl) rfl (by show 2 * 0 + _ ≤ _; exact Nat.le_of_eq rfl) (hb hby at_331) (fun _ _ => ⟨rfl, rfl, (Nat.le_trans (Nat.add_le_add_right (Nat.add_le_add_right (Nat.add_le_add_right (Nat.add_le_add_right (Nat.add_le_add_right (Nat.add_le_add_right hcl 1) 2) 0) 0) 0) 0) (by decide)), (Nat.le_trans (Nat.add_le_add_right (Nat.add_le_add_right (Nat.add_le_add_right (Nat.add_le_add_right (Nat.add_le_add_right (Nat.add_le_add_right hsl 5) 16) 0) 0) 0) 0) (by decide))⟩)
    dsimp only [Pt.U, Pt.locs, Pt.cells, Pt.slots] at X51 l51 y51 z51 st51 hQ51
    subst l51 y51 z51
    obtain ⟨o1_51, c1_51, sl1_51, al1_51, rfl, N51q, Kq51, pf51_0, pf51_1, pf51_2, pf51_3, pf51_4, pf51_5, pf51_6, ph51_0⟩ := hQ51
    have G52 : VA Z T51.heap b3 .long (ss.map Value.long) := G48.keep Kq51 (ninS ne_b3_b28 (ninS ne_b3_aS_35 (ninS ne_b3_aA_35 nin0)))
    have G53 : Exa Z T51.heap b28 "com/example/talthybius/talthybius/AwaitedPings" := Exa.keep G49 Kq51
    have K51 : Keep h0 T51.heap [] := Keep.trans K47 Kq51 (allS (Or.inr sz_b28) (allS (Or.inr sz_aS_35) (allS (Or.inr sz_aA_35) all0)))
    have Z51 : n0 ≤ T51.heap.size := Nat.le_trans Z0 K51.1
    have N51 := Fr.app N47 N51q
    have hA3 : own_AP 8 sl1_51 al1_51 o1_51 c1_51 (own_Qn x8 ss 3) := ph51_0
    have hl3 : (own_Qn x8 ss 3).length ≤ 4 := own_lP hl2
    have ix54 : 0 ≤ ((4 : Int32)).toInt ∧ ((4 : Int32)).toInt < ((ss).length : Int) := own_ixl hS (by decide)
    obtain ⟨cq55, kq55, q55a, q55b, q55c⟩ := isOf hZ rfl (G53 : Exa Z T51.heap b28 "com/example/talthybius/talthybius/AwaitedPings")
    obtain ⟨_, _, ⟨T55, L55, k55, n55⟩, -, X55, ⟨Lc55, hQ55, l55, y55, z55⟩, st55⟩ := X51.virtualBack hx (y := (⟨"com/example/talthybius/talthybius/AwaitedPings", "sent", "(J)V"⟩ : MethodName)) (z := (⟨"com/example/talthybius/talthybius/AwaitedPings", "sent", "(J)V"⟩ : MethodName)) hown (mvT hZ (hw _ (List.mem_of_getElem? (i := 25) rfl))) (mvT hZ (hw _ (List.mem_of_getElem? (i := 26) rfl))) (notFace_of_selects (args := #[]) (mvT hZ (hw _ (List.mem_of_getElem? (i := 28) rfl)))) (mvT hZ (hw _ (List.mem_of_getElem? (i := 28) rfl))) (mvT hZ (hw _ (List.mem_of_getElem? (i := 27) rfl))) (by decide) (backOf (W := 0) (rm_senN l Z a0 hw [] b28 (ss.getD 4 (0 : Int64)) aS_35 aA_35 x8 o1_51 c1_51 sl1_51 al1_51 8 (own_Qn x8 ss 3) T51.heap n0 Z51 G53 pf51_0 pf51_1 pf51_2 pf51_3 pf51_4 pf51_5 pf51_6 g_b28 g_aS_35 g_aA_35 ne_b28_aS_35 ne_b28_aA_35 ne_aS_35_aA_35 hA3 (own_hlt (n := 4) hl3 (by decide))) hZ (hw _ (List.mem_of_getElem? (i := 29) rfl)) (hw _ (List.mem_of_getElem? (i := 11) rfl)) (by decide) (by decide)) q55a q55c (g := (mkF m 340 #[.val (.long p1), .second, .val (.long p2), .second, .val (.long p3), .second, .val (.long p4), .second, .val (.long x8), .second, .val (.long x10), .second, .val (.ref b3), .val (.long x13), .second, .val (.int x15), .val (.int x16), .val (.long t0), .second, .val (.ref b28), .unset, .unset, .unset, .unset] [(.long (ss.getD 4 (0 : Int64))), (.ref b28)])) rfl (by rw [hml]; rfl) (Steps.refl _) (argsL := [(.long (ss.getD 4 (0 : Int64)))]) (rest := []) (lenOf pd_1 rfl) rfl (by show 2 * 0 + _ ≤ _; exact Nat.le_of_eq rfl) (hb hby at_340) (fun _ _ => ⟨rfl, rfl, (Nat.le_trans (Nat.add_le_add_right (Nat.add_le_add_right (Nat.add_le_add_right (Nat.add_le_add_right (Nat.add_le_add_right (Nat.add_le_add_right (Nat.add_le_add_right hcl 1) 2) 0) 0) 0) 0) 0) (by decide)), (Nat.le_trans (Nat.add_le_add_right (Nat.add_le_add_right (Nat.add_le_add_right (Nat.add_le_add_right (Nat.add_le_add_right (Nat.add_le_add_right (Nat.add_le_add_right hsl 5) 16) 0) 0) 0) 0) 0) (by decide))⟩)
    dsimp only [Pt.U, Pt.locs, Pt.cells, Pt.slots] at X55 l55 y55 z55 st55 hQ55
    subst l55 y55 z55
    obtain ⟨o1_55, c1_55, sl1_55, al1_55, rfl, N55q, Kq55, pf55_0, pf55_1, pf55_2, pf55_3, pf55_4, pf55_5, pf55_6, ph55_0⟩ := hQ55
    have G56 : VA Z T55.heap b3 .long (ss.map Value.long) := G52.keep Kq55 (ninS ne_b3_b28 (ninS ne_b3_aS_35 (ninS ne_b3_aA_35 nin0)))
    have G57 : Exa Z T55.heap b28 "com/example/talthybius/talthybius/AwaitedPings" := Exa.keep G53 Kq55
    have K55 : Keep h0 T55.heap [] := Keep.trans K51 Kq55 (allS (Or.inr sz_b28) (allS (Or.inr sz_aS_35) (allS (Or.inr sz_aA_35) all0)))
    have Z55 : n0 ≤ T55.heap.size := Nat.le_trans Z0 K55.1
    have N55 := Fr.app N51 N55q
    have hA4 : own_AP 8 sl1_55 al1_55 o1_55 c1_55 (own_Qn x8 ss 4) := ph55_0
    have hl4 : (own_Qn x8 ss 4).length ≤ 5 := own_lP hl3
    have ix58 : 0 ≤ ((5 : Int32)).toInt ∧ ((5 : Int32)).toInt < ((ss).length : Int) := own_ixl hS (by decide)
    obtain ⟨cq59, kq59, q59a, q59b, q59c⟩ := isOf hZ rfl (G57 : Exa Z T55.heap b28 "com/example/talthybius/talthybius/AwaitedPings")
    obtain ⟨_, _, ⟨T59, L59, k59, n59⟩, -, X59, ⟨Lc59, hQ59, l59, y59, z59⟩, st59⟩ := X55.virtualBack hx (y := (⟨"com/example/talthybius/talthybius/AwaitedPings", "sent", "(J)V"⟩ : MethodName)) (z := (⟨"com/example/talthybius/talthybius/AwaitedPings", "sent", "(J)V"⟩ : MethodName)) hown (mvT hZ (hw _ (List.mem_of_getElem? (i := 25) rfl))) (mvT hZ (hw _ (List.mem_of_getElem? (i := 26) rfl))) (notFace_of_selects (args := #[]) (mvT hZ (hw _ (List.mem_of_getElem? (i := 28) rfl)))) (mvT hZ (hw _ (List.mem_of_getElem? (i := 28) rfl))) (mvT hZ (hw _ (List.mem_of_getElem? (i := 27) rfl))) (by decide) (backOf (W := 0) (rm_senN l Z a0 hw [] b28 (ss.getD 5 (0 : Int64)) aS_35 aA_35 x8 o1_55 c1_55 sl1_55 al1_55 8 (own_Qn x8 ss 4) T55.heap n0 Z55 G57 pf55_0 pf55_1 pf55_2 pf55_3 pf55_4 pf55_5 pf55_6 g_b28 g_aS_35 g_aA_35 ne_b28_aS_35 ne_b28_aA_35 ne_aS_35_aA_35 hA4 (own_hlt (n := 5) hl4 (by decide))) hZ (hw _ (List.mem_of_getElem? (i := 29) rfl)) (hw _ (List.mem_of_getElem? (i := 11) rfl)) (by decide) (by decide)) q59a q59c (g := (mkF m 349 #[.val (.long p1), .second, .val (.long p2), .second, .val (.long p3), .second, .val (.long p4), .second, .val (.long x8), .second, .val (.long x10), .second, .val (.ref b3), .val (.long x13), .second, .val (.int x15), .val (.int x16), .val (.long t0), .second, .val (.ref b28), .unset, .unset, .unset, .unset] [(.long (ss.getD 5 (0 : Int64))), (.ref b28)])) rfl (by rw [hml]; rfl) (Steps.refl _) (argsL := [(.long (ss.getD 5 (0 : Int64)))]) (rest := []) (lenOf pd_1 rfl) rfl (by show 2 * 0 + _ ≤ _; exact Nat.le_of_eq rfl) (hb hby at_349) (fun _ _ => ⟨rfl, rfl, (Nat.le_trans (Nat.add_le_add_right (Nat.add_le_add_right (Nat.add_le_add_right (Nat.add_le_add_right (Nat.add_le_add_right (Nat.add_le_add_right (Nat.add_le_add_right (Nat.add_le_add_right hcl 1) 2) 0) 0) 0) 0) 0) 0) (by decide)), (Nat.le_trans (Nat.add_le_add_right (Nat.add_le_add_right (Nat.add_le_add_right (Nat.add_le_add_right (Nat.add_le_add_right (Nat.add_le_add_right (Nat.add_le_add_right (Nat.add_le_add_right hsl 5) 16) 0) 0) 0) 0) 0) 0) (by decide))⟩)
    dsimp only [Pt.U, Pt.locs, Pt.cells, Pt.slots] at X59 l59 y59 z59 st59 hQ59
    subst l59 y59 z59
    obtain ⟨o1_59, c1_59, sl1_59, al1_59, rfl, N59q, Kq59, pf59_0, pf59_1, pf59_2, pf59_3, pf59_4, pf59_5, pf59_6, ph59_0⟩ := hQ59
    have G60 : VA Z T59.heap b3 .long (ss.map Value.long) := G56.keep Kq59 (ninS ne_b3_b28 (ninS ne_b3_aS_35 (ninS ne_b3_aA_35 nin0)))
    have G61 : Exa Z T59.heap b28 "com/example/talthybius/talthybius/AwaitedPings" := Exa.keep G57 Kq59
    have K59 : Keep h0 T59.heap [] := Keep.trans K55 Kq59 (allS (Or.inr sz_b28) (allS (Or.inr sz_aS_35) (allS (Or.inr sz_aA_35) all0)))
    have Z59 : n0 ≤ T59.heap.size := Nat.le_trans Z0 K59.1
    have N59 := Fr.app N55 N59q
    have hA5 : own_AP 8 sl1_59 al1_59 o1_59 c1_59 (own_Qn x8 ss 5) := ph59_0
    have hl5 : (own_Qn x8 ss 5).length ≤ 6 := own_lP hl4
    have ix62 : 0 ≤ ((6 : Int32)).toInt ∧ ((6 : Int32)).toInt < ((ss).length : Int) := own_ixl hS (by decide)
    obtain ⟨cq63, kq63, q63a, q63b, q63c⟩ := isOf hZ rfl (G61 : Exa Z T59.heap b28 "com/example/talthybius/talthybius/AwaitedPings")
    obtain ⟨_, _, ⟨T63, L63, k63, n63⟩, -, X63, ⟨Lc63, hQ63, l63, y63, z63⟩, st63⟩ := X59.virtualBack hx (y := (⟨"com/example/talthybius/talthybius/AwaitedPings", "sent", "(J)V"⟩ : MethodName)) (z := (⟨"com/example/talthybius/talthybius/AwaitedPings", "sent", "(J)V"⟩ : MethodName)) hown (mvT hZ (hw _ (List.mem_of_getElem? (i := 25) rfl))) (mvT hZ (hw _ (List.mem_of_getElem? (i := 26) rfl))) (notFace_of_selects (args := #[]) (mvT hZ (hw _ (List.mem_of_getElem? (i := 28) rfl)))) (mvT hZ (hw _ (List.mem_of_getElem? (i := 28) rfl))) (mvT hZ (hw _ (List.mem_of_getElem? (i := 27) rfl))) (by decide) (backOf (W := 0) (rm_senN l Z a0 hw [] b28 (ss.getD 6 (0 : Int64)) aS_35 aA_35 x8 o1_59 c1_59 sl1_59 al1_59 8 (own_Qn x8 ss 5) T59.heap n0 Z59 G61 pf59_0 pf59_1 pf59_2 pf59_3 pf59_4 pf59_5 pf59_6 g_b28 g_aS_35 g_aA_35 ne_b28_aS_35 ne_b28_aA_35 ne_aS_35_aA_35 hA5 (own_hlt (n := 6) hl5 (by decide))) hZ (hw _ (List.mem_of_getElem? (i := 29) rfl)) (hw _ (List.mem_of_getElem? (i := 11) rfl)) (by decide) (by decide)) q63a q63c (g := (mkF m 359 #[.val (.long p1), .second, .val (.long p2), .second, .val (.long p3), .second, .val (.long p4), .second, .val (.long x8), .second, .val (.long x10), .second, .val (.ref b3), .val (.long x13), .second, .val (.int x15), .val (.int x16), .val (.long t0), .second, .val (.ref b28), .unset, .unset, .unset, .unset] [(.long (ss.getD 6 (0 : Int64))), (.ref b28)])) rfl (by rw [hml]; rfl) (Steps.refl _) (argsL := [(.long (ss.getD 6 (0 : Int64)))]) (rest := []) (lenOf pd_1 rfl) rfl (by show 2 * 0 + _ ≤ _; exact Nat.le_of_eq rfl) (hb hby at_359) (fun _ _ => ⟨rfl, rfl, (Nat.le_trans (Nat.add_le_add_right (Nat.add_le_add_right (Nat.add_le_add_right (Nat.add_le_add_right (Nat.add_le_add_right (Nat.add_le_add_right (Nat.add_le_add_right (Nat.add_le_add_right (Nat.add_le_add_right hcl 1) 2) 0) 0) 0) 0) 0) 0) 0) (by decide)), (Nat.le_trans (Nat.add_le_add_right (Nat.add_le_add_right (Nat.add_le_add_right (Nat.add_le_add_right (Nat.add_le_add_right (Nat.add_le_add_right (Nat.add_le_add_right (Nat.add_le_add_right (Nat.add_le_add_right hsl 5) 16) 0) 0) 0) 0) 0) 0) 0) (by decide))⟩)
    dsimp only [Pt.U, Pt.locs, Pt.cells, Pt.slots] at X63 l63 y63 z63 st63 hQ63
    subst l63 y63 z63
    obtain ⟨o1_63, c1_63, sl1_63, al1_63, rfl, N63q, Kq63, pf63_0, pf63_1, pf63_2, pf63_3, pf63_4, pf63_5, pf63_6, ph63_0⟩ := hQ63
    have G64 : VA Z T63.heap b3 .long (ss.map Value.long) := G60.keep Kq63 (ninS ne_b3_b28 (ninS ne_b3_aS_35 (ninS ne_b3_aA_35 nin0)))
    have G65 : Exa Z T63.heap b28 "com/example/talthybius/talthybius/AwaitedPings" := Exa.keep G61 Kq63
    have K63 : Keep h0 T63.heap [] := Keep.trans K59 Kq63 (allS (Or.inr sz_b28) (allS (Or.inr sz_aS_35) (allS (Or.inr sz_aA_35) all0)))
    have Z63 : n0 ≤ T63.heap.size := Nat.le_trans Z0 K63.1
    have N63 := Fr.app N59 N63q
    have hA6 : own_AP 8 sl1_63 al1_63 o1_63 c1_63 (own_Qn x8 ss 6) := ph63_0
    have hl6 : (own_Qn x8 ss 6).length ≤ 7 := own_lP hl5
    have ix66 : 0 ≤ ((7 : Int32)).toInt ∧ ((7 : Int32)).toInt < ((ss).length : Int) := own_ixl hS (by decide)
    obtain ⟨cq67, kq67, q67a, q67b, q67c⟩ := isOf hZ rfl (G65 : Exa Z T63.heap b28 "com/example/talthybius/talthybius/AwaitedPings")
    obtain ⟨_, _, ⟨T67, L67, k67, n67⟩, -, X67, ⟨Lc67, hQ67, l67, y67, z67⟩, st67⟩ := X63.virtualBack hx (y := (⟨"com/example/talthybius/talthybius/AwaitedPings", "sent", "(J)V"⟩ : MethodName)) (z := (⟨"com/example/talthybius/talthybius/AwaitedPings", "sent", "(J)V"⟩ : MethodName)) hown (mvT hZ (hw _ (List.mem_of_getElem? (i := 25) rfl))) (mvT hZ (hw _ (List.mem_of_getElem? (i := 26) rfl))) (notFace_of_selects (args := #[]) (mvT hZ (hw _ (List.mem_of_getElem? (i := 28) rfl)))) (mvT hZ (hw _ (List.mem_of_getElem? (i := 28) rfl))) (mvT hZ (hw _ (List.mem_of_getElem? (i := 27) rfl))) (by decide) (backOf (W := 0) (rm_senN l Z a0 hw [] b28 (ss.getD 7 (0 : Int64)) aS_35 aA_35 x8 o1_63 c1_63 sl1_63 al1_63 8 (own_Qn x8 ss 6) T63.heap n0 Z63 G65 pf63_0 pf63_1 pf63_2 pf63_3 pf63_4 pf63_5 pf63_6 g_b28 g_aS_35 g_aA_35 ne_b28_aS_35 ne_b28_aA_35 ne_aS_35_aA_35 hA6 (own_hlt (n := 7) hl6 (by decide))) hZ (hw _ (List.mem_of_getElem? (i := 29) rfl)) (hw _ (List.mem_of_getElem? (i := 11) rfl)) (by decide) (by decide)) q67a q67c (g := (mkF m 369 #[.val (.long p1), .second, .val (.long p2), .second, .val (.long p3), .second, .val (.long p4), .second, .val (.long x8), .second, .val (.long x10), .second, .val (.ref b3), .val (.long x13), .second, .val (.int x15), .val (.int x16), .val (.long t0), .second, .val (.ref b28), .unset, .unset, .unset, .unset] [(.long (ss.getD 7 (0 : Int64))), (.ref b28)])) rfl (by rw [hml]; rfl) (Steps.refl _) (argsL := [(.long (ss.getD 7 (0 : Int64)))]) (rest := []) (lenOf pd_1 rfl) rfl (by show 2 * 0 + _ ≤ _; exact Nat.le_of_eq rfl) (hb hby at_369) (fun _ _ => ⟨rfl, rfl, (Nat.le_trans (Nat.add_le_add_right (Nat.add_le_add_right (Nat.add_le_add_right (Nat.add_le_add_right (Nat.add_le_add_right (Nat.add_le_add_right (Nat.add_le_add_right (Nat.add_le_add_right (Nat.add_le_add_right (Nat.add_le_add_right hcl 1) 2) 0) 0) 0) 0) 0) 0) 0) 0) (by decide)), (Nat.le_trans (Nat.add_le_add_right (Nat.add_le_add_right (Nat.add_le_add_right (Nat.add_le_add_right (Nat.add_le_add_right (Nat.add_le_add_right (Nat.add_le_add_right (Nat.add_le_add_right (Nat.add_le_add_right (Nat.add_le_add_right hsl 5) 16) 0) 0) 0) 0) 0) 0) 0) 0) (by decide))⟩)
    dsimp only [Pt.U, Pt.locs, Pt.cells, Pt.slots] at X67 l67 y67 z67 st67 hQ67
    subst l67 y67 z67
    obtain ⟨o1_67, c1_67, sl1_67, al1_67, rfl, N67q, Kq67, pf67_0, pf67_1, pf67_2, pf67_3, pf67_4, pf67_5, pf67_6, ph67_0⟩ := hQ67
    have G68 : VA Z T67.heap b3 .long (ss.map Value.long) := G64.keep Kq67 (ninS ne_b3_b28 (ninS ne_b3_aS_35 (ninS ne_b3_aA_35 nin0)))
    have G69 : Exa Z T67.heap b28 "com/example/talthybius/talthybius/AwaitedPings" := Exa.keep G65 Kq67
    have K67 : Keep h0 T67.heap [] := Keep.trans K63 Kq67 (allS (Or.inr sz_b28) (allS (Or.inr sz_aS_35) (allS (Or.inr sz_aA_35) all0)))
    have Z67 : n0 ≤ T67.heap.size := Nat.le_trans Z0 K67.1
    have N67 := Fr.app N63 N67q
    have hA7 : own_AP 8 sl1_67 al1_67 o1_67 c1_67 (own_Qn x8 ss 7) := ph67_0
    have hl7 : (own_Qn x8 ss 7).length ≤ 8 := own_lP hl6
    have ix70 : 0 ≤ ((8 : Int32)).toInt ∧ ((8 : Int32)).toInt < ((ss).length : Int) := own_ixl hS (by decide)
    refine Go.step (T' := T67) (f' := (mkF m 379 #[.val (.long p1), .second, .val (.long p2), .second, .val (.long p3), .second, .val (.long p4), .second, .val (.long x8), .second, .val (.long x10), .second, .val (.ref b3), .val (.long x13), .second, .val (.int x15), .val (.int x16), .val (.long t0), .second, .val (.ref b28), .unset, .unset, .unset, .unset] [(.long (ss.getD 8 (0 : Int64))), (.ref b28)])) (fun t kt => ?_) ?_
    · show Steps p.tables e below (T.setTop (mkF m 285 #[.val (.long p1), .second, .val (.long p2), .second, .val (.long p3), .second, .val (.long p4), .second, .val (.long x8), .second, .val (.long x10), .second, .val (.ref b3), .val (.long x13), .second, .val (.int x15), .val (.int x16), .unset, .unset, .unset, .unset, .unset, .unset, .unset] [(.long t0)])) _
      refine XS.lstore X.here hx rfl (hb hby at_285) rfl (l' := #[.val (.long p1), .second, .val (.long p2), .second, .val (.long p3), .second, .val (.long p4), .second, .val (.long x8), .second, .val (.long x10), .second, .val (.ref b3), .val (.long x13), .second, .val (.int x15), .val (.int x16), .val (.long t0), .second, .unset, .unset, .unset, .unset, .unset]) rfl ?_
      show Steps p.tables e below (T.setTop (mkF m 287 #[.val (.long p1), .second, .val (.long p2), .second, .val (.long p3), .second, .val (.long p4), .second, .val (.long x8), .second, .val (.long x10), .second, .val (.ref b3), .val (.long x13), .second, .val (.int x15), .val (.int x16), .val (.long t0), .second, .unset, .unset, .unset, .unset, .unset] [])) _
      refine st28 _ ?_
      show Steps p.tables e below (T28.setTop (mkF m 290 #[.val (.long p1), .second, .val (.long p2), .second, .val (.long p3), .second, .val (.long p4), .second, .val (.long x8), .second, .val (.long x10), .second, .val (.ref b3), .val (.long x13), .second, .val (.int x15), .val (.int x16), .val (.long t0), .second, .unset, .unset, .unset, .unset, .unset] [(.ref b28)])) _
      refine XS.dup X28.here hx rfl (hb hby at_290) rfl rfl ?_
      show Steps p.tables e below (T28.setTop (mkF m 291 #[.val (.long p1), .second, .val (.long p2), .second, .val (.long p3), .second, .val (.long p4), .second, .val (.long x8), .second, .val (.long x10), .second, .val (.ref b3), .val (.long x13), .second, .val (.int x15), .val (.int x16), .val (.long t0), .second, .unset, .unset, .unset, .unset, .unset] [(.ref b28), (.ref b28)])) _
      refine XS.lload X28.here hx rfl (hb hby at_291) rfl ?_
      show Steps p.tables e below (T28.setTop (mkF m 293 #[.val (.long p1), .second, .val (.long p2), .second, .val (.long p3), .second, .val (.long p4), .second, .val (.long x8), .second, .val (.long x10), .second, .val (.ref b3), .val (.long x13), .second, .val (.int x15), .val (.int x16), .val (.long t0), .second, .unset, .unset, .unset, .unset, .unset] [(.long x8), (.ref b28), (.ref b28)])) _
      refine st35.trans ?_
      show Steps p.tables e below (T35.setTop (mkF m 296 #[.val (.long p1), .second, .val (.long p2), .second, .val (.long p3), .second, .val (.long p4), .second, .val (.long x8), .second, .val (.long x10), .second, .val (.ref b3), .val (.long x13), .second, .val (.int x15), .val (.int x16), .val (.long t0), .second, .unset, .unset, .unset, .unset, .unset] [(.ref b28)])) _
      refine XS.astore X35.here hx rfl (hb hby at_296) rfl rfl (l' := #[.val (.long p1), .second, .val (.long p2), .second, .val (.long p3), .second, .val (.long p4), .second, .val (.long x8), .second, .val (.long x10), .second, .val (.ref b3), .val (.long x13), .second, .val (.int x15), .val (.int x16), .val (.long t0), .second, .val (.ref b28), .unset, .unset, .unset, .unset]) rfl ?_
      show Steps p.tables e below (T35.setTop (mkF m 298 #[.val (.long p1), .second, .val (.long p2), .second, .val (.long p3), .second, .val (.long p4), .second, .val (.long x8), .second, .val (.long x10), .second, .val (.ref b3), .val (.long x13), .second, .val (.int x15), .val (.int x16), .val (.long t0), .second, .val (.ref b28), .unset, .unset, .unset, .unset] [])) _
      refine XS.aload X35.here hx rfl (hb hby at_298) rfl rfl ?_
      show Steps p.tables e below (T35.setTop (mkF m 300 #[.val (.long p1), .second, .val (.long p2), .second, .val (.long p3), .second, .val (.long p4), .second, .val (.long x8), .second, .val (.long x10), .second, .val (.ref b3), .val (.long x13), .second, .val (.int x15), .val (.int x16), .val (.long t0), .second, .val (.ref b28), .unset, .unset, .unset, .unset] [(.ref b28)])) _
      refine XS.aload X35.here hx rfl (hb hby at_300) rfl rfl ?_
      show Steps p.tables e below (T35.setTop (mkF m 302 #[.val (.long p1), .second, .val (.long p2), .second, .val (.long p3), .second, .val (.long p4), .second, .val (.long x8), .second, .val (.long x10), .second, .val (.ref b3), .val (.long x13), .second, .val (.int x15), .val (.int x16), .val (.long t0), .second, .val (.ref b28), .unset, .unset, .unset, .unset] [(.ref b3), (.ref b28)])) _
      refine XS.iconst X35.here hx rfl (hb hby at_302) ?_
      show Steps p.tables e below (T35.setTop (mkF m 303 #[.val (.long p1), .second, .val (.long p2), .second, .val (.long p3), .second, .val (.long p4), .second, .val (.long x8), .second, .val (.long x10), .second, .val (.ref b3), .val (.long x13), .second, .val (.int x15), .val (.int x16), .val (.long t0), .second, .val (.ref b28), .unset, .unset, .unset, .unset] [(.int (0 : Int32)), (.ref b3), (.ref b28)])) _
      refine ldJ X35 hx hZ rfl G36 ix38.1 ix38.2 (g := (mkF m 303 #[.val (.long p1), .second, .val (.long p2), .second, .val (.long p3), .second, .val (.long p4), .second, .val (.long x8), .second, .val (.long x10), .second, .val (.ref b3), .val (.long x13), .second, .val (.int x15), .val (.int x16), .val (.long t0), .second, .val (.ref b28), .unset, .unset, .unset, .unset] [(.int (0 : Int32)), (.ref b3), (.ref b28)])) rfl rfl (hb hby at_303) _ ?_
      show Steps p.tables e below (T35.setTop (mkF m 304 #[.val (.long p1), .second, .val (.long p2), .second, .val (.long p3), .second, .val (.long p4), .second, .val (.long x8), .second, .val (.long x10), .second, .val (.ref b3), .val (.long x13), .second, .val (.int x15), .val (.int x16), .val (.long t0), .second, .val (.ref b28), .unset, .unset, .unset, .unset] [(.long (ss.getD 0 (0 : Int64))), (.ref b28)])) _
      refine st39.trans ?_
      show Steps p.tables e below (T39.setTop (mkF m 307 #[.val (.long p1), .second, .val (.long p2), .second, .val (.long p3), .second, .val (.long p4), .second, .val (.long x8), .second, .val (.long x10), .second, .val (.ref b3), .val (.long x13), .second, .val (.int x15), .val (.int x16), .val (.long t0), .second, .val (.ref b28), .unset, .unset, .unset, .unset] [])) _
      refine XS.aload X39.here hx rfl (hb hby at_307) rfl rfl ?_
      show Steps p.tables e below (T39.setTop (mkF m 309 #[.val (.long p1), .second, .val (.long p2), .second, .val (.long p3), .second, .val (.long p4), .second, .val (.long x8), .second, .val (.long x10), .second, .val (.ref b3), .val (.long x13), .second, .val (.int x15), .val (.int x16), .val (.long t0), .second, .val (.ref b28), .unset, .unset, .unset, .unset] [(.ref b28)])) _
      refine XS.aload X39.here hx rfl (hb hby at_309) rfl rfl ?_
      show Steps p.tables e below (T39.setTop (mkF m 311 #[.val (.long p1), .second, .val (.long p2), .second, .val (.long p3), .second, .val (.long p4), .second, .val (.long x8), .second, .val (.long x10), .second, .val (.ref b3), .val (.long x13), .second, .val (.int x15), .val (.int x16), .val (.long t0), .second, .val (.ref b28), .unset, .unset, .unset, .unset] [(.ref b3), (.ref b28)])) _
      refine XS.iconst X39.here hx rfl (hb hby at_311) ?_
      show Steps p.tables e below (T39.setTop (mkF m 312 #[.val (.long p1), .second, .val (.long p2), .second, .val (.long p3), .second, .val (.long p4), .second, .val (.long x8), .second, .val (.long x10), .second, .val (.ref b3), .val (.long x13), .second, .val (.int x15), .val (.int x16), .val (.long t0), .second, .val (.ref b28), .unset, .unset, .unset, .unset] [(.int (1 : Int32)), (.ref b3), (.ref b28)])) _
      refine ldJ X39 hx hZ rfl G40 ix42.1 ix42.2 (g := (mkF m 312 #[.val (.long p1), .second, .val (.long p2), .second, .val (.long p3), .second, .val (.long p4), .second, .val (.long x8), .second, .val (.long x10), .second, .val (.ref b3), .val (.long x13), .second, .val (.int x15), .val (.int x16), .val (.long t0), .second, .val (.ref b28), .unset, .unset, .unset, .unset] [(.int (1 : Int32)), (.ref b3), (.ref b28)])) rfl rfl (hb hby at_312) _ ?_
      show Steps p.tables e below (T39.setTop (mkF m 313 #[.val (.long p1), .second, .val (.long p2), .second, .val (.long p3), .second, .val (.long p4), .second, .val (.long x8), .second, .val (.long x10), .second, .val (.ref b3), .val (.long x13), .second, .val (.int x15), .val (.int x16), .val (.long t0), .second, .val (.ref b28), .unset, .unset, .unset, .unset] [(.long (ss.getD 1 (0 : Int64))), (.ref b28)])) _
      refine st43.trans ?_
      show Steps p.tables e below (T43.setTop (mkF m 316 #[.val (.long p1), .second, .val (.long p2), .second, .val (.long p3), .second, .val (.long p4), .second, .val (.long x8), .second, .val (.long x10), .second, .val (.ref b3), .val (.long x13), .second, .val (.int x15), .val (.int x16), .val (.long t0), .second, .val (.ref b28), .unset, .unset, .unset, .unset] [])) _
      refine XS.aload X43.here hx rfl (hb hby at_316) rfl rfl ?_
      show Steps p.tables e below (T43.setTop (mkF m 318 #[.val (.long p1), .second, .val (.long p2), .second, .val (.long p3), .second, .val (.long p4), .second, .val (.long x8), .second, .val (.long x10), .second, .val (.ref b3), .val (.long x13), .second, .val (.int x15), .val (.int x16), .val (.long t0), .second, .val (.ref b28), .unset, .unset, .unset, .unset] [(.ref b28)])) _
      refine XS.aload X43.here hx rfl (hb hby at_318) rfl rfl ?_
      show Steps p.tables e below (T43.setTop (mkF m 320 #[.val (.long p1), .second, .val (.long p2), .second, .val (.long p3), .second, .val (.long p4), .second, .val (.long x8), .second, .val (.long x10), .second, .val (.ref b3), .val (.long x13), .second, .val (.int x15), .val (.int x16), .val (.long t0), .second, .val (.ref b28), .unset, .unset, .unset, .unset] [(.ref b3), (.ref b28)])) _
      refine XS.iconst X43.here hx rfl (hb hby at_320) ?_
      show Steps p.tables e below (T43.setTop (mkF m 321 #[.val (.long p1), .second, .val (.long p2), .second, .val (.long p3), .second, .val (.long p4), .second, .val (.long x8), .second, .val (.long x10), .second, .val (.ref b3), .val (.long x13), .second, .val (.int x15), .val (.int x16), .val (.long t0), .second, .val (.ref b28), .unset, .unset, .unset, .unset] [(.int (2 : Int32)), (.ref b3), (.ref b28)])) _
      refine ldJ X43 hx hZ rfl G44 ix46.1 ix46.2 (g := (mkF m 321 #[.val (.long p1), .second, .val (.long p2), .second, .val (.long p3), .second, .val (.long p4), .second, .val (.long x8), .second, .val (.long x10), .second, .val (.ref b3), .val (.long x13), .second, .val (.int x15), .val (.int x16), .val (.long t0), .second, .val (.ref b28), .unset, .unset, .unset, .unset] [(.int (2 : Int32)), (.ref b3), (.ref b28)])) rfl rfl (hb hby at_321) _ ?_
      show Steps p.tables e below (T43.setTop (mkF m 322 #[.val (.long p1), .second, .val (.long p2), .second, .val (.long p3), .second, .val (.long p4), .second, .val (.long x8), .second, .val (.long x10), .second, .val (.ref b3), .val (.long x13), .second, .val (.int x15), .val (.int x16), .val (.long t0), .second, .val (.ref b28), .unset, .unset, .unset, .unset] [(.long (ss.getD 2 (0 : Int64))), (.ref b28)])) _
      refine st47.trans ?_
      show Steps p.tables e below (T47.setTop (mkF m 325 #[.val (.long p1), .second, .val (.long p2), .second, .val (.long p3), .second, .val (.long p4), .second, .val (.long x8), .second, .val (.long x10), .second, .val (.ref b3), .val (.long x13), .second, .val (.int x15), .val (.int x16), .val (.long t0), .second, .val (.ref b28), .unset, .unset, .unset, .unset] [])) _
      refine XS.aload X47.here hx rfl (hb hby at_325) rfl rfl ?_
      show Steps p.tables e below (T47.setTop (mkF m 327 #[.val (.long p1), .second, .val (.long p2), .second, .val (.long p3), .second, .val (.long p4), .second, .val (.long x8), .second, .val (.long x10), .second, .val (.ref b3), .val (.long x13), .second, .val (.int x15), .val (.int x16), .val (.long t0), .second, .val (.ref b28), .unset, .unset, .unset, .unset] [(.ref b28)])) _
      refine XS.aload X47.here hx rfl (hb hby at_327) rfl rfl ?_
      show Steps p.tables e below (T47.setTop (mkF m 329 #[.val (.long p1), .second, .val (.long p2), .second, .val (.long p3), .second, .val (.long p4), .second, .val (.long x8), .second, .val (.long x10), .second, .val (.ref b3), .val (.long x13), .second, .val (.int x15), .val (.int x16), .val (.long t0), .second, .val (.ref b28), .unset, .unset, .unset, .unset] [(.ref b3), (.ref b28)])) _
      refine XS.iconst X47.here hx rfl (hb hby at_329) ?_
      show Steps p.tables e below (T47.setTop (mkF m 330 #[.val (.long p1), .second, .val (.long p2), .second, .val (.long p3), .second, .val (.long p4), .second, .val (.long x8), .second, .val (.long x10), .second, .val (.ref b3), .val (.long x13), .second, .val (.int x15), .val (.int x16), .val (.long t0), .second, .val (.ref b28), .unset, .unset, .unset, .unset] [(.int (3 : Int32)), (.ref b3), (.ref b28)])) _
      refine ldJ X47 hx hZ rfl G48 ix50.1 ix50.2 (g := (mkF m 330 #[.val (.long p1), .second, .val (.long p2), .second, .val (.long p3), .second, .val (.long p4), .second, .val (.long x8), .second, .val (.long x10), .second, .val (.ref b3), .val (.long x13), .second, .val (.int x15), .val (.int x16), .val (.long t0), .second, .val (.ref b28), .unset, .unset, .unset, .unset] [(.int (3 : Int32)), (.ref b3), (.ref b28)])) rfl rfl (hb hby at_330) _ ?_
      show Steps p.tables e below (T47.setTop (mkF m 331 #[.val (.long p1), .second, .val (.long p2), .second, .val (.long p3), .second, .val (.long p4), .second, .val (.long x8), .second, .val (.long x10), .second, .val (.ref b3), .val (.long x13), .second, .val (.int x15), .val (.int x16), .val (.long t0), .second, .val (.ref b28), .unset, .unset, .unset, .unset] [(.long (ss.getD 3 (0 : Int64))), (.ref b28)])) _
      refine st51.trans ?_
      show Steps p.tables e below (T51.setTop (mkF m 334 #[.val (.long p1), .second, .val (.long p2), .second, .val (.long p3), .second, .val (.long p4), .second, .val (.long x8), .second, .val (.long x10), .second, .val (.ref b3), .val (.long x13), .second, .val (.int x15), .val (.int x16), .val (.long t0), .second, .val (.ref b28), .unset, .unset, .unset, .unset] [])) _
      refine XS.aload X51.here hx rfl (hb hby at_334) rfl rfl ?_
      show Steps p.tables e below (T51.setTop (mkF m 336 #[.val (.long p1), .second, .val (.long p2), .second, .val (.long p3), .second, .val (.long p4), .second, .val (.long x8), .second, .val (.long x10), .second, .val (.ref b3), .val (.long x13), .second, .val (.int x15), .val (.int x16), .val (.long t0), .second, .val (.ref b28), .unset, .unset, .unset, .unset] [(.ref b28)])) _
      refine XS.aload X51.here hx rfl (hb hby at_336) rfl rfl ?_
      show Steps p.tables e below (T51.setTop (mkF m 338 #[.val (.long p1), .second, .val (.long p2), .second, .val (.long p3), .second, .val (.long p4), .second, .val (.long x8), .second, .val (.long x10), .second, .val (.ref b3), .val (.long x13), .second, .val (.int x15), .val (.int x16), .val (.long t0), .second, .val (.ref b28), .unset, .unset, .unset, .unset] [(.ref b3), (.ref b28)])) _
      refine XS.iconst X51.here hx rfl (hb hby at_338) ?_
      show Steps p.tables e below (T51.setTop (mkF m 339 #[.val (.long p1), .second, .val (.long p2), .second, .val (.long p3), .second, .val (.long p4), .second, .val (.long x8), .second, .val (.long x10), .second, .val (.ref b3), .val (.long x13), .second, .val (.int x15), .val (.int x16), .val (.long t0), .second, .val (.ref b28), .unset, .unset, .unset, .unset] [(.int (4 : Int32)), (.ref b3), (.ref b28)])) _
      refine ldJ X51 hx hZ rfl G52 ix54.1 ix54.2 (g := (mkF m 339 #[.val (.long p1), .second, .val (.long p2), .second, .val (.long p3), .second, .val (.long p4), .second, .val (.long x8), .second, .val (.long x10), .second, .val (.ref b3), .val (.long x13), .second, .val (.int x15), .val (.int x16), .val (.long t0), .second, .val (.ref b28), .unset, .unset, .unset, .unset] [(.int (4 : Int32)), (.ref b3), (.ref b28)])) rfl rfl (hb hby at_339) _ ?_
      show Steps p.tables e below (T51.setTop (mkF m 340 #[.val (.long p1), .second, .val (.long p2), .second, .val (.long p3), .second, .val (.long p4), .second, .val (.long x8), .second, .val (.long x10), .second, .val (.ref b3), .val (.long x13), .second, .val (.int x15), .val (.int x16), .val (.long t0), .second, .val (.ref b28), .unset, .unset, .unset, .unset] [(.long (ss.getD 4 (0 : Int64))), (.ref b28)])) _
      refine st55.trans ?_
      show Steps p.tables e below (T55.setTop (mkF m 343 #[.val (.long p1), .second, .val (.long p2), .second, .val (.long p3), .second, .val (.long p4), .second, .val (.long x8), .second, .val (.long x10), .second, .val (.ref b3), .val (.long x13), .second, .val (.int x15), .val (.int x16), .val (.long t0), .second, .val (.ref b28), .unset, .unset, .unset, .unset] [])) _
      refine XS.aload X55.here hx rfl (hb hby at_343) rfl rfl ?_
      show Steps p.tables e below (T55.setTop (mkF m 345 #[.val (.long p1), .second, .val (.long p2), .second, .val (.long p3), .second, .val (.long p4), .second, .val (.long x8), .second, .val (.long x10), .second, .val (.ref b3), .val (.long x13), .second, .val (.int x15), .val (.int x16), .val (.long t0), .second, .val (.ref b28), .unset, .unset, .unset, .unset] [(.ref b28)])) _
      refine XS.aload X55.here hx rfl (hb hby at_345) rfl rfl ?_
      show Steps p.tables e below (T55.setTop (mkF m 347 #[.val (.long p1), .second, .val (.long p2), .second, .val (.long p3), .second, .val (.long p4), .second, .val (.long x8), .second, .val (.long x10), .second, .val (.ref b3), .val (.long x13), .second, .val (.int x15), .val (.int x16), .val (.long t0), .second, .val (.ref b28), .unset, .unset, .unset, .unset] [(.ref b3), (.ref b28)])) _
      refine XS.iconst X55.here hx rfl (hb hby at_347) ?_
      show Steps p.tables e below (T55.setTop (mkF m 348 #[.val (.long p1), .second, .val (.long p2), .second, .val (.long p3), .second, .val (.long p4), .second, .val (.long x8), .second, .val (.long x10), .second, .val (.ref b3), .val (.long x13), .second, .val (.int x15), .val (.int x16), .val (.long t0), .second, .val (.ref b28), .unset, .unset, .unset, .unset] [(.int (5 : Int32)), (.ref b3), (.ref b28)])) _
      refine ldJ X55 hx hZ rfl G56 ix58.1 ix58.2 (g := (mkF m 348 #[.val (.long p1), .second, .val (.long p2), .second, .val (.long p3), .second, .val (.long p4), .second, .val (.long x8), .second, .val (.long x10), .second, .val (.ref b3), .val (.long x13), .second, .val (.int x15), .val (.int x16), .val (.long t0), .second, .val (.ref b28), .unset, .unset, .unset, .unset] [(.int (5 : Int32)), (.ref b3), (.ref b28)])) rfl rfl (hb hby at_348) _ ?_
      show Steps p.tables e below (T55.setTop (mkF m 349 #[.val (.long p1), .second, .val (.long p2), .second, .val (.long p3), .second, .val (.long p4), .second, .val (.long x8), .second, .val (.long x10), .second, .val (.ref b3), .val (.long x13), .second, .val (.int x15), .val (.int x16), .val (.long t0), .second, .val (.ref b28), .unset, .unset, .unset, .unset] [(.long (ss.getD 5 (0 : Int64))), (.ref b28)])) _
      refine st59.trans ?_
      show Steps p.tables e below (T59.setTop (mkF m 352 #[.val (.long p1), .second, .val (.long p2), .second, .val (.long p3), .second, .val (.long p4), .second, .val (.long x8), .second, .val (.long x10), .second, .val (.ref b3), .val (.long x13), .second, .val (.int x15), .val (.int x16), .val (.long t0), .second, .val (.ref b28), .unset, .unset, .unset, .unset] [])) _
      refine XS.aload X59.here hx rfl (hb hby at_352) rfl rfl ?_
      show Steps p.tables e below (T59.setTop (mkF m 354 #[.val (.long p1), .second, .val (.long p2), .second, .val (.long p3), .second, .val (.long p4), .second, .val (.long x8), .second, .val (.long x10), .second, .val (.ref b3), .val (.long x13), .second, .val (.int x15), .val (.int x16), .val (.long t0), .second, .val (.ref b28), .unset, .unset, .unset, .unset] [(.ref b28)])) _
      refine XS.aload X59.here hx rfl (hb hby at_354) rfl rfl ?_
      show Steps p.tables e below (T59.setTop (mkF m 356 #[.val (.long p1), .second, .val (.long p2), .second, .val (.long p3), .second, .val (.long p4), .second, .val (.long x8), .second, .val (.long x10), .second, .val (.ref b3), .val (.long x13), .second, .val (.int x15), .val (.int x16), .val (.long t0), .second, .val (.ref b28), .unset, .unset, .unset, .unset] [(.ref b3), (.ref b28)])) _
      refine XS.bipush X59.here hx rfl (hb hby at_356) ?_
      show Steps p.tables e below (T59.setTop (mkF m 358 #[.val (.long p1), .second, .val (.long p2), .second, .val (.long p3), .second, .val (.long p4), .second, .val (.long x8), .second, .val (.long x10), .second, .val (.ref b3), .val (.long x13), .second, .val (.int x15), .val (.int x16), .val (.long t0), .second, .val (.ref b28), .unset, .unset, .unset, .unset] [(.int (6 : Int32)), (.ref b3), (.ref b28)])) _
      refine ldJ X59 hx hZ rfl G60 ix62.1 ix62.2 (g := (mkF m 358 #[.val (.long p1), .second, .val (.long p2), .second, .val (.long p3), .second, .val (.long p4), .second, .val (.long x8), .second, .val (.long x10), .second, .val (.ref b3), .val (.long x13), .second, .val (.int x15), .val (.int x16), .val (.long t0), .second, .val (.ref b28), .unset, .unset, .unset, .unset] [(.int (6 : Int32)), (.ref b3), (.ref b28)])) rfl rfl (hb hby at_358) _ ?_
      show Steps p.tables e below (T59.setTop (mkF m 359 #[.val (.long p1), .second, .val (.long p2), .second, .val (.long p3), .second, .val (.long p4), .second, .val (.long x8), .second, .val (.long x10), .second, .val (.ref b3), .val (.long x13), .second, .val (.int x15), .val (.int x16), .val (.long t0), .second, .val (.ref b28), .unset, .unset, .unset, .unset] [(.long (ss.getD 6 (0 : Int64))), (.ref b28)])) _
      refine st63.trans ?_
      show Steps p.tables e below (T63.setTop (mkF m 362 #[.val (.long p1), .second, .val (.long p2), .second, .val (.long p3), .second, .val (.long p4), .second, .val (.long x8), .second, .val (.long x10), .second, .val (.ref b3), .val (.long x13), .second, .val (.int x15), .val (.int x16), .val (.long t0), .second, .val (.ref b28), .unset, .unset, .unset, .unset] [])) _
      refine XS.aload X63.here hx rfl (hb hby at_362) rfl rfl ?_
      show Steps p.tables e below (T63.setTop (mkF m 364 #[.val (.long p1), .second, .val (.long p2), .second, .val (.long p3), .second, .val (.long p4), .second, .val (.long x8), .second, .val (.long x10), .second, .val (.ref b3), .val (.long x13), .second, .val (.int x15), .val (.int x16), .val (.long t0), .second, .val (.ref b28), .unset, .unset, .unset, .unset] [(.ref b28)])) _
      refine XS.aload X63.here hx rfl (hb hby at_364) rfl rfl ?_
      show Steps p.tables e below (T63.setTop (mkF m 366 #[.val (.long p1), .second, .val (.long p2), .second, .val (.long p3), .second, .val (.long p4), .second, .val (.long x8), .second, .val (.long x10), .second, .val (.ref b3), .val (.long x13), .second, .val (.int x15), .val (.int x16), .val (.long t0), .second, .val (.ref b28), .unset, .unset, .unset, .unset] [(.ref b3), (.ref b28)])) _
      refine XS.bipush X63.here hx rfl (hb hby at_366) ?_
      show Steps p.tables e below (T63.setTop (mkF m 368 #[.val (.long p1), .second, .val (.long p2), .second, .val (.long p3), .second, .val (.long p4), .second, .val (.long x8), .second, .val (.long x10), .second, .val (.ref b3), .val (.long x13), .second, .val (.int x15), .val (.int x16), .val (.long t0), .second, .val (.ref b28), .unset, .unset, .unset, .unset] [(.int (7 : Int32)), (.ref b3), (.ref b28)])) _
      refine ldJ X63 hx hZ rfl G64 ix66.1 ix66.2 (g := (mkF m 368 #[.val (.long p1), .second, .val (.long p2), .second, .val (.long p3), .second, .val (.long p4), .second, .val (.long x8), .second, .val (.long x10), .second, .val (.ref b3), .val (.long x13), .second, .val (.int x15), .val (.int x16), .val (.long t0), .second, .val (.ref b28), .unset, .unset, .unset, .unset] [(.int (7 : Int32)), (.ref b3), (.ref b28)])) rfl rfl (hb hby at_368) _ ?_
      show Steps p.tables e below (T63.setTop (mkF m 369 #[.val (.long p1), .second, .val (.long p2), .second, .val (.long p3), .second, .val (.long p4), .second, .val (.long x8), .second, .val (.long x10), .second, .val (.ref b3), .val (.long x13), .second, .val (.int x15), .val (.int x16), .val (.long t0), .second, .val (.ref b28), .unset, .unset, .unset, .unset] [(.long (ss.getD 7 (0 : Int64))), (.ref b28)])) _
      refine st67.trans ?_
      show Steps p.tables e below (T67.setTop (mkF m 372 #[.val (.long p1), .second, .val (.long p2), .second, .val (.long p3), .second, .val (.long p4), .second, .val (.long x8), .second, .val (.long x10), .second, .val (.ref b3), .val (.long x13), .second, .val (.int x15), .val (.int x16), .val (.long t0), .second, .val (.ref b28), .unset, .unset, .unset, .unset] [])) _
      refine XS.aload X67.here hx rfl (hb hby at_372) rfl rfl ?_
      show Steps p.tables e below (T67.setTop (mkF m 374 #[.val (.long p1), .second, .val (.long p2), .second, .val (.long p3), .second, .val (.long p4), .second, .val (.long x8), .second, .val (.long x10), .second, .val (.ref b3), .val (.long x13), .second, .val (.int x15), .val (.int x16), .val (.long t0), .second, .val (.ref b28), .unset, .unset, .unset, .unset] [(.ref b28)])) _
      refine XS.aload X67.here hx rfl (hb hby at_374) rfl rfl ?_
      show Steps p.tables e below (T67.setTop (mkF m 376 #[.val (.long p1), .second, .val (.long p2), .second, .val (.long p3), .second, .val (.long p4), .second, .val (.long x8), .second, .val (.long x10), .second, .val (.ref b3), .val (.long x13), .second, .val (.int x15), .val (.int x16), .val (.long t0), .second, .val (.ref b28), .unset, .unset, .unset, .unset] [(.ref b3), (.ref b28)])) _
      refine XS.bipush X67.here hx rfl (hb hby at_376) ?_
      show Steps p.tables e below (T67.setTop (mkF m 378 #[.val (.long p1), .second, .val (.long p2), .second, .val (.long p3), .second, .val (.long p4), .second, .val (.long x8), .second, .val (.long x10), .second, .val (.ref b3), .val (.long x13), .second, .val (.int x15), .val (.int x16), .val (.long t0), .second, .val (.ref b28), .unset, .unset, .unset, .unset] [(.int (8 : Int32)), (.ref b3), (.ref b28)])) _
      refine ldJ X67 hx hZ rfl G68 ix70.1 ix70.2 (g := (mkF m 378 #[.val (.long p1), .second, .val (.long p2), .second, .val (.long p3), .second, .val (.long p4), .second, .val (.long x8), .second, .val (.long x10), .second, .val (.ref b3), .val (.long x13), .second, .val (.int x15), .val (.int x16), .val (.long t0), .second, .val (.ref b28), .unset, .unset, .unset, .unset] [(.int (8 : Int32)), (.ref b3), (.ref b28)])) rfl rfl (hb hby at_378) _ ?_
      exact kt
    by_cases hg379 : (own_dr (ss.getD 8 (0 : Int64)) x8 (own_Qn x8 ss 7)).length = 8
    · have _ := hg379
      obtain ⟨cq71, kq71, q71a, q71b, q71c⟩ := isOf hZ rfl (G69 : Exa Z T67.heap b28 "com/example/talthybius/talthybius/AwaitedPings")
      obtain ⟨_, _, ⟨T71, L71, k71, n71⟩, -, X71, ⟨Lc71, hQ71, l71, y71, z71⟩, st71⟩ := X67.virtualBack hx (y := (⟨"com/example/talthybius/talthybius/AwaitedPings", "sent", "(J)V"⟩ : MethodName)) (z := (⟨"com/example/talthybius/talthybius/AwaitedPings", "sent", "(J)V"⟩ : MethodName)) hown (mvT hZ (hw _ (List.mem_of_getElem? (i := 25) rfl))) (mvT hZ (hw _ (List.mem_of_getElem? (i := 26) rfl))) (notFace_of_selects (args := #[]) (mvT hZ (hw _ (List.mem_of_getElem? (i := 28) rfl)))) (mvT hZ (hw _ (List.mem_of_getElem? (i := 28) rfl))) (mvT hZ (hw _ (List.mem_of_getElem? (i := 27) rfl))) (by decide) (backOf (W := 0) (rm_senG l Z a0 hw [] b28 (ss.getD 8 (0 : Int64)) aS_35 aA_35 x8 o1_67 c1_67 sl1_67 al1_67 (own_Qn x8 ss 7) T67.heap n0 Z67 G69 pf67_0 pf67_1 pf67_2 pf67_3 pf67_4 pf67_5 pf67_6 g_b28 ne_b28_aS_35 ne_b28_aA_35 ne_aS_35_aA_35 hA7 hg379) hZ (hw _ (List.mem_of_getElem? (i := 29) rfl)) (hw _ (List.mem_of_getElem? (i := 11) rfl)) (by decide) (by decide)) q71a q71c (g := (mkF m 379 #[.val (.long p1), .second, .val (.long p2), .second, .val (.long p3), .second, .val (.long p4), .second, .val (.long x8), .second, .val (.long x10), .second, .val (.ref b3), .val (.long x13), .second, .val (.int x15), .val (.int x16), .val (.long t0), .second, .val (.ref b28), .unset, .unset, .unset, .unset] [(.long (ss.getD 8 (0 : Int64))), (.ref b28)])) rfl (by rw [hml]; rfl) (Steps.refl _) (argsL := [(.long (ss.getD 8 (0 : Int64)))]) (rest := []) (lenOf pd_1 rfl) rfl (by show 2 * 0 + _ ≤ _; exact Nat.le_of_eq rfl) (hb hby at_379) (fun _ _ => ⟨rfl, rfl, (Nat.le_trans (Nat.add_le_add_right (Nat.add_le_add_right (Nat.add_le_add_right (Nat.add_le_add_right (Nat.add_le_add_right (Nat.add_le_add_right (Nat.add_le_add_right (Nat.add_le_add_right (Nat.add_le_add_right (Nat.add_le_add_right (Nat.add_le_add_right hcl 1) 2) 0) 0) 0) 0) 0) 0) 0) 0) 2) (by decide)), (Nat.le_trans (Nat.add_le_add_right (Nat.add_le_add_right (Nat.add_le_add_right (Nat.add_le_add_right (Nat.add_le_add_right (Nat.add_le_add_right (Nat.add_le_add_right (Nat.add_le_add_right (Nat.add_le_add_right (Nat.add_le_add_right (Nat.add_le_add_right hsl 5) 16) 0) 0) 0) 0) 0) 0) 0) 0) 32) (by decide))⟩)
      dsimp only [Pt.U, Pt.locs, Pt.cells, Pt.slots] at X71 l71 y71 z71 st71 hQ71
      subst l71 y71 z71
      obtain ⟨s2_71, a2_71, o1_71, c1_71, sl1_71, al1_71, rfl, N71q, Kq71, fz_s2_71, fz_a2_71, ne_s2_71_a2_71, pf71_0, pf71_1, pf71_2, pf71_3, pf71_4, pf71_5, pf71_6, ph71_0⟩ := hQ71
      have oldlt_71_b3 : b3 < T67.heap.size := G68.lt
      have oldlt_71_b28 : b28 < T67.heap.size := G69.lt
      have oldlt_71_aS_35 : aS_35 < T67.heap.size := pf67_5.lt
      have oldlt_71_aA_35 : aA_35 < T67.heap.size := pf67_6.lt
      have G72 : VA Z T71.heap b3 .long (ss.map Value.long) := G68.keep Kq71 (ninS ne_b3_b28 nin0)
      have G73 : Exa Z T71.heap b28 "com/example/talthybius/talthybius/AwaitedPings" := Exa.keep G69 Kq71
      have G74 : VA Z T71.heap aS_35 .long (sl1_67.map Value.long) := pf67_5.keep Kq71 (ninS (Ne.symm ne_b28_aS_35) nin0)
      have G75 : VA Z T71.heap aA_35 .boolean (al1_67.map Value.int) := pf67_6.keep Kq71 (ninS (Ne.symm ne_b28_aA_35) nin0)
      have ne_b3_s2_71 : b3 ≠ s2_71 := Nat.ne_of_lt (Nat.lt_of_lt_of_le oldlt_71_b3 fz_s2_71)
      have ne_b28_s2_71 : b28 ≠ s2_71 := Nat.ne_of_lt (Nat.lt_of_lt_of_le oldlt_71_b28 fz_s2_71)
      have ne_aS_35_s2_71 : aS_35 ≠ s2_71 := Nat.ne_of_lt (Nat.lt_of_lt_of_le oldlt_71_aS_35 fz_s2_71)
      have ne_aA_35_s2_71 : aA_35 ≠ s2_71 := Nat.ne_of_lt (Nat.lt_of_lt_of_le oldlt_71_aA_35 fz_s2_71)
      have g_s2_71 : n0 ≤ s2_71 := Nat.le_trans Z67 fz_s2_71
      have sz_s2_71 : h0.size ≤ s2_71 := Nat.le_trans K67.1 fz_s2_71
      have ne_b3_a2_71 : b3 ≠ a2_71 := Nat.ne_of_lt (Nat.lt_of_lt_of_le oldlt_71_b3 fz_a2_71)
      have ne_b28_a2_71 : b28 ≠ a2_71 := Nat.ne_of_lt (Nat.lt_of_lt_of_le oldlt_71_b28 fz_a2_71)
      have ne_aS_35_a2_71 : aS_35 ≠ a2_71 := Nat.ne_of_lt (Nat.lt_of_lt_of_le oldlt_71_aS_35 fz_a2_71)
      have ne_aA_35_a2_71 : aA_35 ≠ a2_71 := Nat.ne_of_lt (Nat.lt_of_lt_of_le oldlt_71_aA_35 fz_a2_71)
      have g_a2_71 : n0 ≤ a2_71 := Nat.le_trans Z67 fz_a2_71
      have sz_a2_71 : h0.size ≤ a2_71 := Nat.le_trans K67.1 fz_a2_71
      have K71 : Keep h0 T71.heap [] := Keep.trans K67 Kq71 (allS (Or.inr sz_b28) all0)
      have Z71 : n0 ≤ T71.heap.size := Nat.le_trans Z0 K71.1
      have N71 := Fr.app N67 N71q
      have hA8 : own_AP 16 sl1_71 al1_71 o1_71 c1_71 (own_Qn x8 ss 8) := ph71_0
      refine Go.step (T' := T71) (f' := (mkF m 382 #[.val (.long p1), .second, .val (.long p2), .second, .val (.long p3), .second, .val (.long p4), .second, .val (.long x8), .second, .val (.long x10), .second, .val (.ref b3), .val (.long x13), .second, .val (.int x15), .val (.int x16), .val (.long t0), .second, .val (.ref b28), .unset, .unset, .unset, .unset] [])) (fun t kt => ?_) ?_
      · show Steps p.tables e below (T67.setTop (mkF m 379 #[.val (.long p1), .second, .val (.long p2), .second, .val (.long p3), .second, .val (.long p4), .second, .val (.long x8), .second, .val (.long x10), .second, .val (.ref b3), .val (.long x13), .second, .val (.int x15), .val (.int x16), .val (.long t0), .second, .val (.ref b28), .unset, .unset, .unset, .unset] [(.long (ss.getD 8 (0 : Int64))), (.ref b28)])) _
        refine st71.trans ?_
        exact kt
      exact S382 _ _ _ _ X71 (Nat.le_trans (Nat.add_le_add_right (Nat.add_le_add_right (Nat.add_le_add_right (Nat.add_le_add_right (Nat.add_le_add_right (Nat.add_le_add_right (Nat.add_le_add_right (Nat.add_le_add_right (Nat.add_le_add_right (Nat.add_le_add_right (Nat.add_le_add_right hcl 1) 2) 0) 0) 0) 0) 0) 0) 0) 0) 2) (by decide)) (Nat.le_trans (Nat.add_le_add_right (Nat.add_le_add_right (Nat.add_le_add_right (Nat.add_le_add_right (Nat.add_le_add_right (Nat.add_le_add_right (Nat.add_le_add_right (Nat.add_le_add_right (Nat.add_le_add_right (Nat.add_le_add_right (Nat.add_le_add_right hsl 5) 16) 0) 0) 0) 0) 0) 0) 0) 0) 32) (by decide)) T71.heap rfl N71 x8 x10 x13 x15 x16 t0 b3 b28 s2_71 a2_71 ss c1_71 o1_71 sl1_71 al1_71 16 K71 G72 G73 pf71_1 pf71_2 pf71_0 pf71_4 pf71_3 pf71_5 pf71_6 g_b3 g_b28 g_s2_71 g_a2_71 sz_b3 sz_b28 sz_s2_71 sz_a2_71 ne_b3_b28 ne_b3_s2_71 ne_b28_s2_71 ne_b3_a2_71 ne_b28_a2_71 ne_s2_71_a2_71 hA8 hS h13 h15
    · have _ := hg379
      obtain ⟨cq76, kq76, q76a, q76b, q76c⟩ := isOf hZ rfl (G69 : Exa Z T67.heap b28 "com/example/talthybius/talthybius/AwaitedPings")
      obtain ⟨_, _, ⟨T76, L76, k76, n76⟩, -, X76, ⟨Lc76, hQ76, l76, y76, z76⟩, st76⟩ := X67.virtualBack hx (y := (⟨"com/example/talthybius/talthybius/AwaitedPings", "sent", "(J)V"⟩ : MethodName)) (z := (⟨"com/example/talthybius/talthybius/AwaitedPings", "sent", "(J)V"⟩ : MethodName)) hown (mvT hZ (hw _ (List.mem_of_getElem? (i := 25) rfl))) (mvT hZ (hw _ (List.mem_of_getElem? (i := 26) rfl))) (notFace_of_selects (args := #[]) (mvT hZ (hw _ (List.mem_of_getElem? (i := 28) rfl)))) (mvT hZ (hw _ (List.mem_of_getElem? (i := 28) rfl))) (mvT hZ (hw _ (List.mem_of_getElem? (i := 27) rfl))) (by decide) (backOf (W := 0) (rm_senN l Z a0 hw [] b28 (ss.getD 8 (0 : Int64)) aS_35 aA_35 x8 o1_67 c1_67 sl1_67 al1_67 8 (own_Qn x8 ss 7) T67.heap n0 Z67 G69 pf67_0 pf67_1 pf67_2 pf67_3 pf67_4 pf67_5 pf67_6 g_b28 g_aS_35 g_aA_35 ne_b28_aS_35 ne_b28_aA_35 ne_aS_35_aA_35 hA7 (own_hlt8 hl7 hg379)) hZ (hw _ (List.mem_of_getElem? (i := 29) rfl)) (hw _ (List.mem_of_getElem? (i := 11) rfl)) (by decide) (by decide)) q76a q76c (g := (mkF m 379 #[.val (.long p1), .second, .val (.long p2), .second, .val (.long p3), .second, .val (.long p4), .second, .val (.long x8), .second, .val (.long x10), .second, .val (.ref b3), .val (.long x13), .second, .val (.int x15), .val (.int x16), .val (.long t0), .second, .val (.ref b28), .unset, .unset, .unset, .unset] [(.long (ss.getD 8 (0 : Int64))), (.ref b28)])) rfl (by rw [hml]; rfl) (Steps.refl _) (argsL := [(.long (ss.getD 8 (0 : Int64)))]) (rest := []) (lenOf pd_1 rfl) rfl (by show 2 * 0 + _ ≤ _; exact Nat.le_of_eq rfl) (hb hby at_379) (fun _ _ => ⟨rfl, rfl, (Nat.le_trans (Nat.add_le_add_right (Nat.add_le_add_right (Nat.add_le_add_right (Nat.add_le_add_right (Nat.add_le_add_right (Nat.add_le_add_right (Nat.add_le_add_right (Nat.add_le_add_right (Nat.add_le_add_right (Nat.add_le_add_right (Nat.add_le_add_right hcl 1) 2) 0) 0) 0) 0) 0) 0) 0) 0) 0) (by decide)), (Nat.le_trans (Nat.add_le_add_right (Nat.add_le_add_right (Nat.add_le_add_right (Nat.add_le_add_right (Nat.add_le_add_right (Nat.add_le_add_right (Nat.add_le_add_right (Nat.add_le_add_right (Nat.add_le_add_right (Nat.add_le_add_right (Nat.add_le_add_right hsl 5) 16) 0) 0) 0) 0) 0) 0) 0) 0) 0) (by decide))⟩)
      dsimp only [Pt.U, Pt.locs, Pt.cells, Pt.slots] at X76 l76 y76 z76 st76 hQ76
      subst l76 y76 z76
      obtain ⟨o1_76, c1_76, sl1_76, al1_76, rfl, N76q, Kq76, pf76_0, pf76_1, pf76_2, pf76_3, pf76_4, pf76_5, pf76_6, ph76_0⟩ := hQ76
      have G77 : VA Z T76.heap b3 .long (ss.map Value.long) := G68.keep Kq76 (ninS ne_b3_b28 (ninS ne_b3_aS_35 (ninS ne_b3_aA_35 nin0)))
      have G78 : Exa Z T76.heap b28 "com/example/talthybius/talthybius/AwaitedPings" := Exa.keep G69 Kq76
      have K76 : Keep h0 T76.heap [] := Keep.trans K67 Kq76 (allS (Or.inr sz_b28) (allS (Or.inr sz_aS_35) (allS (Or.inr sz_aA_35) all0)))
      have Z76 : n0 ≤ T76.heap.size := Nat.le_trans Z0 K76.1
      have N76 := Fr.app N67 N76q
      have hA8 : own_AP 8 sl1_76 al1_76 o1_76 c1_76 (own_Qn x8 ss 8) := ph76_0
      refine Go.step (T' := T76) (f' := (mkF m 382 #[.val (.long p1), .second, .val (.long p2), .second, .val (.long p3), .second, .val (.long p4), .second, .val (.long x8), .second, .val (.long x10), .second, .val (.ref b3), .val (.long x13), .second, .val (.int x15), .val (.int x16), .val (.long t0), .second, .val (.ref b28), .unset, .unset, .unset, .unset] [])) (fun t kt => ?_) ?_
      · show Steps p.tables e below (T67.setTop (mkF m 379 #[.val (.long p1), .second, .val (.long p2), .second, .val (.long p3), .second, .val (.long p4), .second, .val (.long x8), .second, .val (.long x10), .second, .val (.ref b3), .val (.long x13), .second, .val (.int x15), .val (.int x16), .val (.long t0), .second, .val (.ref b28), .unset, .unset, .unset, .unset] [(.long (ss.getD 8 (0 : Int64))), (.ref b28)])) _
        refine st76.trans ?_
        exact kt
      exact S382 _ _ _ _ X76 (Nat.le_trans (Nat.add_le_add_right (Nat.add_le_add_right (Nat.add_le_add_right (Nat.add_le_add_right (Nat.add_le_add_right (Nat.add_le_add_right (Nat.add_le_add_right (Nat.add_le_add_right (Nat.add_le_add_right (Nat.add_le_add_right (Nat.add_le_add_right hcl 1) 2) 0) 0) 0) 0) 0) 0) 0) 0) 0) (by decide)) (Nat.le_trans (Nat.add_le_add_right (Nat.add_le_add_right (Nat.add_le_add_right (Nat.add_le_add_right (Nat.add_le_add_right (Nat.add_le_add_right (Nat.add_le_add_right (Nat.add_le_add_right (Nat.add_le_add_right (Nat.add_le_add_right (Nat.add_le_add_right hsl 5) 16) 0) 0) 0) 0) 0) 0) 0) 0) 0) (by decide)) T76.heap rfl N76 x8 x10 x13 x15 x16 t0 b3 b28 aS_35 aA_35 ss c1_76 o1_76 sl1_76 al1_76 8 K76 G77 G78 pf76_1 pf76_2 pf76_0 pf76_4 pf76_3 pf76_5 pf76_6 g_b3 g_b28 g_aS_35 g_aA_35 sz_b3 sz_b28 sz_aS_35 sz_aA_35 ne_b3_b28 ne_b3_aS_35 ne_b28_aS_35 ne_b3_aA_35 ne_b28_aA_35 ne_aS_35_aA_35 hA8 hS h13 h15
  have S247 : ∀ (T : State) (locs : List Loc) (cells slots : Nat) (X : Stand p l e room_1 s m #[(.long p1), (.long p2), (.long p3), (.long p4)] below meth c T locs cells slots) (hcl : cells ≤ 1) (hsl : slots ≤ 9) (h : Heap) (eT : T.heap = h) (N : Fr n0 locs) (x8 : Int64) (x10 : Int64) (x13 : Int64) (x15 : Int32) (x16 : Int32)  (b3 : Addr) (ss : List Int64) (K : Keep h0 h []) (fc0 : VA Z h b3 .long (ss.map Value.long)) (g_b3 : n0 ≤ b3) (sz_b3 : h0.size ≤ b3) (hS : own_SS 8 ss) (h13 : 0 ≤ x13.toInt - (ss.getD 8 0).toInt ∧ x13.toInt - (ss.getD 8 0).toInt ≤ 6000) (h15 : 0 ≤ x15.toInt ∧ x15.toInt ≤ 15) (h16 : 0 ≤ x16.toInt ∧ x16.toInt ≤ 15), Go p e below s (Q0 Z p1 p2 p3 p4 h0 n0) 24 192 T (mkF m 247 #[.val (.long p1), .second, .val (.long p2), .second, .val (.long p3), .second, .val (.long p4), .second, .val (.long x8), .second, .val (.long x10), .second, .val (.ref b3), .val (.long x13), .second, .val (.int x15), .val (.int x16), .unset, .unset, .unset, .unset, .unset, .unset, .unset] []) := by
    intro T locs cells slots X hcl hsl h eT N x8 x10 x13 x15 x16 b3 ss K fc0 g_b3 sz_b3 hS h13 h15 h16
    have Zh : n0 ≤ h.size := Nat.le_trans Z0 K.1
    refine Go.step (T' := T) (f' := (mkF m 251 #[.val (.long p1), .second, .val (.long p2), .second, .val (.long p3), .second, .val (.long p4), .second, .val (.long x8), .second, .val (.long x10), .second, .val (.ref b3), .val (.long x13), .second, .val (.int x15), .val (.int x16), .unset, .unset, .unset, .unset, .unset, .unset, .unset] [(.int (9 : Int32)), (.int x16)])) (fun t kt => ?_) ?_
    · show Steps p.tables e below (T.setTop (mkF m 247 #[.val (.long p1), .second, .val (.long p2), .second, .val (.long p3), .second, .val (.long p4), .second, .val (.long x8), .second, .val (.long x10), .second, .val (.ref b3), .val (.long x13), .second, .val (.int x15), .val (.int x16), .unset, .unset, .unset, .unset, .unset, .unset, .unset] [])) _
      refine XS.iload X.here hx rfl (hb hby at_247) rfl ?_
      show Steps p.tables e below (T.setTop (mkF m 249 #[.val (.long p1), .second, .val (.long p2), .second, .val (.long p3), .second, .val (.long p4), .second, .val (.long x8), .second, .val (.long x10), .second, .val (.ref b3), .val (.long x13), .second, .val (.int x15), .val (.int x16), .unset, .unset, .unset, .unset, .unset, .unset, .unset] [(.int x16)])) _
      refine XS.bipush X.here hx rfl (hb hby at_249) ?_
      exact kt
    by_cases hc79 : x16 < (9 : Int32)
    · have _ := hc79
      refine Go.step (T' := T) (f' := (mkF m 254 #[.val (.long p1), .second, .val (.long p2), .second, .val (.long p3), .second, .val (.long p4), .second, .val (.long x8), .second, .val (.long x10), .second, .val (.ref b3), .val (.long x13), .second, .val (.int x15), .val (.int x16), .unset, .unset, .unset, .unset, .unset, .unset, .unset] [])) (fun t kt => ?_) ?_
      · show Steps p.tables e below (T.setTop (mkF m 251 #[.val (.long p1), .second, .val (.long p2), .second, .val (.long p3), .second, .val (.long p4), .second, .val (.long x8), .second, .val (.long x10), .second, .val (.ref b3), .val (.long x13), .second, .val (.int x15), .val (.int x16), .unset, .unset, .unset, .unset, .unset, .unset, .unset] [(.int (9 : Int32)), (.int x16)])) _
        refine XS.icmpNo X.here hx rfl (hb hby at_251) rfl (tlt hc79).2.1 ?_
        exact kt
      have ix80 : 0 ≤ (x16).toInt ∧ (x16).toInt < ((ss).length : Int) := own_ixl hS ⟨h16.1, own_l9 (by assumption)⟩
      refine Go.step (T' := T) (f' := (mkF m 285 #[.val (.long p1), .second, .val (.long p2), .second, .val (.long p3), .second, .val (.long p4), .second, .val (.long x8), .second, .val (.long x10), .second, .val (.ref b3), .val (.long x13), .second, .val (.int x15), .val (.int x16), .unset, .unset, .unset, .unset, .unset, .unset, .unset] [(.long (ss.getD x16.toNatClampNeg (0 : Int64)))])) (fun t kt => ?_) ?_
      · show Steps p.tables e below (T.setTop (mkF m 254 #[.val (.long p1), .second, .val (.long p2), .second, .val (.long p3), .second, .val (.long p4), .second, .val (.long x8), .second, .val (.long x10), .second, .val (.ref b3), .val (.long x13), .second, .val (.int x15), .val (.int x16), .unset, .unset, .unset, .unset, .unset, .unset, .unset] [])) _
        refine XS.aload X.here hx rfl (hb hby at_254) rfl rfl ?_
        show Steps p.tables e below (T.setTop (mkF m 256 #[.val (.long p1), .second, .val (.long p2), .second, .val (.long p3), .second, .val (.long p4), .second, .val (.long x8), .second, .val (.long x10), .second, .val (.ref b3), .val (.long x13), .second, .val (.int x15), .val (.int x16), .unset, .unset, .unset, .unset, .unset, .unset, .unset] [(.ref b3)])) _
        refine XS.iload X.here hx rfl (hb hby at_256) rfl ?_
        show Steps p.tables e below (T.setTop (mkF m 258 #[.val (.long p1), .second, .val (.long p2), .second, .val (.long p3), .second, .val (.long p4), .second, .val (.long x8), .second, .val (.long x10), .second, .val (.ref b3), .val (.long x13), .second, .val (.int x15), .val (.int x16), .unset, .unset, .unset, .unset, .unset, .unset, .unset] [(.int x16), (.ref b3)])) _
        refine ldJ X hx hZ eT fc0 ix80.1 ix80.2 (g := (mkF m 258 #[.val (.long p1), .second, .val (.long p2), .second, .val (.long p3), .second, .val (.long p4), .second, .val (.long x8), .second, .val (.long x10), .second, .val (.ref b3), .val (.long x13), .second, .val (.int x15), .val (.int x16), .unset, .unset, .unset, .unset, .unset, .unset, .unset] [(.int x16), (.ref b3)])) rfl rfl (hb hby at_258) _ ?_
        show Steps p.tables e below (T.setTop (mkF m 259 #[.val (.long p1), .second, .val (.long p2), .second, .val (.long p3), .second, .val (.long p4), .second, .val (.long x8), .second, .val (.long x10), .second, .val (.ref b3), .val (.long x13), .second, .val (.int x15), .val (.int x16), .unset, .unset, .unset, .unset, .unset, .unset, .unset] [(.long (ss.getD x16.toNatClampNeg (0 : Int64)))])) _
        refine XS.goto X.here hx rfl (pc0 := 259) (pc' := 285) rfl (hb hby at_259) (by decide) (by decide) ?_
        exact kt
      exact S285 _ _ _ _ X (Nat.le_trans hcl (by decide)) (Nat.le_trans hsl (by decide)) h eT N x8 x10 x13 x15 x16 (ss.getD x16.toNatClampNeg (0 : Int64)) b3 ss K fc0 g_b3 sz_b3 hS h13 h15
    · have _ := hc79
      refine Go.step (T' := T) (f' := (mkF m 262 #[.val (.long p1), .second, .val (.long p2), .second, .val (.long p3), .second, .val (.long p4), .second, .val (.long x8), .second, .val (.long x10), .second, .val (.ref b3), .val (.long x13), .second, .val (.int x15), .val (.int x16), .unset, .unset, .unset, .unset, .unset, .unset, .unset] [])) (fun t kt => ?_) ?_
      · show Steps p.tables e below (T.setTop (mkF m 251 #[.val (.long p1), .second, .val (.long p2), .second, .val (.long p3), .second, .val (.long p4), .second, .val (.long x8), .second, .val (.long x10), .second, .val (.ref b3), .val (.long x13), .second, .val (.int x15), .val (.int x16), .unset, .unset, .unset, .unset, .unset, .unset, .unset] [(.int (9 : Int32)), (.int x16)])) _
        refine XS.icmpYes X.here hx rfl (pc0 := 251) (pc' := 262) rfl (hb hby at_251) rfl (flt hc79).2.1 (by decide) (by decide) ?_
        exact kt
      refine Go.step (T' := T) (f' := (mkF m 266 #[.val (.long p1), .second, .val (.long p2), .second, .val (.long p3), .second, .val (.long p4), .second, .val (.long x8), .second, .val (.long x10), .second, .val (.ref b3), .val (.long x13), .second, .val (.int x15), .val (.int x16), .unset, .unset, .unset, .unset, .unset, .unset, .unset] [(.int (13 : Int32)), (.int x16)])) (fun t kt => ?_) ?_
      · show Steps p.tables e below (T.setTop (mkF m 262 #[.val (.long p1), .second, .val (.long p2), .second, .val (.long p3), .second, .val (.long p4), .second, .val (.long x8), .second, .val (.long x10), .second, .val (.ref b3), .val (.long x13), .second, .val (.int x15), .val (.int x16), .unset, .unset, .unset, .unset, .unset, .unset, .unset] [])) _
        refine XS.iload X.here hx rfl (hb hby at_262) rfl ?_
        show Steps p.tables e below (T.setTop (mkF m 264 #[.val (.long p1), .second, .val (.long p2), .second, .val (.long p3), .second, .val (.long p4), .second, .val (.long x8), .second, .val (.long x10), .second, .val (.ref b3), .val (.long x13), .second, .val (.int x15), .val (.int x16), .unset, .unset, .unset, .unset, .unset, .unset, .unset] [(.int x16)])) _
        refine XS.bipush X.here hx rfl (hb hby at_264) ?_
        exact kt
      by_cases hc81 : x16 < (13 : Int32)
      · have _ := hc81
        refine Go.step (T' := T) (f' := (mkF m 269 #[.val (.long p1), .second, .val (.long p2), .second, .val (.long p3), .second, .val (.long p4), .second, .val (.long x8), .second, .val (.long x10), .second, .val (.ref b3), .val (.long x13), .second, .val (.int x15), .val (.int x16), .unset, .unset, .unset, .unset, .unset, .unset, .unset] [])) (fun t kt => ?_) ?_
        · show Steps p.tables e below (T.setTop (mkF m 266 #[.val (.long p1), .second, .val (.long p2), .second, .val (.long p3), .second, .val (.long p4), .second, .val (.long x8), .second, .val (.long x10), .second, .val (.ref b3), .val (.long x13), .second, .val (.int x15), .val (.int x16), .unset, .unset, .unset, .unset, .unset, .unset, .unset] [(.int (13 : Int32)), (.int x16)])) _
          refine XS.icmpNo X.here hx rfl (hb hby at_266) rfl (tlt hc81).2.1 ?_
          exact kt
        refine Go.step (T' := T) (f' := (mkF m 285 #[.val (.long p1), .second, .val (.long p2), .second, .val (.long p3), .second, .val (.long p4), .second, .val (.long x8), .second, .val (.long x10), .second, .val (.ref b3), .val (.long x13), .second, .val (.int x15), .val (.int x16), .unset, .unset, .unset, .unset, .unset, .unset, .unset] [(.long ((x10 - (1 : Int64)) + (p4 &&& (255 : Int64))))])) (fun t kt => ?_) ?_
        · show Steps p.tables e below (T.setTop (mkF m 269 #[.val (.long p1), .second, .val (.long p2), .second, .val (.long p3), .second, .val (.long p4), .second, .val (.long x8), .second, .val (.long x10), .second, .val (.ref b3), .val (.long x13), .second, .val (.int x15), .val (.int x16), .unset, .unset, .unset, .unset, .unset, .unset, .unset] [])) _
          refine XS.lload X.here hx rfl (hb hby at_269) rfl ?_
          show Steps p.tables e below (T.setTop (mkF m 271 #[.val (.long p1), .second, .val (.long p2), .second, .val (.long p3), .second, .val (.long p4), .second, .val (.long x8), .second, .val (.long x10), .second, .val (.ref b3), .val (.long x13), .second, .val (.int x15), .val (.int x16), .unset, .unset, .unset, .unset, .unset, .unset, .unset] [(.long x10)])) _
          refine XS.lconst X.here hx rfl (hb hby at_271) ?_
          show Steps p.tables e below (T.setTop (mkF m 272 #[.val (.long p1), .second, .val (.long p2), .second, .val (.long p3), .second, .val (.long p4), .second, .val (.long x8), .second, .val (.long x10), .second, .val (.ref b3), .val (.long x13), .second, .val (.int x15), .val (.int x16), .unset, .unset, .unset, .unset, .unset, .unset, .unset] [(.long (1 : Int64)), (.long x10)])) _
          refine XS.lsub X.here hx rfl (hb hby at_272) rfl ?_
          show Steps p.tables e below (T.setTop (mkF m 273 #[.val (.long p1), .second, .val (.long p2), .second, .val (.long p3), .second, .val (.long p4), .second, .val (.long x8), .second, .val (.long x10), .second, .val (.ref b3), .val (.long x13), .second, .val (.int x15), .val (.int x16), .unset, .unset, .unset, .unset, .unset, .unset, .unset] [(.long (x10 - (1 : Int64)))])) _
          refine XS.lload X.here hx rfl (hb hby at_273) rfl ?_
          show Steps p.tables e below (T.setTop (mkF m 275 #[.val (.long p1), .second, .val (.long p2), .second, .val (.long p3), .second, .val (.long p4), .second, .val (.long x8), .second, .val (.long x10), .second, .val (.ref b3), .val (.long x13), .second, .val (.int x15), .val (.int x16), .unset, .unset, .unset, .unset, .unset, .unset, .unset] [(.long p4), (.long (x10 - (1 : Int64)))])) _
          refine X.ldc2Long hx hown (mvT hZ (hw _ (List.mem_of_getElem? (i := 8) rfl))) (g := (mkF m 275 #[.val (.long p1), .second, .val (.long p2), .second, .val (.long p3), .second, .val (.long p4), .second, .val (.long x8), .second, .val (.long x10), .second, .val (.ref b3), .val (.long x13), .second, .val (.int x15), .val (.int x16), .unset, .unset, .unset, .unset, .unset, .unset, .unset] [(.long p4), (.long (x10 - (1 : Int64)))])) rfl (hb hby at_275) _ ?_
          show Steps p.tables e below (T.setTop (mkF m 278 #[.val (.long p1), .second, .val (.long p2), .second, .val (.long p3), .second, .val (.long p4), .second, .val (.long x8), .second, .val (.long x10), .second, .val (.ref b3), .val (.long x13), .second, .val (.int x15), .val (.int x16), .unset, .unset, .unset, .unset, .unset, .unset, .unset] [(.long (255 : Int64)), (.long p4), (.long (x10 - (1 : Int64)))])) _
          refine XS.land X.here hx rfl (hb hby at_278) rfl ?_
          show Steps p.tables e below (T.setTop (mkF m 279 #[.val (.long p1), .second, .val (.long p2), .second, .val (.long p3), .second, .val (.long p4), .second, .val (.long x8), .second, .val (.long x10), .second, .val (.ref b3), .val (.long x13), .second, .val (.int x15), .val (.int x16), .unset, .unset, .unset, .unset, .unset, .unset, .unset] [(.long (p4 &&& (255 : Int64))), (.long (x10 - (1 : Int64)))])) _
          refine XS.ladd X.here hx rfl (hb hby at_279) rfl ?_
          show Steps p.tables e below (T.setTop (mkF m 280 #[.val (.long p1), .second, .val (.long p2), .second, .val (.long p3), .second, .val (.long p4), .second, .val (.long x8), .second, .val (.long x10), .second, .val (.ref b3), .val (.long x13), .second, .val (.int x15), .val (.int x16), .unset, .unset, .unset, .unset, .unset, .unset, .unset] [(.long ((x10 - (1 : Int64)) + (p4 &&& (255 : Int64))))])) _
          refine XS.goto X.here hx rfl (pc0 := 280) (pc' := 285) rfl (hb hby at_280) (by decide) (by decide) ?_
          exact kt
        exact S285 _ _ _ _ X (Nat.le_trans hcl (by decide)) (Nat.le_trans hsl (by decide)) h eT N x8 x10 x13 x15 x16 ((x10 - (1 : Int64)) + (p4 &&& (255 : Int64))) b3 ss K fc0 g_b3 sz_b3 hS h13 h15
      · have _ := hc81
        refine Go.step (T' := T) (f' := (mkF m 283 #[.val (.long p1), .second, .val (.long p2), .second, .val (.long p3), .second, .val (.long p4), .second, .val (.long x8), .second, .val (.long x10), .second, .val (.ref b3), .val (.long x13), .second, .val (.int x15), .val (.int x16), .unset, .unset, .unset, .unset, .unset, .unset, .unset] [])) (fun t kt => ?_) ?_
        · show Steps p.tables e below (T.setTop (mkF m 266 #[.val (.long p1), .second, .val (.long p2), .second, .val (.long p3), .second, .val (.long p4), .second, .val (.long x8), .second, .val (.long x10), .second, .val (.ref b3), .val (.long x13), .second, .val (.int x15), .val (.int x16), .unset, .unset, .unset, .unset, .unset, .unset, .unset] [(.int (13 : Int32)), (.int x16)])) _
          refine XS.icmpYes X.here hx rfl (pc0 := 266) (pc' := 283) rfl (hb hby at_266) rfl (flt hc81).2.1 (by decide) (by decide) ?_
          exact kt
        refine Go.step (T' := T) (f' := (mkF m 285 #[.val (.long p1), .second, .val (.long p2), .second, .val (.long p3), .second, .val (.long p4), .second, .val (.long x8), .second, .val (.long x10), .second, .val (.ref b3), .val (.long x13), .second, .val (.int x15), .val (.int x16), .unset, .unset, .unset, .unset, .unset, .unset, .unset] [(.long p4)])) (fun t kt => ?_) ?_
        · show Steps p.tables e below (T.setTop (mkF m 283 #[.val (.long p1), .second, .val (.long p2), .second, .val (.long p3), .second, .val (.long p4), .second, .val (.long x8), .second, .val (.long x10), .second, .val (.ref b3), .val (.long x13), .second, .val (.int x15), .val (.int x16), .unset, .unset, .unset, .unset, .unset, .unset, .unset] [])) _
          refine XS.lload X.here hx rfl (hb hby at_283) rfl ?_
          exact kt
        exact S285 _ _ _ _ X (Nat.le_trans hcl (by decide)) (Nat.le_trans hsl (by decide)) h eT N x8 x10 x13 x15 x16 p4 b3 ss K fc0 g_b3 sz_b3 hS h13 h15
  have S33 : ∀ (T : State) (locs : List Loc) (cells slots : Nat) (X : Stand p l e room_1 s m #[(.long p1), (.long p2), (.long p3), (.long p4)] below meth c T locs cells slots) (hcl : cells ≤ 0) (hsl : slots ≤ 0) (h : Heap) (eT : T.heap = h) (N : Fr n0 locs) (x8 : Int64) (x10 : Int64)  (K : Keep h0 h []) (hB : x10.toInt ≤ 9223372036854767615), Go p e below s (Q0 Z p1 p2 p3 p4 h0 n0) 24 192 T (mkF m 33 #[.val (.long p1), .second, .val (.long p2), .second, .val (.long p3), .second, .val (.long p4), .second, .val (.long x8), .second, .val (.long x10), .second, .unset, .unset, .unset, .unset, .unset, .unset, .unset, .unset, .unset, .unset, .unset, .unset] []) := by
    intro T locs cells slots X hcl hsl h eT N x8 x10 K hB
    have Zh : n0 ≤ h.size := Nat.le_trans Z0 K.1
    obtain ⟨T82, h82, X82, e82, E82, A82, st82⟩ := newJ X hx hZ (hw _ (List.mem_of_getElem? (i := 6) rfl)) eT (g := (mkF m 35 #[.val (.long p1), .second, .val (.long p2), .second, .val (.long p3), .second, .val (.long p4), .second, .val (.long x8), .second, .val (.long x10), .second, .unset, .unset, .unset, .unset, .unset, .unset, .unset, .unset, .unset, .unset, .unset, .unset] [(.int (9 : Int32))])) rfl (hb hby at_35) rfl (by decide) (cap := 9) (by decide) (by decide) (Nat.le_trans (Nat.add_le_add_right hcl 1) (by decide)) (Nat.le_trans (Nat.add_le_add_right hsl 9) (by decide))
    obtain ⟨b82, g82⟩ : ∃ z, z = h.size := ⟨_, rfl⟩
    rw [← g82] at A82 st82
    have g_b82 : n0 ≤ b82 := Nat.le_trans Zh (Nat.le_of_eq g82.symm)
    have sz_b82 : h0.size ≤ b82 := Nat.le_trans K.1 (Nat.le_of_eq g82.symm)
    have K82 : Keep h0 h82 [] := Keep.ext K E82
    have Z82 : n0 ≤ h82.size := Nat.le_trans Z0 K82.1
    have G83 : VA Z h82 b82 .long ([(0 : Int64), (0 : Int64), (0 : Int64), (0 : Int64), (0 : Int64), (0 : Int64), (0 : Int64), (0 : Int64), (0 : Int64)].map Value.long) := A82
    have ix84 : 0 ≤ ((0 : Int32)).toInt ∧ ((0 : Int32)).toInt < (([(0 : Int64), (0 : Int64), (0 : Int64), (0 : Int64), (0 : Int64), (0 : Int64), (0 : Int64), (0 : Int64), (0 : Int64)]).length : Int) := by constructor <;> first | decide | (simp; done)
    obtain ⟨T85, h85, X85, e85, W85, V85, st85⟩ := putJ X82 hx hZ e82 G83 ix84.1 ix84.2 (g := (mkF m 44 #[.val (.long p1), .second, .val (.long p2), .second, .val (.long p3), .second, .val (.long p4), .second, .val (.long x8), .second, .val (.long x10), .second, .val (.ref b82), .unset, .unset, .unset, .unset, .unset, .unset, .unset, .unset, .unset, .unset, .unset] [(.long x10), (.int (0 : Int32)), (.ref b82)])) rfl rfl (hb hby at_44)
    have G86 : VA Z h85 b82 .long ([x10, (0 : Int64), (0 : Int64), (0 : Int64), (0 : Int64), (0 : Int64), (0 : Int64), (0 : Int64), (0 : Int64)].map Value.long) := V85
    have N85 := Fr.snoc X85 N g_b82
    have K85 : Keep h0 h85 [] := Keep.wr K82 W85 (Or.inr sz_b82)
    have Z85 : n0 ≤ h85.size := Nat.le_trans Z0 K85.1
    have ix87 : 0 ≤ ((0 : Int32)).toInt ∧ ((0 : Int32)).toInt < (([x10, (0 : Int64), (0 : Int64), (0 : Int64), (0 : Int64), (0 : Int64), (0 : Int64), (0 : Int64), (0 : Int64)]).length : Int) := by constructor <;> first | decide | (simp; done)
    have ix88 : 0 ≤ ((1 : Int32)).toInt ∧ ((1 : Int32)).toInt < (([x10, (0 : Int64), (0 : Int64), (0 : Int64), (0 : Int64), (0 : Int64), (0 : Int64), (0 : Int64), (0 : Int64)]).length : Int) := by constructor <;> first | decide | (simp; done)
    obtain ⟨T89, h89, X89, e89, W89, V89, st89⟩ := putJ X85 hx hZ e85 G86 ix88.1 ix88.2 (g := (mkF m 61 #[.val (.long p1), .second, .val (.long p2), .second, .val (.long p3), .second, .val (.long p4), .second, .val (.long x8), .second, .val (.long x10), .second, .val (.ref b82), .unset, .unset, .unset, .unset, .unset, .unset, .unset, .unset, .unset, .unset, .unset] [(.long ((x10 + (1 : Int64)) + (p3 &&& (15 : Int64)))), (.int (1 : Int32)), (.ref b82)])) rfl rfl (hb hby at_61)
    have G90 : VA Z h89 b82 .long ([x10, ((x10 + (1 : Int64)) + (p3 &&& (15 : Int64))), (0 : Int64), (0 : Int64), (0 : Int64), (0 : Int64), (0 : Int64), (0 : Int64), (0 : Int64)].map Value.long) := V89
    have N89 := Fr.snoc X89 N85 g_b82
    have K89 : Keep h0 h89 [] := Keep.wr K85 W89 (Or.inr sz_b82)
    have Z89 : n0 ≤ h89.size := Nat.le_trans Z0 K89.1
    have ix91 : 0 ≤ ((1 : Int32)).toInt ∧ ((1 : Int32)).toInt < (([x10, ((x10 + (1 : Int64)) + (p3 &&& (15 : Int64))), (0 : Int64), (0 : Int64), (0 : Int64), (0 : Int64), (0 : Int64), (0 : Int64), (0 : Int64)]).length : Int) := by constructor <;> first | decide | (simp; done)
    have ix92 : 0 ≤ ((2 : Int32)).toInt ∧ ((2 : Int32)).toInt < (([x10, ((x10 + (1 : Int64)) + (p3 &&& (15 : Int64))), (0 : Int64), (0 : Int64), (0 : Int64), (0 : Int64), (0 : Int64), (0 : Int64), (0 : Int64)]).length : Int) := by constructor <;> first | decide | (simp; done)
    obtain ⟨T93, h93, X93, e93, W93, V93, st93⟩ := putJ X89 hx hZ e89 G90 ix92.1 ix92.2 (g := (mkF m 80 #[.val (.long p1), .second, .val (.long p2), .second, .val (.long p3), .second, .val (.long p4), .second, .val (.long x8), .second, .val (.long x10), .second, .val (.ref b82), .unset, .unset, .unset, .unset, .unset, .unset, .unset, .unset, .unset, .unset, .unset] [(.long ((((x10 + (1 : Int64)) + (p3 &&& (15 : Int64))) + (1 : Int64)) + (((p3.toUInt64 >>> ((4 : Int32) &&& 0x3f).toInt64.toUInt64).toInt64) &&& (15 : Int64)))), (.int (2 : Int32)), (.ref b82)])) rfl rfl (hb hby at_80)
    have G94 : VA Z h93 b82 .long ([x10, ((x10 + (1 : Int64)) + (p3 &&& (15 : Int64))), ((((x10 + (1 : Int64)) + (p3 &&& (15 : Int64))) + (1 : Int64)) + (((p3.toUInt64 >>> ((4 : Int32) &&& 0x3f).toInt64.toUInt64).toInt64) &&& (15 : Int64))), (0 : Int64), (0 : Int64), (0 : Int64), (0 : Int64), (0 : Int64), (0 : Int64)].map Value.long) := V93
    have N93 := Fr.snoc X93 N89 g_b82
    have K93 : Keep h0 h93 [] := Keep.wr K89 W93 (Or.inr sz_b82)
    have Z93 : n0 ≤ h93.size := Nat.le_trans Z0 K93.1
    have ix95 : 0 ≤ ((2 : Int32)).toInt ∧ ((2 : Int32)).toInt < (([x10, ((x10 + (1 : Int64)) + (p3 &&& (15 : Int64))), ((((x10 + (1 : Int64)) + (p3 &&& (15 : Int64))) + (1 : Int64)) + (((p3.toUInt64 >>> ((4 : Int32) &&& 0x3f).toInt64.toUInt64).toInt64) &&& (15 : Int64))), (0 : Int64), (0 : Int64), (0 : Int64), (0 : Int64), (0 : Int64), (0 : Int64)]).length : Int) := by constructor <;> first | decide | (simp; done)
    have ix96 : 0 ≤ ((3 : Int32)).toInt ∧ ((3 : Int32)).toInt < (([x10, ((x10 + (1 : Int64)) + (p3 &&& (15 : Int64))), ((((x10 + (1 : Int64)) + (p3 &&& (15 : Int64))) + (1 : Int64)) + (((p3.toUInt64 >>> ((4 : Int32) &&& 0x3f).toInt64.toUInt64).toInt64) &&& (15 : Int64))), (0 : Int64), (0 : Int64), (0 : Int64), (0 : Int64), (0 : Int64), (0 : Int64)]).length : Int) := by constructor <;> first | decide | (simp; done)
    obtain ⟨T97, h97, X97, e97, W97, V97, st97⟩ := putJ X93 hx hZ e93 G94 ix96.1 ix96.2 (g := (mkF m 100 #[.val (.long p1), .second, .val (.long p2), .second, .val (.long p3), .second, .val (.long p4), .second, .val (.long x8), .second, .val (.long x10), .second, .val (.ref b82), .unset, .unset, .unset, .unset, .unset, .unset, .unset, .unset, .unset, .unset, .unset] [(.long ((((((x10 + (1 : Int64)) + (p3 &&& (15 : Int64))) + (1 : Int64)) + (((p3.toUInt64 >>> ((4 : Int32) &&& 0x3f).toInt64.toUInt64).toInt64) &&& (15 : Int64))) + (1 : Int64)) + (((p3.toUInt64 >>> ((8 : Int32) &&& 0x3f).toInt64.toUInt64).toInt64) &&& (15 : Int64)))), (.int (3 : Int32)), (.ref b82)])) rfl rfl (hb hby at_100)
    have G98 : VA Z h97 b82 .long ([x10, ((x10 + (1 : Int64)) + (p3 &&& (15 : Int64))), ((((x10 + (1 : Int64)) + (p3 &&& (15 : Int64))) + (1 : Int64)) + (((p3.toUInt64 >>> ((4 : Int32) &&& 0x3f).toInt64.toUInt64).toInt64) &&& (15 : Int64))), ((((((x10 + (1 : Int64)) + (p3 &&& (15 : Int64))) + (1 : Int64)) + (((p3.toUInt64 >>> ((4 : Int32) &&& 0x3f).toInt64.toUInt64).toInt64) &&& (15 : Int64))) + (1 : Int64)) + (((p3.toUInt64 >>> ((8 : Int32) &&& 0x3f).toInt64.toUInt64).toInt64) &&& (15 : Int64))), (0 : Int64), (0 : Int64), (0 : Int64), (0 : Int64), (0 : Int64)].map Value.long) := V97
    have N97 := Fr.snoc X97 N93 g_b82
    have K97 : Keep h0 h97 [] := Keep.wr K93 W97 (Or.inr sz_b82)
    have Z97 : n0 ≤ h97.size := Nat.le_trans Z0 K97.1
    have ix99 : 0 ≤ ((3 : Int32)).toInt ∧ ((3 : Int32)).toInt < (([x10, ((x10 + (1 : Int64)) + (p3 &&& (15 : Int64))), ((((x10 + (1 : Int64)) + (p3 &&& (15 : Int64))) + (1 : Int64)) + (((p3.toUInt64 >>> ((4 : Int32) &&& 0x3f).toInt64.toUInt64).toInt64) &&& (15 : Int64))), ((((((x10 + (1 : Int64)) + (p3 &&& (15 : Int64))) + (1 : Int64)) + (((p3.toUInt64 >>> ((4 : Int32) &&& 0x3f).toInt64.toUInt64).toInt64) &&& (15 : Int64))) + (1 : Int64)) + (((p3.toUInt64 >>> ((8 : Int32) &&& 0x3f).toInt64.toUInt64).toInt64) &&& (15 : Int64))), (0 : Int64), (0 : Int64), (0 : Int64), (0 : Int64), (0 : Int64)]).length : Int) := by constructor <;> first | decide | (simp; done)
    have ix100 : 0 ≤ ((4 : Int32)).toInt ∧ ((4 : Int32)).toInt < (([x10, ((x10 + (1 : Int64)) + (p3 &&& (15 : Int64))), ((((x10 + (1 : Int64)) + (p3 &&& (15 : Int64))) + (1 : Int64)) + (((p3.toUInt64 >>> ((4 : Int32) &&& 0x3f).toInt64.toUInt64).toInt64) &&& (15 : Int64))), ((((((x10 + (1 : Int64)) + (p3 &&& (15 : Int64))) + (1 : Int64)) + (((p3.toUInt64 >>> ((4 : Int32) &&& 0x3f).toInt64.toUInt64).toInt64) &&& (15 : Int64))) + (1 : Int64)) + (((p3.toUInt64 >>> ((8 : Int32) &&& 0x3f).toInt64.toUInt64).toInt64) &&& (15 : Int64))), (0 : Int64), (0 : Int64), (0 : Int64), (0 : Int64), (0 : Int64)]).length : Int) := by constructor <;> first | decide | (simp; done)
    obtain ⟨T101, h101, X101, e101, W101, V101, st101⟩ := putJ X97 hx hZ e97 G98 ix100.1 ix100.2 (g := (mkF m 120 #[.val (.long p1), .second, .val (.long p2), .second, .val (.long p3), .second, .val (.long p4), .second, .val (.long x8), .second, .val (.long x10), .second, .val (.ref b82), .unset, .unset, .unset, .unset, .unset, .unset, .unset, .unset, .unset, .unset, .unset] [(.long ((((((((x10 + (1 : Int64)) + (p3 &&& (15 : Int64))) + (1 : Int64)) + (((p3.toUInt64 >>> ((4 : Int32) &&& 0x3f).toInt64.toUInt64).toInt64) &&& (15 : Int64))) + (1 : Int64)) + (((p3.toUInt64 >>> ((8 : Int32) &&& 0x3f).toInt64.toUInt64).toInt64) &&& (15 : Int64))) + (1 : Int64)) + (((p3.toUInt64 >>> ((12 : Int32) &&& 0x3f).toInt64.toUInt64).toInt64) &&& (15 : Int64)))), (.int (4 : Int32)), (.ref b82)])) rfl rfl (hb hby at_120)
    have G102 : VA Z h101 b82 .long ([x10, ((x10 + (1 : Int64)) + (p3 &&& (15 : Int64))), ((((x10 + (1 : Int64)) + (p3 &&& (15 : Int64))) + (1 : Int64)) + (((p3.toUInt64 >>> ((4 : Int32) &&& 0x3f).toInt64.toUInt64).toInt64) &&& (15 : Int64))), ((((((x10 + (1 : Int64)) + (p3 &&& (15 : Int64))) + (1 : Int64)) + (((p3.toUInt64 >>> ((4 : Int32) &&& 0x3f).toInt64.toUInt64).toInt64) &&& (15 : Int64))) + (1 : Int64)) + (((p3.toUInt64 >>> ((8 : Int32) &&& 0x3f).toInt64.toUInt64).toInt64) &&& (15 : Int64))), ((((((((x10 + (1 : Int64)) + (p3 &&& (15 : Int64))) + (1 : Int64)) + (((p3.toUInt64 >>> ((4 : Int32) &&& 0x3f).toInt64.toUInt64).toInt64) &&& (15 : Int64))) + (1 : Int64)) + (((p3.toUInt64 >>> ((8 : Int32) &&& 0x3f).toInt64.toUInt64).toInt64) &&& (15 : Int64))) + (1 : Int64)) + (((p3.toUInt64 >>> ((12 : Int32) &&& 0x3f).toInt64.toUInt64).toInt64) &&& (15 : Int64))), (0 : Int64), (0 : Int64), (0 : Int64), (0 : Int64)].map Value.long) := V101
    have N101 := Fr.snoc X101 N97 g_b82
    have K101 : Keep h0 h101 [] := Keep.wr K97 W101 (Or.inr sz_b82)
    have Z101 : n0 ≤ h101.size := Nat.le_trans Z0 K101.1
    have ix103 : 0 ≤ ((4 : Int32)).toInt ∧ ((4 : Int32)).toInt < (([x10, ((x10 + (1 : Int64)) + (p3 &&& (15 : Int64))), ((((x10 + (1 : Int64)) + (p3 &&& (15 : Int64))) + (1 : Int64)) + (((p3.toUInt64 >>> ((4 : Int32) &&& 0x3f).toInt64.toUInt64).toInt64) &&& (15 : Int64))), ((((((x10 + (1 : Int64)) + (p3 &&& (15 : Int64))) + (1 : Int64)) + (((p3.toUInt64 >>> ((4 : Int32) &&& 0x3f).toInt64.toUInt64).toInt64) &&& (15 : Int64))) + (1 : Int64)) + (((p3.toUInt64 >>> ((8 : Int32) &&& 0x3f).toInt64.toUInt64).toInt64) &&& (15 : Int64))), ((((((((x10 + (1 : Int64)) + (p3 &&& (15 : Int64))) + (1 : Int64)) + (((p3.toUInt64 >>> ((4 : Int32) &&& 0x3f).toInt64.toUInt64).toInt64) &&& (15 : Int64))) + (1 : Int64)) + (((p3.toUInt64 >>> ((8 : Int32) &&& 0x3f).toInt64.toUInt64).toInt64) &&& (15 : Int64))) + (1 : Int64)) + (((p3.toUInt64 >>> ((12 : Int32) &&& 0x3f).toInt64.toUInt64).toInt64) &&& (15 : Int64))), (0 : Int64), (0 : Int64), (0 : Int64), (0 : Int64)]).length : Int) := by constructor <;> first | decide | (simp; done)
    have ix104 : 0 ≤ ((5 : Int32)).toInt ∧ ((5 : Int32)).toInt < (([x10, ((x10 + (1 : Int64)) + (p3 &&& (15 : Int64))), ((((x10 + (1 : Int64)) + (p3 &&& (15 : Int64))) + (1 : Int64)) + (((p3.toUInt64 >>> ((4 : Int32) &&& 0x3f).toInt64.toUInt64).toInt64) &&& (15 : Int64))), ((((((x10 + (1 : Int64)) + (p3 &&& (15 : Int64))) + (1 : Int64)) + (((p3.toUInt64 >>> ((4 : Int32) &&& 0x3f).toInt64.toUInt64).toInt64) &&& (15 : Int64))) + (1 : Int64)) + (((p3.toUInt64 >>> ((8 : Int32) &&& 0x3f).toInt64.toUInt64).toInt64) &&& (15 : Int64))), ((((((((x10 + (1 : Int64)) + (p3 &&& (15 : Int64))) + (1 : Int64)) + (((p3.toUInt64 >>> ((4 : Int32) &&& 0x3f).toInt64.toUInt64).toInt64) &&& (15 : Int64))) + (1 : Int64)) + (((p3.toUInt64 >>> ((8 : Int32) &&& 0x3f).toInt64.toUInt64).toInt64) &&& (15 : Int64))) + (1 : Int64)) + (((p3.toUInt64 >>> ((12 : Int32) &&& 0x3f).toInt64.toUInt64).toInt64) &&& (15 : Int64))), (0 : Int64), (0 : Int64), (0 : Int64), (0 : Int64)]).length : Int) := by constructor <;> first | decide | (simp; done)
    obtain ⟨T105, h105, X105, e105, W105, V105, st105⟩ := putJ X101 hx hZ e101 G102 ix104.1 ix104.2 (g := (mkF m 140 #[.val (.long p1), .second, .val (.long p2), .second, .val (.long p3), .second, .val (.long p4), .second, .val (.long x8), .second, .val (.long x10), .second, .val (.ref b82), .unset, .unset, .unset, .unset, .unset, .unset, .unset, .unset, .unset, .unset, .unset] [(.long ((((((((((x10 + (1 : Int64)) + (p3 &&& (15 : Int64))) + (1 : Int64)) + (((p3.toUInt64 >>> ((4 : Int32) &&& 0x3f).toInt64.toUInt64).toInt64) &&& (15 : Int64))) + (1 : Int64)) + (((p3.toUInt64 >>> ((8 : Int32) &&& 0x3f).toInt64.toUInt64).toInt64) &&& (15 : Int64))) + (1 : Int64)) + (((p3.toUInt64 >>> ((12 : Int32) &&& 0x3f).toInt64.toUInt64).toInt64) &&& (15 : Int64))) + (1 : Int64)) + (((p3.toUInt64 >>> ((16 : Int32) &&& 0x3f).toInt64.toUInt64).toInt64) &&& (15 : Int64)))), (.int (5 : Int32)), (.ref b82)])) rfl rfl (hb hby at_140)
    have G106 : VA Z h105 b82 .long ([x10, ((x10 + (1 : Int64)) + (p3 &&& (15 : Int64))), ((((x10 + (1 : Int64)) + (p3 &&& (15 : Int64))) + (1 : Int64)) + (((p3.toUInt64 >>> ((4 : Int32) &&& 0x3f).toInt64.toUInt64).toInt64) &&& (15 : Int64))), ((((((x10 + (1 : Int64)) + (p3 &&& (15 : Int64))) + (1 : Int64)) + (((p3.toUInt64 >>> ((4 : Int32) &&& 0x3f).toInt64.toUInt64).toInt64) &&& (15 : Int64))) + (1 : Int64)) + (((p3.toUInt64 >>> ((8 : Int32) &&& 0x3f).toInt64.toUInt64).toInt64) &&& (15 : Int64))), ((((((((x10 + (1 : Int64)) + (p3 &&& (15 : Int64))) + (1 : Int64)) + (((p3.toUInt64 >>> ((4 : Int32) &&& 0x3f).toInt64.toUInt64).toInt64) &&& (15 : Int64))) + (1 : Int64)) + (((p3.toUInt64 >>> ((8 : Int32) &&& 0x3f).toInt64.toUInt64).toInt64) &&& (15 : Int64))) + (1 : Int64)) + (((p3.toUInt64 >>> ((12 : Int32) &&& 0x3f).toInt64.toUInt64).toInt64) &&& (15 : Int64))), ((((((((((x10 + (1 : Int64)) + (p3 &&& (15 : Int64))) + (1 : Int64)) + (((p3.toUInt64 >>> ((4 : Int32) &&& 0x3f).toInt64.toUInt64).toInt64) &&& (15 : Int64))) + (1 : Int64)) + (((p3.toUInt64 >>> ((8 : Int32) &&& 0x3f).toInt64.toUInt64).toInt64) &&& (15 : Int64))) + (1 : Int64)) + (((p3.toUInt64 >>> ((12 : Int32) &&& 0x3f).toInt64.toUInt64).toInt64) &&& (15 : Int64))) + (1 : Int64)) + (((p3.toUInt64 >>> ((16 : Int32) &&& 0x3f).toInt64.toUInt64).toInt64) &&& (15 : Int64))), (0 : Int64), (0 : Int64), (0 : Int64)].map Value.long) := V105
    have N105 := Fr.snoc X105 N101 g_b82
    have K105 : Keep h0 h105 [] := Keep.wr K101 W105 (Or.inr sz_b82)
    have Z105 : n0 ≤ h105.size := Nat.le_trans Z0 K105.1
    have ix107 : 0 ≤ ((5 : Int32)).toInt ∧ ((5 : Int32)).toInt < (([x10, ((x10 + (1 : Int64)) + (p3 &&& (15 : Int64))), ((((x10 + (1 : Int64)) + (p3 &&& (15 : Int64))) + (1 : Int64)) + (((p3.toUInt64 >>> ((4 : Int32) &&& 0x3f).toInt64.toUInt64).toInt64) &&& (15 : Int64))), ((((((x10 + (1 : Int64)) + (p3 &&& (15 : Int64))) + (1 : Int64)) + (((p3.toUInt64 >>> ((4 : Int32) &&& 0x3f).toInt64.toUInt64).toInt64) &&& (15 : Int64))) + (1 : Int64)) + (((p3.toUInt64 >>> ((8 : Int32) &&& 0x3f).toInt64.toUInt64).toInt64) &&& (15 : Int64))), ((((((((x10 + (1 : Int64)) + (p3 &&& (15 : Int64))) + (1 : Int64)) + (((p3.toUInt64 >>> ((4 : Int32) &&& 0x3f).toInt64.toUInt64).toInt64) &&& (15 : Int64))) + (1 : Int64)) + (((p3.toUInt64 >>> ((8 : Int32) &&& 0x3f).toInt64.toUInt64).toInt64) &&& (15 : Int64))) + (1 : Int64)) + (((p3.toUInt64 >>> ((12 : Int32) &&& 0x3f).toInt64.toUInt64).toInt64) &&& (15 : Int64))), ((((((((((x10 + (1 : Int64)) + (p3 &&& (15 : Int64))) + (1 : Int64)) + (((p3.toUInt64 >>> ((4 : Int32) &&& 0x3f).toInt64.toUInt64).toInt64) &&& (15 : Int64))) + (1 : Int64)) + (((p3.toUInt64 >>> ((8 : Int32) &&& 0x3f).toInt64.toUInt64).toInt64) &&& (15 : Int64))) + (1 : Int64)) + (((p3.toUInt64 >>> ((12 : Int32) &&& 0x3f).toInt64.toUInt64).toInt64) &&& (15 : Int64))) + (1 : Int64)) + (((p3.toUInt64 >>> ((16 : Int32) &&& 0x3f).toInt64.toUInt64).toInt64) &&& (15 : Int64))), (0 : Int64), (0 : Int64), (0 : Int64)]).length : Int) := by constructor <;> first | decide | (simp; done)
    have ix108 : 0 ≤ ((6 : Int32)).toInt ∧ ((6 : Int32)).toInt < (([x10, ((x10 + (1 : Int64)) + (p3 &&& (15 : Int64))), ((((x10 + (1 : Int64)) + (p3 &&& (15 : Int64))) + (1 : Int64)) + (((p3.toUInt64 >>> ((4 : Int32) &&& 0x3f).toInt64.toUInt64).toInt64) &&& (15 : Int64))), ((((((x10 + (1 : Int64)) + (p3 &&& (15 : Int64))) + (1 : Int64)) + (((p3.toUInt64 >>> ((4 : Int32) &&& 0x3f).toInt64.toUInt64).toInt64) &&& (15 : Int64))) + (1 : Int64)) + (((p3.toUInt64 >>> ((8 : Int32) &&& 0x3f).toInt64.toUInt64).toInt64) &&& (15 : Int64))), ((((((((x10 + (1 : Int64)) + (p3 &&& (15 : Int64))) + (1 : Int64)) + (((p3.toUInt64 >>> ((4 : Int32) &&& 0x3f).toInt64.toUInt64).toInt64) &&& (15 : Int64))) + (1 : Int64)) + (((p3.toUInt64 >>> ((8 : Int32) &&& 0x3f).toInt64.toUInt64).toInt64) &&& (15 : Int64))) + (1 : Int64)) + (((p3.toUInt64 >>> ((12 : Int32) &&& 0x3f).toInt64.toUInt64).toInt64) &&& (15 : Int64))), ((((((((((x10 + (1 : Int64)) + (p3 &&& (15 : Int64))) + (1 : Int64)) + (((p3.toUInt64 >>> ((4 : Int32) &&& 0x3f).toInt64.toUInt64).toInt64) &&& (15 : Int64))) + (1 : Int64)) + (((p3.toUInt64 >>> ((8 : Int32) &&& 0x3f).toInt64.toUInt64).toInt64) &&& (15 : Int64))) + (1 : Int64)) + (((p3.toUInt64 >>> ((12 : Int32) &&& 0x3f).toInt64.toUInt64).toInt64) &&& (15 : Int64))) + (1 : Int64)) + (((p3.toUInt64 >>> ((16 : Int32) &&& 0x3f).toInt64.toUInt64).toInt64) &&& (15 : Int64))), (0 : Int64), (0 : Int64), (0 : Int64)]).length : Int) := by constructor <;> first | decide | (simp; done)
    obtain ⟨T109, h109, X109, e109, W109, V109, st109⟩ := putJ X105 hx hZ e105 G106 ix108.1 ix108.2 (g := (mkF m 161 #[.val (.long p1), .second, .val (.long p2), .second, .val (.long p3), .second, .val (.long p4), .second, .val (.long x8), .second, .val (.long x10), .second, .val (.ref b82), .unset, .unset, .unset, .unset, .unset, .unset, .unset, .unset, .unset, .unset, .unset] [(.long ((((((((((((x10 + (1 : Int64)) + (p3 &&& (15 : Int64))) + (1 : Int64)) + (((p3.toUInt64 >>> ((4 : Int32) &&& 0x3f).toInt64.toUInt64).toInt64) &&& (15 : Int64))) + (1 : Int64)) + (((p3.toUInt64 >>> ((8 : Int32) &&& 0x3f).toInt64.toUInt64).toInt64) &&& (15 : Int64))) + (1 : Int64)) + (((p3.toUInt64 >>> ((12 : Int32) &&& 0x3f).toInt64.toUInt64).toInt64) &&& (15 : Int64))) + (1 : Int64)) + (((p3.toUInt64 >>> ((16 : Int32) &&& 0x3f).toInt64.toUInt64).toInt64) &&& (15 : Int64))) + (1 : Int64)) + (((p3.toUInt64 >>> ((20 : Int32) &&& 0x3f).toInt64.toUInt64).toInt64) &&& (15 : Int64)))), (.int (6 : Int32)), (.ref b82)])) rfl rfl (hb hby at_161)
    have G110 : VA Z h109 b82 .long ([x10, ((x10 + (1 : Int64)) + (p3 &&& (15 : Int64))), ((((x10 + (1 : Int64)) + (p3 &&& (15 : Int64))) + (1 : Int64)) + (((p3.toUInt64 >>> ((4 : Int32) &&& 0x3f).toInt64.toUInt64).toInt64) &&& (15 : Int64))), ((((((x10 + (1 : Int64)) + (p3 &&& (15 : Int64))) + (1 : Int64)) + (((p3.toUInt64 >>> ((4 : Int32) &&& 0x3f).toInt64.toUInt64).toInt64) &&& (15 : Int64))) + (1 : Int64)) + (((p3.toUInt64 >>> ((8 : Int32) &&& 0x3f).toInt64.toUInt64).toInt64) &&& (15 : Int64))), ((((((((x10 + (1 : Int64)) + (p3 &&& (15 : Int64))) + (1 : Int64)) + (((p3.toUInt64 >>> ((4 : Int32) &&& 0x3f).toInt64.toUInt64).toInt64) &&& (15 : Int64))) + (1 : Int64)) + (((p3.toUInt64 >>> ((8 : Int32) &&& 0x3f).toInt64.toUInt64).toInt64) &&& (15 : Int64))) + (1 : Int64)) + (((p3.toUInt64 >>> ((12 : Int32) &&& 0x3f).toInt64.toUInt64).toInt64) &&& (15 : Int64))), ((((((((((x10 + (1 : Int64)) + (p3 &&& (15 : Int64))) + (1 : Int64)) + (((p3.toUInt64 >>> ((4 : Int32) &&& 0x3f).toInt64.toUInt64).toInt64) &&& (15 : Int64))) + (1 : Int64)) + (((p3.toUInt64 >>> ((8 : Int32) &&& 0x3f).toInt64.toUInt64).toInt64) &&& (15 : Int64))) + (1 : Int64)) + (((p3.toUInt64 >>> ((12 : Int32) &&& 0x3f).toInt64.toUInt64).toInt64) &&& (15 : Int64))) + (1 : Int64)) + (((p3.toUInt64 >>> ((16 : Int32) &&& 0x3f).toInt64.toUInt64).toInt64) &&& (15 : Int64))), ((((((((((((x10 + (1 : Int64)) + (p3 &&& (15 : Int64))) + (1 : Int64)) + (((p3.toUInt64 >>> ((4 : Int32) &&& 0x3f).toInt64.toUInt64).toInt64) &&& (15 : Int64))) + (1 : Int64)) + (((p3.toUInt64 >>> ((8 : Int32) &&& 0x3f).toInt64.toUInt64).toInt64) &&& (15 : Int64))) + (1 : Int64)) + (((p3.toUInt64 >>> ((12 : Int32) &&& 0x3f).toInt64.toUInt64).toInt64) &&& (15 : Int64))) + (1 : Int64)) + (((p3.toUInt64 >>> ((16 : Int32) &&& 0x3f).toInt64.toUInt64).toInt64) &&& (15 : Int64))) + (1 : Int64)) + (((p3.toUInt64 >>> ((20 : Int32) &&& 0x3f).toInt64.toUInt64).toInt64) &&& (15 : Int64))), (0 : Int64), (0 : Int64)].map Value.long) := V109
    have N109 := Fr.snoc X109 N105 g_b82
    have K109 : Keep h0 h109 [] := Keep.wr K105 W109 (Or.inr sz_b82)
    have Z109 : n0 ≤ h109.size := Nat.le_trans Z0 K109.1
    have ix111 : 0 ≤ ((6 : Int32)).toInt ∧ ((6 : Int32)).toInt < (([x10, ((x10 + (1 : Int64)) + (p3 &&& (15 : Int64))), ((((x10 + (1 : Int64)) + (p3 &&& (15 : Int64))) + (1 : Int64)) + (((p3.toUInt64 >>> ((4 : Int32) &&& 0x3f).toInt64.toUInt64).toInt64) &&& (15 : Int64))), ((((((x10 + (1 : Int64)) + (p3 &&& (15 : Int64))) + (1 : Int64)) + (((p3.toUInt64 >>> ((4 : Int32) &&& 0x3f).toInt64.toUInt64).toInt64) &&& (15 : Int64))) + (1 : Int64)) + (((p3.toUInt64 >>> ((8 : Int32) &&& 0x3f).toInt64.toUInt64).toInt64) &&& (15 : Int64))), ((((((((x10 + (1 : Int64)) + (p3 &&& (15 : Int64))) + (1 : Int64)) + (((p3.toUInt64 >>> ((4 : Int32) &&& 0x3f).toInt64.toUInt64).toInt64) &&& (15 : Int64))) + (1 : Int64)) + (((p3.toUInt64 >>> ((8 : Int32) &&& 0x3f).toInt64.toUInt64).toInt64) &&& (15 : Int64))) + (1 : Int64)) + (((p3.toUInt64 >>> ((12 : Int32) &&& 0x3f).toInt64.toUInt64).toInt64) &&& (15 : Int64))), ((((((((((x10 + (1 : Int64)) + (p3 &&& (15 : Int64))) + (1 : Int64)) + (((p3.toUInt64 >>> ((4 : Int32) &&& 0x3f).toInt64.toUInt64).toInt64) &&& (15 : Int64))) + (1 : Int64)) + (((p3.toUInt64 >>> ((8 : Int32) &&& 0x3f).toInt64.toUInt64).toInt64) &&& (15 : Int64))) + (1 : Int64)) + (((p3.toUInt64 >>> ((12 : Int32) &&& 0x3f).toInt64.toUInt64).toInt64) &&& (15 : Int64))) + (1 : Int64)) + (((p3.toUInt64 >>> ((16 : Int32) &&& 0x3f).toInt64.toUInt64).toInt64) &&& (15 : Int64))), ((((((((((((x10 + (1 : Int64)) + (p3 &&& (15 : Int64))) + (1 : Int64)) + (((p3.toUInt64 >>> ((4 : Int32) &&& 0x3f).toInt64.toUInt64).toInt64) &&& (15 : Int64))) + (1 : Int64)) + (((p3.toUInt64 >>> ((8 : Int32) &&& 0x3f).toInt64.toUInt64).toInt64) &&& (15 : Int64))) + (1 : Int64)) + (((p3.toUInt64 >>> ((12 : Int32) &&& 0x3f).toInt64.toUInt64).toInt64) &&& (15 : Int64))) + (1 : Int64)) + (((p3.toUInt64 >>> ((16 : Int32) &&& 0x3f).toInt64.toUInt64).toInt64) &&& (15 : Int64))) + (1 : Int64)) + (((p3.toUInt64 >>> ((20 : Int32) &&& 0x3f).toInt64.toUInt64).toInt64) &&& (15 : Int64))), (0 : Int64), (0 : Int64)]).length : Int) := by constructor <;> first | decide | (simp; done)
    have ix112 : 0 ≤ ((7 : Int32)).toInt ∧ ((7 : Int32)).toInt < (([x10, ((x10 + (1 : Int64)) + (p3 &&& (15 : Int64))), ((((x10 + (1 : Int64)) + (p3 &&& (15 : Int64))) + (1 : Int64)) + (((p3.toUInt64 >>> ((4 : Int32) &&& 0x3f).toInt64.toUInt64).toInt64) &&& (15 : Int64))), ((((((x10 + (1 : Int64)) + (p3 &&& (15 : Int64))) + (1 : Int64)) + (((p3.toUInt64 >>> ((4 : Int32) &&& 0x3f).toInt64.toUInt64).toInt64) &&& (15 : Int64))) + (1 : Int64)) + (((p3.toUInt64 >>> ((8 : Int32) &&& 0x3f).toInt64.toUInt64).toInt64) &&& (15 : Int64))), ((((((((x10 + (1 : Int64)) + (p3 &&& (15 : Int64))) + (1 : Int64)) + (((p3.toUInt64 >>> ((4 : Int32) &&& 0x3f).toInt64.toUInt64).toInt64) &&& (15 : Int64))) + (1 : Int64)) + (((p3.toUInt64 >>> ((8 : Int32) &&& 0x3f).toInt64.toUInt64).toInt64) &&& (15 : Int64))) + (1 : Int64)) + (((p3.toUInt64 >>> ((12 : Int32) &&& 0x3f).toInt64.toUInt64).toInt64) &&& (15 : Int64))), ((((((((((x10 + (1 : Int64)) + (p3 &&& (15 : Int64))) + (1 : Int64)) + (((p3.toUInt64 >>> ((4 : Int32) &&& 0x3f).toInt64.toUInt64).toInt64) &&& (15 : Int64))) + (1 : Int64)) + (((p3.toUInt64 >>> ((8 : Int32) &&& 0x3f).toInt64.toUInt64).toInt64) &&& (15 : Int64))) + (1 : Int64)) + (((p3.toUInt64 >>> ((12 : Int32) &&& 0x3f).toInt64.toUInt64).toInt64) &&& (15 : Int64))) + (1 : Int64)) + (((p3.toUInt64 >>> ((16 : Int32) &&& 0x3f).toInt64.toUInt64).toInt64) &&& (15 : Int64))), ((((((((((((x10 + (1 : Int64)) + (p3 &&& (15 : Int64))) + (1 : Int64)) + (((p3.toUInt64 >>> ((4 : Int32) &&& 0x3f).toInt64.toUInt64).toInt64) &&& (15 : Int64))) + (1 : Int64)) + (((p3.toUInt64 >>> ((8 : Int32) &&& 0x3f).toInt64.toUInt64).toInt64) &&& (15 : Int64))) + (1 : Int64)) + (((p3.toUInt64 >>> ((12 : Int32) &&& 0x3f).toInt64.toUInt64).toInt64) &&& (15 : Int64))) + (1 : Int64)) + (((p3.toUInt64 >>> ((16 : Int32) &&& 0x3f).toInt64.toUInt64).toInt64) &&& (15 : Int64))) + (1 : Int64)) + (((p3.toUInt64 >>> ((20 : Int32) &&& 0x3f).toInt64.toUInt64).toInt64) &&& (15 : Int64))), (0 : Int64), (0 : Int64)]).length : Int) := by constructor <;> first | decide | (simp; done)
    obtain ⟨T113, h113, X113, e113, W113, V113, st113⟩ := putJ X109 hx hZ e109 G110 ix112.1 ix112.2 (g := (mkF m 183 #[.val (.long p1), .second, .val (.long p2), .second, .val (.long p3), .second, .val (.long p4), .second, .val (.long x8), .second, .val (.long x10), .second, .val (.ref b82), .unset, .unset, .unset, .unset, .unset, .unset, .unset, .unset, .unset, .unset, .unset] [(.long ((((((((((((((x10 + (1 : Int64)) + (p3 &&& (15 : Int64))) + (1 : Int64)) + (((p3.toUInt64 >>> ((4 : Int32) &&& 0x3f).toInt64.toUInt64).toInt64) &&& (15 : Int64))) + (1 : Int64)) + (((p3.toUInt64 >>> ((8 : Int32) &&& 0x3f).toInt64.toUInt64).toInt64) &&& (15 : Int64))) + (1 : Int64)) + (((p3.toUInt64 >>> ((12 : Int32) &&& 0x3f).toInt64.toUInt64).toInt64) &&& (15 : Int64))) + (1 : Int64)) + (((p3.toUInt64 >>> ((16 : Int32) &&& 0x3f).toInt64.toUInt64).toInt64) &&& (15 : Int64))) + (1 : Int64)) + (((p3.toUInt64 >>> ((20 : Int32) &&& 0x3f).toInt64.toUInt64).toInt64) &&& (15 : Int64))) + (1 : Int64)) + (((p3.toUInt64 >>> ((24 : Int32) &&& 0x3f).toInt64.toUInt64).toInt64) &&& (15 : Int64)))), (.int (7 : Int32)), (.ref b82)])) rfl rfl (hb hby at_183)
    have G114 : VA Z h113 b82 .long ([x10, ((x10 + (1 : Int64)) + (p3 &&& (15 : Int64))), ((((x10 + (1 : Int64)) + (p3 &&& (15 : Int64))) + (1 : Int64)) + (((p3.toUInt64 >>> ((4 : Int32) &&& 0x3f).toInt64.toUInt64).toInt64) &&& (15 : Int64))), ((((((x10 + (1 : Int64)) + (p3 &&& (15 : Int64))) + (1 : Int64)) + (((p3.toUInt64 >>> ((4 : Int32) &&& 0x3f).toInt64.toUInt64).toInt64) &&& (15 : Int64))) + (1 : Int64)) + (((p3.toUInt64 >>> ((8 : Int32) &&& 0x3f).toInt64.toUInt64).toInt64) &&& (15 : Int64))), ((((((((x10 + (1 : Int64)) + (p3 &&& (15 : Int64))) + (1 : Int64)) + (((p3.toUInt64 >>> ((4 : Int32) &&& 0x3f).toInt64.toUInt64).toInt64) &&& (15 : Int64))) + (1 : Int64)) + (((p3.toUInt64 >>> ((8 : Int32) &&& 0x3f).toInt64.toUInt64).toInt64) &&& (15 : Int64))) + (1 : Int64)) + (((p3.toUInt64 >>> ((12 : Int32) &&& 0x3f).toInt64.toUInt64).toInt64) &&& (15 : Int64))), ((((((((((x10 + (1 : Int64)) + (p3 &&& (15 : Int64))) + (1 : Int64)) + (((p3.toUInt64 >>> ((4 : Int32) &&& 0x3f).toInt64.toUInt64).toInt64) &&& (15 : Int64))) + (1 : Int64)) + (((p3.toUInt64 >>> ((8 : Int32) &&& 0x3f).toInt64.toUInt64).toInt64) &&& (15 : Int64))) + (1 : Int64)) + (((p3.toUInt64 >>> ((12 : Int32) &&& 0x3f).toInt64.toUInt64).toInt64) &&& (15 : Int64))) + (1 : Int64)) + (((p3.toUInt64 >>> ((16 : Int32) &&& 0x3f).toInt64.toUInt64).toInt64) &&& (15 : Int64))), ((((((((((((x10 + (1 : Int64)) + (p3 &&& (15 : Int64))) + (1 : Int64)) + (((p3.toUInt64 >>> ((4 : Int32) &&& 0x3f).toInt64.toUInt64).toInt64) &&& (15 : Int64))) + (1 : Int64)) + (((p3.toUInt64 >>> ((8 : Int32) &&& 0x3f).toInt64.toUInt64).toInt64) &&& (15 : Int64))) + (1 : Int64)) + (((p3.toUInt64 >>> ((12 : Int32) &&& 0x3f).toInt64.toUInt64).toInt64) &&& (15 : Int64))) + (1 : Int64)) + (((p3.toUInt64 >>> ((16 : Int32) &&& 0x3f).toInt64.toUInt64).toInt64) &&& (15 : Int64))) + (1 : Int64)) + (((p3.toUInt64 >>> ((20 : Int32) &&& 0x3f).toInt64.toUInt64).toInt64) &&& (15 : Int64))), ((((((((((((((x10 + (1 : Int64)) + (p3 &&& (15 : Int64))) + (1 : Int64)) + (((p3.toUInt64 >>> ((4 : Int32) &&& 0x3f).toInt64.toUInt64).toInt64) &&& (15 : Int64))) + (1 : Int64)) + (((p3.toUInt64 >>> ((8 : Int32) &&& 0x3f).toInt64.toUInt64).toInt64) &&& (15 : Int64))) + (1 : Int64)) + (((p3.toUInt64 >>> ((12 : Int32) &&& 0x3f).toInt64.toUInt64).toInt64) &&& (15 : Int64))) + (1 : Int64)) + (((p3.toUInt64 >>> ((16 : Int32) &&& 0x3f).toInt64.toUInt64).toInt64) &&& (15 : Int64))) + (1 : Int64)) + (((p3.toUInt64 >>> ((20 : Int32) &&& 0x3f).toInt64.toUInt64).toInt64) &&& (15 : Int64))) + (1 : Int64)) + (((p3.toUInt64 >>> ((24 : Int32) &&& 0x3f).toInt64.toUInt64).toInt64) &&& (15 : Int64))), (0 : Int64)].map Value.long) := V113
    have N113 := Fr.snoc X113 N109 g_b82
    have K113 : Keep h0 h113 [] := Keep.wr K109 W113 (Or.inr sz_b82)
    have Z113 : n0 ≤ h113.size := Nat.le_trans Z0 K113.1
    have ix115 : 0 ≤ ((7 : Int32)).toInt ∧ ((7 : Int32)).toInt < (([x10, ((x10 + (1 : Int64)) + (p3 &&& (15 : Int64))), ((((x10 + (1 : Int64)) + (p3 &&& (15 : Int64))) + (1 : Int64)) + (((p3.toUInt64 >>> ((4 : Int32) &&& 0x3f).toInt64.toUInt64).toInt64) &&& (15 : Int64))), ((((((x10 + (1 : Int64)) + (p3 &&& (15 : Int64))) + (1 : Int64)) + (((p3.toUInt64 >>> ((4 : Int32) &&& 0x3f).toInt64.toUInt64).toInt64) &&& (15 : Int64))) + (1 : Int64)) + (((p3.toUInt64 >>> ((8 : Int32) &&& 0x3f).toInt64.toUInt64).toInt64) &&& (15 : Int64))), ((((((((x10 + (1 : Int64)) + (p3 &&& (15 : Int64))) + (1 : Int64)) + (((p3.toUInt64 >>> ((4 : Int32) &&& 0x3f).toInt64.toUInt64).toInt64) &&& (15 : Int64))) + (1 : Int64)) + (((p3.toUInt64 >>> ((8 : Int32) &&& 0x3f).toInt64.toUInt64).toInt64) &&& (15 : Int64))) + (1 : Int64)) + (((p3.toUInt64 >>> ((12 : Int32) &&& 0x3f).toInt64.toUInt64).toInt64) &&& (15 : Int64))), ((((((((((x10 + (1 : Int64)) + (p3 &&& (15 : Int64))) + (1 : Int64)) + (((p3.toUInt64 >>> ((4 : Int32) &&& 0x3f).toInt64.toUInt64).toInt64) &&& (15 : Int64))) + (1 : Int64)) + (((p3.toUInt64 >>> ((8 : Int32) &&& 0x3f).toInt64.toUInt64).toInt64) &&& (15 : Int64))) + (1 : Int64)) + (((p3.toUInt64 >>> ((12 : Int32) &&& 0x3f).toInt64.toUInt64).toInt64) &&& (15 : Int64))) + (1 : Int64)) + (((p3.toUInt64 >>> ((16 : Int32) &&& 0x3f).toInt64.toUInt64).toInt64) &&& (15 : Int64))), ((((((((((((x10 + (1 : Int64)) + (p3 &&& (15 : Int64))) + (1 : Int64)) + (((p3.toUInt64 >>> ((4 : Int32) &&& 0x3f).toInt64.toUInt64).toInt64) &&& (15 : Int64))) + (1 : Int64)) + (((p3.toUInt64 >>> ((8 : Int32) &&& 0x3f).toInt64.toUInt64).toInt64) &&& (15 : Int64))) + (1 : Int64)) + (((p3.toUInt64 >>> ((12 : Int32) &&& 0x3f).toInt64.toUInt64).toInt64) &&& (15 : Int64))) + (1 : Int64)) + (((p3.toUInt64 >>> ((16 : Int32) &&& 0x3f).toInt64.toUInt64).toInt64) &&& (15 : Int64))) + (1 : Int64)) + (((p3.toUInt64 >>> ((20 : Int32) &&& 0x3f).toInt64.toUInt64).toInt64) &&& (15 : Int64))), ((((((((((((((x10 + (1 : Int64)) + (p3 &&& (15 : Int64))) + (1 : Int64)) + (((p3.toUInt64 >>> ((4 : Int32) &&& 0x3f).toInt64.toUInt64).toInt64) &&& (15 : Int64))) + (1 : Int64)) + (((p3.toUInt64 >>> ((8 : Int32) &&& 0x3f).toInt64.toUInt64).toInt64) &&& (15 : Int64))) + (1 : Int64)) + (((p3.toUInt64 >>> ((12 : Int32) &&& 0x3f).toInt64.toUInt64).toInt64) &&& (15 : Int64))) + (1 : Int64)) + (((p3.toUInt64 >>> ((16 : Int32) &&& 0x3f).toInt64.toUInt64).toInt64) &&& (15 : Int64))) + (1 : Int64)) + (((p3.toUInt64 >>> ((20 : Int32) &&& 0x3f).toInt64.toUInt64).toInt64) &&& (15 : Int64))) + (1 : Int64)) + (((p3.toUInt64 >>> ((24 : Int32) &&& 0x3f).toInt64.toUInt64).toInt64) &&& (15 : Int64))), (0 : Int64)]).length : Int) := by constructor <;> first | decide | (simp; done)
    have ix116 : 0 ≤ ((8 : Int32)).toInt ∧ ((8 : Int32)).toInt < (([x10, ((x10 + (1 : Int64)) + (p3 &&& (15 : Int64))), ((((x10 + (1 : Int64)) + (p3 &&& (15 : Int64))) + (1 : Int64)) + (((p3.toUInt64 >>> ((4 : Int32) &&& 0x3f).toInt64.toUInt64).toInt64) &&& (15 : Int64))), ((((((x10 + (1 : Int64)) + (p3 &&& (15 : Int64))) + (1 : Int64)) + (((p3.toUInt64 >>> ((4 : Int32) &&& 0x3f).toInt64.toUInt64).toInt64) &&& (15 : Int64))) + (1 : Int64)) + (((p3.toUInt64 >>> ((8 : Int32) &&& 0x3f).toInt64.toUInt64).toInt64) &&& (15 : Int64))), ((((((((x10 + (1 : Int64)) + (p3 &&& (15 : Int64))) + (1 : Int64)) + (((p3.toUInt64 >>> ((4 : Int32) &&& 0x3f).toInt64.toUInt64).toInt64) &&& (15 : Int64))) + (1 : Int64)) + (((p3.toUInt64 >>> ((8 : Int32) &&& 0x3f).toInt64.toUInt64).toInt64) &&& (15 : Int64))) + (1 : Int64)) + (((p3.toUInt64 >>> ((12 : Int32) &&& 0x3f).toInt64.toUInt64).toInt64) &&& (15 : Int64))), ((((((((((x10 + (1 : Int64)) + (p3 &&& (15 : Int64))) + (1 : Int64)) + (((p3.toUInt64 >>> ((4 : Int32) &&& 0x3f).toInt64.toUInt64).toInt64) &&& (15 : Int64))) + (1 : Int64)) + (((p3.toUInt64 >>> ((8 : Int32) &&& 0x3f).toInt64.toUInt64).toInt64) &&& (15 : Int64))) + (1 : Int64)) + (((p3.toUInt64 >>> ((12 : Int32) &&& 0x3f).toInt64.toUInt64).toInt64) &&& (15 : Int64))) + (1 : Int64)) + (((p3.toUInt64 >>> ((16 : Int32) &&& 0x3f).toInt64.toUInt64).toInt64) &&& (15 : Int64))), ((((((((((((x10 + (1 : Int64)) + (p3 &&& (15 : Int64))) + (1 : Int64)) + (((p3.toUInt64 >>> ((4 : Int32) &&& 0x3f).toInt64.toUInt64).toInt64) &&& (15 : Int64))) + (1 : Int64)) + (((p3.toUInt64 >>> ((8 : Int32) &&& 0x3f).toInt64.toUInt64).toInt64) &&& (15 : Int64))) + (1 : Int64)) + (((p3.toUInt64 >>> ((12 : Int32) &&& 0x3f).toInt64.toUInt64).toInt64) &&& (15 : Int64))) + (1 : Int64)) + (((p3.toUInt64 >>> ((16 : Int32) &&& 0x3f).toInt64.toUInt64).toInt64) &&& (15 : Int64))) + (1 : Int64)) + (((p3.toUInt64 >>> ((20 : Int32) &&& 0x3f).toInt64.toUInt64).toInt64) &&& (15 : Int64))), ((((((((((((((x10 + (1 : Int64)) + (p3 &&& (15 : Int64))) + (1 : Int64)) + (((p3.toUInt64 >>> ((4 : Int32) &&& 0x3f).toInt64.toUInt64).toInt64) &&& (15 : Int64))) + (1 : Int64)) + (((p3.toUInt64 >>> ((8 : Int32) &&& 0x3f).toInt64.toUInt64).toInt64) &&& (15 : Int64))) + (1 : Int64)) + (((p3.toUInt64 >>> ((12 : Int32) &&& 0x3f).toInt64.toUInt64).toInt64) &&& (15 : Int64))) + (1 : Int64)) + (((p3.toUInt64 >>> ((16 : Int32) &&& 0x3f).toInt64.toUInt64).toInt64) &&& (15 : Int64))) + (1 : Int64)) + (((p3.toUInt64 >>> ((20 : Int32) &&& 0x3f).toInt64.toUInt64).toInt64) &&& (15 : Int64))) + (1 : Int64)) + (((p3.toUInt64 >>> ((24 : Int32) &&& 0x3f).toInt64.toUInt64).toInt64) &&& (15 : Int64))), (0 : Int64)]).length : Int) := by constructor <;> first | decide | (simp; done)
    obtain ⟨T117, h117, X117, e117, W117, V117, st117⟩ := putJ X113 hx hZ e113 G114 ix116.1 ix116.2 (g := (mkF m 205 #[.val (.long p1), .second, .val (.long p2), .second, .val (.long p3), .second, .val (.long p4), .second, .val (.long x8), .second, .val (.long x10), .second, .val (.ref b82), .unset, .unset, .unset, .unset, .unset, .unset, .unset, .unset, .unset, .unset, .unset] [(.long ((((((((((((((((x10 + (1 : Int64)) + (p3 &&& (15 : Int64))) + (1 : Int64)) + (((p3.toUInt64 >>> ((4 : Int32) &&& 0x3f).toInt64.toUInt64).toInt64) &&& (15 : Int64))) + (1 : Int64)) + (((p3.toUInt64 >>> ((8 : Int32) &&& 0x3f).toInt64.toUInt64).toInt64) &&& (15 : Int64))) + (1 : Int64)) + (((p3.toUInt64 >>> ((12 : Int32) &&& 0x3f).toInt64.toUInt64).toInt64) &&& (15 : Int64))) + (1 : Int64)) + (((p3.toUInt64 >>> ((16 : Int32) &&& 0x3f).toInt64.toUInt64).toInt64) &&& (15 : Int64))) + (1 : Int64)) + (((p3.toUInt64 >>> ((20 : Int32) &&& 0x3f).toInt64.toUInt64).toInt64) &&& (15 : Int64))) + (1 : Int64)) + (((p3.toUInt64 >>> ((24 : Int32) &&& 0x3f).toInt64.toUInt64).toInt64) &&& (15 : Int64))) + (1 : Int64)) + (((p3.toUInt64 >>> ((28 : Int32) &&& 0x3f).toInt64.toUInt64).toInt64) &&& (15 : Int64)))), (.int (8 : Int32)), (.ref b82)])) rfl rfl (hb hby at_205)
    have G118 : VA Z h117 b82 .long ([x10, ((x10 + (1 : Int64)) + (p3 &&& (15 : Int64))), ((((x10 + (1 : Int64)) + (p3 &&& (15 : Int64))) + (1 : Int64)) + (((p3.toUInt64 >>> ((4 : Int32) &&& 0x3f).toInt64.toUInt64).toInt64) &&& (15 : Int64))), ((((((x10 + (1 : Int64)) + (p3 &&& (15 : Int64))) + (1 : Int64)) + (((p3.toUInt64 >>> ((4 : Int32) &&& 0x3f).toInt64.toUInt64).toInt64) &&& (15 : Int64))) + (1 : Int64)) + (((p3.toUInt64 >>> ((8 : Int32) &&& 0x3f).toInt64.toUInt64).toInt64) &&& (15 : Int64))), ((((((((x10 + (1 : Int64)) + (p3 &&& (15 : Int64))) + (1 : Int64)) + (((p3.toUInt64 >>> ((4 : Int32) &&& 0x3f).toInt64.toUInt64).toInt64) &&& (15 : Int64))) + (1 : Int64)) + (((p3.toUInt64 >>> ((8 : Int32) &&& 0x3f).toInt64.toUInt64).toInt64) &&& (15 : Int64))) + (1 : Int64)) + (((p3.toUInt64 >>> ((12 : Int32) &&& 0x3f).toInt64.toUInt64).toInt64) &&& (15 : Int64))), ((((((((((x10 + (1 : Int64)) + (p3 &&& (15 : Int64))) + (1 : Int64)) + (((p3.toUInt64 >>> ((4 : Int32) &&& 0x3f).toInt64.toUInt64).toInt64) &&& (15 : Int64))) + (1 : Int64)) + (((p3.toUInt64 >>> ((8 : Int32) &&& 0x3f).toInt64.toUInt64).toInt64) &&& (15 : Int64))) + (1 : Int64)) + (((p3.toUInt64 >>> ((12 : Int32) &&& 0x3f).toInt64.toUInt64).toInt64) &&& (15 : Int64))) + (1 : Int64)) + (((p3.toUInt64 >>> ((16 : Int32) &&& 0x3f).toInt64.toUInt64).toInt64) &&& (15 : Int64))), ((((((((((((x10 + (1 : Int64)) + (p3 &&& (15 : Int64))) + (1 : Int64)) + (((p3.toUInt64 >>> ((4 : Int32) &&& 0x3f).toInt64.toUInt64).toInt64) &&& (15 : Int64))) + (1 : Int64)) + (((p3.toUInt64 >>> ((8 : Int32) &&& 0x3f).toInt64.toUInt64).toInt64) &&& (15 : Int64))) + (1 : Int64)) + (((p3.toUInt64 >>> ((12 : Int32) &&& 0x3f).toInt64.toUInt64).toInt64) &&& (15 : Int64))) + (1 : Int64)) + (((p3.toUInt64 >>> ((16 : Int32) &&& 0x3f).toInt64.toUInt64).toInt64) &&& (15 : Int64))) + (1 : Int64)) + (((p3.toUInt64 >>> ((20 : Int32) &&& 0x3f).toInt64.toUInt64).toInt64) &&& (15 : Int64))), ((((((((((((((x10 + (1 : Int64)) + (p3 &&& (15 : Int64))) + (1 : Int64)) + (((p3.toUInt64 >>> ((4 : Int32) &&& 0x3f).toInt64.toUInt64).toInt64) &&& (15 : Int64))) + (1 : Int64)) + (((p3.toUInt64 >>> ((8 : Int32) &&& 0x3f).toInt64.toUInt64).toInt64) &&& (15 : Int64))) + (1 : Int64)) + (((p3.toUInt64 >>> ((12 : Int32) &&& 0x3f).toInt64.toUInt64).toInt64) &&& (15 : Int64))) + (1 : Int64)) + (((p3.toUInt64 >>> ((16 : Int32) &&& 0x3f).toInt64.toUInt64).toInt64) &&& (15 : Int64))) + (1 : Int64)) + (((p3.toUInt64 >>> ((20 : Int32) &&& 0x3f).toInt64.toUInt64).toInt64) &&& (15 : Int64))) + (1 : Int64)) + (((p3.toUInt64 >>> ((24 : Int32) &&& 0x3f).toInt64.toUInt64).toInt64) &&& (15 : Int64))), ((((((((((((((((x10 + (1 : Int64)) + (p3 &&& (15 : Int64))) + (1 : Int64)) + (((p3.toUInt64 >>> ((4 : Int32) &&& 0x3f).toInt64.toUInt64).toInt64) &&& (15 : Int64))) + (1 : Int64)) + (((p3.toUInt64 >>> ((8 : Int32) &&& 0x3f).toInt64.toUInt64).toInt64) &&& (15 : Int64))) + (1 : Int64)) + (((p3.toUInt64 >>> ((12 : Int32) &&& 0x3f).toInt64.toUInt64).toInt64) &&& (15 : Int64))) + (1 : Int64)) + (((p3.toUInt64 >>> ((16 : Int32) &&& 0x3f).toInt64.toUInt64).toInt64) &&& (15 : Int64))) + (1 : Int64)) + (((p3.toUInt64 >>> ((20 : Int32) &&& 0x3f).toInt64.toUInt64).toInt64) &&& (15 : Int64))) + (1 : Int64)) + (((p3.toUInt64 >>> ((24 : Int32) &&& 0x3f).toInt64.toUInt64).toInt64) &&& (15 : Int64))) + (1 : Int64)) + (((p3.toUInt64 >>> ((28 : Int32) &&& 0x3f).toInt64.toUInt64).toInt64) &&& (15 : Int64)))].map Value.long) := V117
    have N117 := Fr.snoc X117 N113 g_b82
    have K117 : Keep h0 h117 [] := Keep.wr K113 W117 (Or.inr sz_b82)
    have Z117 : n0 ≤ h117.size := Nat.le_trans Z0 K117.1
    have ix119 : 0 ≤ ((8 : Int32)).toInt ∧ ((8 : Int32)).toInt < (([x10, ((x10 + (1 : Int64)) + (p3 &&& (15 : Int64))), ((((x10 + (1 : Int64)) + (p3 &&& (15 : Int64))) + (1 : Int64)) + (((p3.toUInt64 >>> ((4 : Int32) &&& 0x3f).toInt64.toUInt64).toInt64) &&& (15 : Int64))), ((((((x10 + (1 : Int64)) + (p3 &&& (15 : Int64))) + (1 : Int64)) + (((p3.toUInt64 >>> ((4 : Int32) &&& 0x3f).toInt64.toUInt64).toInt64) &&& (15 : Int64))) + (1 : Int64)) + (((p3.toUInt64 >>> ((8 : Int32) &&& 0x3f).toInt64.toUInt64).toInt64) &&& (15 : Int64))), ((((((((x10 + (1 : Int64)) + (p3 &&& (15 : Int64))) + (1 : Int64)) + (((p3.toUInt64 >>> ((4 : Int32) &&& 0x3f).toInt64.toUInt64).toInt64) &&& (15 : Int64))) + (1 : Int64)) + (((p3.toUInt64 >>> ((8 : Int32) &&& 0x3f).toInt64.toUInt64).toInt64) &&& (15 : Int64))) + (1 : Int64)) + (((p3.toUInt64 >>> ((12 : Int32) &&& 0x3f).toInt64.toUInt64).toInt64) &&& (15 : Int64))), ((((((((((x10 + (1 : Int64)) + (p3 &&& (15 : Int64))) + (1 : Int64)) + (((p3.toUInt64 >>> ((4 : Int32) &&& 0x3f).toInt64.toUInt64).toInt64) &&& (15 : Int64))) + (1 : Int64)) + (((p3.toUInt64 >>> ((8 : Int32) &&& 0x3f).toInt64.toUInt64).toInt64) &&& (15 : Int64))) + (1 : Int64)) + (((p3.toUInt64 >>> ((12 : Int32) &&& 0x3f).toInt64.toUInt64).toInt64) &&& (15 : Int64))) + (1 : Int64)) + (((p3.toUInt64 >>> ((16 : Int32) &&& 0x3f).toInt64.toUInt64).toInt64) &&& (15 : Int64))), ((((((((((((x10 + (1 : Int64)) + (p3 &&& (15 : Int64))) + (1 : Int64)) + (((p3.toUInt64 >>> ((4 : Int32) &&& 0x3f).toInt64.toUInt64).toInt64) &&& (15 : Int64))) + (1 : Int64)) + (((p3.toUInt64 >>> ((8 : Int32) &&& 0x3f).toInt64.toUInt64).toInt64) &&& (15 : Int64))) + (1 : Int64)) + (((p3.toUInt64 >>> ((12 : Int32) &&& 0x3f).toInt64.toUInt64).toInt64) &&& (15 : Int64))) + (1 : Int64)) + (((p3.toUInt64 >>> ((16 : Int32) &&& 0x3f).toInt64.toUInt64).toInt64) &&& (15 : Int64))) + (1 : Int64)) + (((p3.toUInt64 >>> ((20 : Int32) &&& 0x3f).toInt64.toUInt64).toInt64) &&& (15 : Int64))), ((((((((((((((x10 + (1 : Int64)) + (p3 &&& (15 : Int64))) + (1 : Int64)) + (((p3.toUInt64 >>> ((4 : Int32) &&& 0x3f).toInt64.toUInt64).toInt64) &&& (15 : Int64))) + (1 : Int64)) + (((p3.toUInt64 >>> ((8 : Int32) &&& 0x3f).toInt64.toUInt64).toInt64) &&& (15 : Int64))) + (1 : Int64)) + (((p3.toUInt64 >>> ((12 : Int32) &&& 0x3f).toInt64.toUInt64).toInt64) &&& (15 : Int64))) + (1 : Int64)) + (((p3.toUInt64 >>> ((16 : Int32) &&& 0x3f).toInt64.toUInt64).toInt64) &&& (15 : Int64))) + (1 : Int64)) + (((p3.toUInt64 >>> ((20 : Int32) &&& 0x3f).toInt64.toUInt64).toInt64) &&& (15 : Int64))) + (1 : Int64)) + (((p3.toUInt64 >>> ((24 : Int32) &&& 0x3f).toInt64.toUInt64).toInt64) &&& (15 : Int64))), ((((((((((((((((x10 + (1 : Int64)) + (p3 &&& (15 : Int64))) + (1 : Int64)) + (((p3.toUInt64 >>> ((4 : Int32) &&& 0x3f).toInt64.toUInt64).toInt64) &&& (15 : Int64))) + (1 : Int64)) + (((p3.toUInt64 >>> ((8 : Int32) &&& 0x3f).toInt64.toUInt64).toInt64) &&& (15 : Int64))) + (1 : Int64)) + (((p3.toUInt64 >>> ((12 : Int32) &&& 0x3f).toInt64.toUInt64).toInt64) &&& (15 : Int64))) + (1 : Int64)) + (((p3.toUInt64 >>> ((16 : Int32) &&& 0x3f).toInt64.toUInt64).toInt64) &&& (15 : Int64))) + (1 : Int64)) + (((p3.toUInt64 >>> ((20 : Int32) &&& 0x3f).toInt64.toUInt64).toInt64) &&& (15 : Int64))) + (1 : Int64)) + (((p3.toUInt64 >>> ((24 : Int32) &&& 0x3f).toInt64.toUInt64).toInt64) &&& (15 : Int64))) + (1 : Int64)) + (((p3.toUInt64 >>> ((28 : Int32) &&& 0x3f).toInt64.toUInt64).toInt64) &&& (15 : Int64)))]).length : Int) := by constructor <;> first | decide | (simp; done)
    refine Go.step (T' := T117) (f' := (mkF m 247 #[.val (.long p1), .second, .val (.long p2), .second, .val (.long p3), .second, .val (.long p4), .second, .val (.long x8), .second, .val (.long x10), .second, .val (.ref b82), .val (.long (((((((((((((((((x10 + (1 : Int64)) + (p3 &&& (15 : Int64))) + (1 : Int64)) + (((p3.toUInt64 >>> ((4 : Int32) &&& 0x3f).toInt64.toUInt64).toInt64) &&& (15 : Int64))) + (1 : Int64)) + (((p3.toUInt64 >>> ((8 : Int32) &&& 0x3f).toInt64.toUInt64).toInt64) &&& (15 : Int64))) + (1 : Int64)) + (((p3.toUInt64 >>> ((12 : Int32) &&& 0x3f).toInt64.toUInt64).toInt64) &&& (15 : Int64))) + (1 : Int64)) + (((p3.toUInt64 >>> ((16 : Int32) &&& 0x3f).toInt64.toUInt64).toInt64) &&& (15 : Int64))) + (1 : Int64)) + (((p3.toUInt64 >>> ((20 : Int32) &&& 0x3f).toInt64.toUInt64).toInt64) &&& (15 : Int64))) + (1 : Int64)) + (((p3.toUInt64 >>> ((24 : Int32) &&& 0x3f).toInt64.toUInt64).toInt64) &&& (15 : Int64))) + (1 : Int64)) + (((p3.toUInt64 >>> ((28 : Int32) &&& 0x3f).toInt64.toUInt64).toInt64) &&& (15 : Int64))) + (((p3.toUInt64 >>> ((32 : Int32) &&& 0x3f).toInt64.toUInt64).toInt64) &&& (255 : Int64)))), .second, .val (.int ((((p3.toUInt64 >>> ((40 : Int32) &&& 0x3f).toInt64.toUInt64).toInt64) &&& (15 : Int64)).toInt32)), .val (.int ((((p3.toUInt64 >>> ((44 : Int32) &&& 0x3f).toInt64.toUInt64).toInt64) &&& (15 : Int64)).toInt32)), .unset, .unset, .unset, .unset, .unset, .unset, .unset] [])) (fun t kt => ?_) ?_
    · show Steps p.tables e below (T.setTop (mkF m 33 #[.val (.long p1), .second, .val (.long p2), .second, .val (.long p3), .second, .val (.long p4), .second, .val (.long x8), .second, .val (.long x10), .second, .unset, .unset, .unset, .unset, .unset, .unset, .unset, .unset, .unset, .unset, .unset, .unset] [])) _
      refine XS.bipush X.here hx rfl (hb hby at_33) ?_
      show Steps p.tables e below (T.setTop (mkF m 35 #[.val (.long p1), .second, .val (.long p2), .second, .val (.long p3), .second, .val (.long p4), .second, .val (.long x8), .second, .val (.long x10), .second, .unset, .unset, .unset, .unset, .unset, .unset, .unset, .unset, .unset, .unset, .unset, .unset] [(.int (9 : Int32))])) _
      refine st82 _ ?_
      show Steps p.tables e below (T82.setTop (mkF m 37 #[.val (.long p1), .second, .val (.long p2), .second, .val (.long p3), .second, .val (.long p4), .second, .val (.long x8), .second, .val (.long x10), .second, .unset, .unset, .unset, .unset, .unset, .unset, .unset, .unset, .unset, .unset, .unset, .unset] [(.ref b82)])) _
      refine XS.astore X82.here hx rfl (hb hby at_37) rfl rfl (l' := #[.val (.long p1), .second, .val (.long p2), .second, .val (.long p3), .second, .val (.long p4), .second, .val (.long x8), .second, .val (.long x10), .second, .val (.ref b82), .unset, .unset, .unset, .unset, .unset, .unset, .unset, .unset, .unset, .unset, .unset]) rfl ?_
      show Steps p.tables e below (T82.setTop (mkF m 39 #[.val (.long p1), .second, .val (.long p2), .second, .val (.long p3), .second, .val (.long p4), .second, .val (.long x8), .second, .val (.long x10), .second, .val (.ref b82), .unset, .unset, .unset, .unset, .unset, .unset, .unset, .unset, .unset, .unset, .unset] [])) _
      refine XS.aload X82.here hx rfl (hb hby at_39) rfl rfl ?_
      show Steps p.tables e below (T82.setTop (mkF m 41 #[.val (.long p1), .second, .val (.long p2), .second, .val (.long p3), .second, .val (.long p4), .second, .val (.long x8), .second, .val (.long x10), .second, .val (.ref b82), .unset, .unset, .unset, .unset, .unset, .unset, .unset, .unset, .unset, .unset, .unset] [(.ref b82)])) _
      refine XS.iconst X82.here hx rfl (hb hby at_41) ?_
      show Steps p.tables e below (T82.setTop (mkF m 42 #[.val (.long p1), .second, .val (.long p2), .second, .val (.long p3), .second, .val (.long p4), .second, .val (.long x8), .second, .val (.long x10), .second, .val (.ref b82), .unset, .unset, .unset, .unset, .unset, .unset, .unset, .unset, .unset, .unset, .unset] [(.int (0 : Int32)), (.ref b82)])) _
      refine XS.lload X82.here hx rfl (hb hby at_42) rfl ?_
      show Steps p.tables e below (T82.setTop (mkF m 44 #[.val (.long p1), .second, .val (.long p2), .second, .val (.long p3), .second, .val (.long p4), .second, .val (.long x8), .second, .val (.long x10), .second, .val (.ref b82), .unset, .unset, .unset, .unset, .unset, .unset, .unset, .unset, .unset, .unset, .unset] [(.long x10), (.int (0 : Int32)), (.ref b82)])) _
      refine st85 _ ?_
      show Steps p.tables e below (T85.setTop (mkF m 45 #[.val (.long p1), .second, .val (.long p2), .second, .val (.long p3), .second, .val (.long p4), .second, .val (.long x8), .second, .val (.long x10), .second, .val (.ref b82), .unset, .unset, .unset, .unset, .unset, .unset, .unset, .unset, .unset, .unset, .unset] [])) _
      refine XS.aload X85.here hx rfl (hb hby at_45) rfl rfl ?_
      show Steps p.tables e below (T85.setTop (mkF m 47 #[.val (.long p1), .second, .val (.long p2), .second, .val (.long p3), .second, .val (.long p4), .second, .val (.long x8), .second, .val (.long x10), .second, .val (.ref b82), .unset, .unset, .unset, .unset, .unset, .unset, .unset, .unset, .unset, .unset, .unset] [(.ref b82)])) _
      refine XS.iconst X85.here hx rfl (hb hby at_47) ?_
      show Steps p.tables e below (T85.setTop (mkF m 48 #[.val (.long p1), .second, .val (.long p2), .second, .val (.long p3), .second, .val (.long p4), .second, .val (.long x8), .second, .val (.long x10), .second, .val (.ref b82), .unset, .unset, .unset, .unset, .unset, .unset, .unset, .unset, .unset, .unset, .unset] [(.int (1 : Int32)), (.ref b82)])) _
      refine XS.aload X85.here hx rfl (hb hby at_48) rfl rfl ?_
      show Steps p.tables e below (T85.setTop (mkF m 50 #[.val (.long p1), .second, .val (.long p2), .second, .val (.long p3), .second, .val (.long p4), .second, .val (.long x8), .second, .val (.long x10), .second, .val (.ref b82), .unset, .unset, .unset, .unset, .unset, .unset, .unset, .unset, .unset, .unset, .unset] [(.ref b82), (.int (1 : Int32)), (.ref b82)])) _
      refine XS.iconst X85.here hx rfl (hb hby at_50) ?_
      show Steps p.tables e below (T85.setTop (mkF m 51 #[.val (.long p1), .second, .val (.long p2), .second, .val (.long p3), .second, .val (.long p4), .second, .val (.long x8), .second, .val (.long x10), .second, .val (.ref b82), .unset, .unset, .unset, .unset, .unset, .unset, .unset, .unset, .unset, .unset, .unset] [(.int (0 : Int32)), (.ref b82), (.int (1 : Int32)), (.ref b82)])) _
      refine ldJ X85 hx hZ e85 G86 ix87.1 ix87.2 (g := (mkF m 51 #[.val (.long p1), .second, .val (.long p2), .second, .val (.long p3), .second, .val (.long p4), .second, .val (.long x8), .second, .val (.long x10), .second, .val (.ref b82), .unset, .unset, .unset, .unset, .unset, .unset, .unset, .unset, .unset, .unset, .unset] [(.int (0 : Int32)), (.ref b82), (.int (1 : Int32)), (.ref b82)])) rfl rfl (hb hby at_51) _ ?_
      show Steps p.tables e below (T85.setTop (mkF m 52 #[.val (.long p1), .second, .val (.long p2), .second, .val (.long p3), .second, .val (.long p4), .second, .val (.long x8), .second, .val (.long x10), .second, .val (.ref b82), .unset, .unset, .unset, .unset, .unset, .unset, .unset, .unset, .unset, .unset, .unset] [(.long x10), (.int (1 : Int32)), (.ref b82)])) _
      refine XS.lconst X85.here hx rfl (hb hby at_52) ?_
      show Steps p.tables e below (T85.setTop (mkF m 53 #[.val (.long p1), .second, .val (.long p2), .second, .val (.long p3), .second, .val (.long p4), .second, .val (.long x8), .second, .val (.long x10), .second, .val (.ref b82), .unset, .unset, .unset, .unset, .unset, .unset, .unset, .unset, .unset, .unset, .unset] [(.long (1 : Int64)), (.long x10), (.int (1 : Int32)), (.ref b82)])) _
      refine XS.ladd X85.here hx rfl (hb hby at_53) rfl ?_
      show Steps p.tables e below (T85.setTop (mkF m 54 #[.val (.long p1), .second, .val (.long p2), .second, .val (.long p3), .second, .val (.long p4), .second, .val (.long x8), .second, .val (.long x10), .second, .val (.ref b82), .unset, .unset, .unset, .unset, .unset, .unset, .unset, .unset, .unset, .unset, .unset] [(.long (x10 + (1 : Int64))), (.int (1 : Int32)), (.ref b82)])) _
      refine XS.lload X85.here hx rfl (hb hby at_54) rfl ?_
      show Steps p.tables e below (T85.setTop (mkF m 56 #[.val (.long p1), .second, .val (.long p2), .second, .val (.long p3), .second, .val (.long p4), .second, .val (.long x8), .second, .val (.long x10), .second, .val (.ref b82), .unset, .unset, .unset, .unset, .unset, .unset, .unset, .unset, .unset, .unset, .unset] [(.long p3), (.long (x10 + (1 : Int64))), (.int (1 : Int32)), (.ref b82)])) _
      refine X85.ldc2Long hx hown (mvT hZ (hw _ (List.mem_of_getElem? (i := 7) rfl))) (g := (mkF m 56 #[.val (.long p1), .second, .val (.long p2), .second, .val (.long p3), .second, .val (.long p4), .second, .val (.long x8), .second, .val (.long x10), .second, .val (.ref b82), .unset, .unset, .unset, .unset, .unset, .unset, .unset, .unset, .unset, .unset, .unset] [(.long p3), (.long (x10 + (1 : Int64))), (.int (1 : Int32)), (.ref b82)])) rfl (hb hby at_56) _ ?_
      show Steps p.tables e below (T85.setTop (mkF m 59 #[.val (.long p1), .second, .val (.long p2), .second, .val (.long p3), .second, .val (.long p4), .second, .val (.long x8), .second, .val (.long x10), .second, .val (.ref b82), .unset, .unset, .unset, .unset, .unset, .unset, .unset, .unset, .unset, .unset, .unset] [(.long (15 : Int64)), (.long p3), (.long (x10 + (1 : Int64))), (.int (1 : Int32)), (.ref b82)])) _
      refine XS.land X85.here hx rfl (hb hby at_59) rfl ?_
      show Steps p.tables e below (T85.setTop (mkF m 60 #[.val (.long p1), .second, .val (.long p2), .second, .val (.long p3), .second, .val (.long p4), .second, .val (.long x8), .second, .val (.long x10), .second, .val (.ref b82), .unset, .unset, .unset, .unset, .unset, .unset, .unset, .unset, .unset, .unset, .unset] [(.long (p3 &&& (15 : Int64))), (.long (x10 + (1 : Int64))), (.int (1 : Int32)), (.ref b82)])) _
      refine XS.ladd X85.here hx rfl (hb hby at_60) rfl ?_
      show Steps p.tables e below (T85.setTop (mkF m 61 #[.val (.long p1), .second, .val (.long p2), .second, .val (.long p3), .second, .val (.long p4), .second, .val (.long x8), .second, .val (.long x10), .second, .val (.ref b82), .unset, .unset, .unset, .unset, .unset, .unset, .unset, .unset, .unset, .unset, .unset] [(.long ((x10 + (1 : Int64)) + (p3 &&& (15 : Int64)))), (.int (1 : Int32)), (.ref b82)])) _
      refine st89 _ ?_
      show Steps p.tables e below (T89.setTop (mkF m 62 #[.val (.long p1), .second, .val (.long p2), .second, .val (.long p3), .second, .val (.long p4), .second, .val (.long x8), .second, .val (.long x10), .second, .val (.ref b82), .unset, .unset, .unset, .unset, .unset, .unset, .unset, .unset, .unset, .unset, .unset] [])) _
      refine XS.aload X89.here hx rfl (hb hby at_62) rfl rfl ?_
      show Steps p.tables e below (T89.setTop (mkF m 64 #[.val (.long p1), .second, .val (.long p2), .second, .val (.long p3), .second, .val (.long p4), .second, .val (.long x8), .second, .val (.long x10), .second, .val (.ref b82), .unset, .unset, .unset, .unset, .unset, .unset, .unset, .unset, .unset, .unset, .unset] [(.ref b82)])) _
      refine XS.iconst X89.here hx rfl (hb hby at_64) ?_
      show Steps p.tables e below (T89.setTop (mkF m 65 #[.val (.long p1), .second, .val (.long p2), .second, .val (.long p3), .second, .val (.long p4), .second, .val (.long x8), .second, .val (.long x10), .second, .val (.ref b82), .unset, .unset, .unset, .unset, .unset, .unset, .unset, .unset, .unset, .unset, .unset] [(.int (2 : Int32)), (.ref b82)])) _
      refine XS.aload X89.here hx rfl (hb hby at_65) rfl rfl ?_
      show Steps p.tables e below (T89.setTop (mkF m 67 #[.val (.long p1), .second, .val (.long p2), .second, .val (.long p3), .second, .val (.long p4), .second, .val (.long x8), .second, .val (.long x10), .second, .val (.ref b82), .unset, .unset, .unset, .unset, .unset, .unset, .unset, .unset, .unset, .unset, .unset] [(.ref b82), (.int (2 : Int32)), (.ref b82)])) _
      refine XS.iconst X89.here hx rfl (hb hby at_67) ?_
      show Steps p.tables e below (T89.setTop (mkF m 68 #[.val (.long p1), .second, .val (.long p2), .second, .val (.long p3), .second, .val (.long p4), .second, .val (.long x8), .second, .val (.long x10), .second, .val (.ref b82), .unset, .unset, .unset, .unset, .unset, .unset, .unset, .unset, .unset, .unset, .unset] [(.int (1 : Int32)), (.ref b82), (.int (2 : Int32)), (.ref b82)])) _
      refine ldJ X89 hx hZ e89 G90 ix91.1 ix91.2 (g := (mkF m 68 #[.val (.long p1), .second, .val (.long p2), .second, .val (.long p3), .second, .val (.long p4), .second, .val (.long x8), .second, .val (.long x10), .second, .val (.ref b82), .unset, .unset, .unset, .unset, .unset, .unset, .unset, .unset, .unset, .unset, .unset] [(.int (1 : Int32)), (.ref b82), (.int (2 : Int32)), (.ref b82)])) rfl rfl (hb hby at_68) _ ?_
      show Steps p.tables e below (T89.setTop (mkF m 69 #[.val (.long p1), .second, .val (.long p2), .second, .val (.long p3), .second, .val (.long p4), .second, .val (.long x8), .second, .val (.long x10), .second, .val (.ref b82), .unset, .unset, .unset, .unset, .unset, .unset, .unset, .unset, .unset, .unset, .unset] [(.long ((x10 + (1 : Int64)) + (p3 &&& (15 : Int64)))), (.int (2 : Int32)), (.ref b82)])) _
      refine XS.lconst X89.here hx rfl (hb hby at_69) ?_
      show Steps p.tables e below (T89.setTop (mkF m 70 #[.val (.long p1), .second, .val (.long p2), .second, .val (.long p3), .second, .val (.long p4), .second, .val (.long x8), .second, .val (.long x10), .second, .val (.ref b82), .unset, .unset, .unset, .unset, .unset, .unset, .unset, .unset, .unset, .unset, .unset] [(.long (1 : Int64)), (.long ((x10 + (1 : Int64)) + (p3 &&& (15 : Int64)))), (.int (2 : Int32)), (.ref b82)])) _
      refine XS.ladd X89.here hx rfl (hb hby at_70) rfl ?_
      show Steps p.tables e below (T89.setTop (mkF m 71 #[.val (.long p1), .second, .val (.long p2), .second, .val (.long p3), .second, .val (.long p4), .second, .val (.long x8), .second, .val (.long x10), .second, .val (.ref b82), .unset, .unset, .unset, .unset, .unset, .unset, .unset, .unset, .unset, .unset, .unset] [(.long (((x10 + (1 : Int64)) + (p3 &&& (15 : Int64))) + (1 : Int64))), (.int (2 : Int32)), (.ref b82)])) _
      refine XS.lload X89.here hx rfl (hb hby at_71) rfl ?_
      show Steps p.tables e below (T89.setTop (mkF m 73 #[.val (.long p1), .second, .val (.long p2), .second, .val (.long p3), .second, .val (.long p4), .second, .val (.long x8), .second, .val (.long x10), .second, .val (.ref b82), .unset, .unset, .unset, .unset, .unset, .unset, .unset, .unset, .unset, .unset, .unset] [(.long p3), (.long (((x10 + (1 : Int64)) + (p3 &&& (15 : Int64))) + (1 : Int64))), (.int (2 : Int32)), (.ref b82)])) _
      refine XS.iconst X89.here hx rfl (hb hby at_73) ?_
      show Steps p.tables e below (T89.setTop (mkF m 74 #[.val (.long p1), .second, .val (.long p2), .second, .val (.long p3), .second, .val (.long p4), .second, .val (.long x8), .second, .val (.long x10), .second, .val (.ref b82), .unset, .unset, .unset, .unset, .unset, .unset, .unset, .unset, .unset, .unset, .unset] [(.int (4 : Int32)), (.long p3), (.long (((x10 + (1 : Int64)) + (p3 &&& (15 : Int64))) + (1 : Int64))), (.int (2 : Int32)), (.ref b82)])) _
      refine XS.lushr X89.here hx rfl (hb hby at_74) rfl ?_
      show Steps p.tables e below (T89.setTop (mkF m 75 #[.val (.long p1), .second, .val (.long p2), .second, .val (.long p3), .second, .val (.long p4), .second, .val (.long x8), .second, .val (.long x10), .second, .val (.ref b82), .unset, .unset, .unset, .unset, .unset, .unset, .unset, .unset, .unset, .unset, .unset] [(.long ((p3.toUInt64 >>> ((4 : Int32) &&& 0x3f).toInt64.toUInt64).toInt64)), (.long (((x10 + (1 : Int64)) + (p3 &&& (15 : Int64))) + (1 : Int64))), (.int (2 : Int32)), (.ref b82)])) _
      refine X89.ldc2Long hx hown (mvT hZ (hw _ (List.mem_of_getElem? (i := 7) rfl))) (g := (mkF m 75 #[.val (.long p1), .second, .val (.long p2), .second, .val (.long p3), .second, .val (.long p4), .second, .val (.long x8), .second, .val (.long x10), .second, .val (.ref b82), .unset, .unset, .unset, .unset, .unset, .unset, .unset, .unset, .unset, .unset, .unset] [(.long ((p3.toUInt64 >>> ((4 : Int32) &&& 0x3f).toInt64.toUInt64).toInt64)), (.long (((x10 + (1 : Int64)) + (p3 &&& (15 : Int64))) + (1 : Int64))), (.int (2 : Int32)), (.ref b82)])) rfl (hb hby at_75) _ ?_
      show Steps p.tables e below (T89.setTop (mkF m 78 #[.val (.long p1), .second, .val (.long p2), .second, .val (.long p3), .second, .val (.long p4), .second, .val (.long x8), .second, .val (.long x10), .second, .val (.ref b82), .unset, .unset, .unset, .unset, .unset, .unset, .unset, .unset, .unset, .unset, .unset] [(.long (15 : Int64)), (.long ((p3.toUInt64 >>> ((4 : Int32) &&& 0x3f).toInt64.toUInt64).toInt64)), (.long (((x10 + (1 : Int64)) + (p3 &&& (15 : Int64))) + (1 : Int64))), (.int (2 : Int32)), (.ref b82)])) _
      refine XS.land X89.here hx rfl (hb hby at_78) rfl ?_
      show Steps p.tables e below (T89.setTop (mkF m 79 #[.val (.long p1), .second, .val (.long p2), .second, .val (.long p3), .second, .val (.long p4), .second, .val (.long x8), .second, .val (.long x10), .second, .val (.ref b82), .unset, .unset, .unset, .unset, .unset, .unset, .unset, .unset, .unset, .unset, .unset] [(.long (((p3.toUInt64 >>> ((4 : Int32) &&& 0x3f).toInt64.toUInt64).toInt64) &&& (15 : Int64))), (.long (((x10 + (1 : Int64)) + (p3 &&& (15 : Int64))) + (1 : Int64))), (.int (2 : Int32)), (.ref b82)])) _
      refine XS.ladd X89.here hx rfl (hb hby at_79) rfl ?_
      show Steps p.tables e below (T89.setTop (mkF m 80 #[.val (.long p1), .second, .val (.long p2), .second, .val (.long p3), .second, .val (.long p4), .second, .val (.long x8), .second, .val (.long x10), .second, .val (.ref b82), .unset, .unset, .unset, .unset, .unset, .unset, .unset, .unset, .unset, .unset, .unset] [(.long ((((x10 + (1 : Int64)) + (p3 &&& (15 : Int64))) + (1 : Int64)) + (((p3.toUInt64 >>> ((4 : Int32) &&& 0x3f).toInt64.toUInt64).toInt64) &&& (15 : Int64)))), (.int (2 : Int32)), (.ref b82)])) _
      refine st93 _ ?_
      show Steps p.tables e below (T93.setTop (mkF m 81 #[.val (.long p1), .second, .val (.long p2), .second, .val (.long p3), .second, .val (.long p4), .second, .val (.long x8), .second, .val (.long x10), .second, .val (.ref b82), .unset, .unset, .unset, .unset, .unset, .unset, .unset, .unset, .unset, .unset, .unset] [])) _
      refine XS.aload X93.here hx rfl (hb hby at_81) rfl rfl ?_
      show Steps p.tables e below (T93.setTop (mkF m 83 #[.val (.long p1), .second, .val (.long p2), .second, .val (.long p3), .second, .val (.long p4), .second, .val (.long x8), .second, .val (.long x10), .second, .val (.ref b82), .unset, .unset, .unset, .unset, .unset, .unset, .unset, .unset, .unset, .unset, .unset] [(.ref b82)])) _
      refine XS.iconst X93.here hx rfl (hb hby at_83) ?_
      show Steps p.tables e below (T93.setTop (mkF m 84 #[.val (.long p1), .second, .val (.long p2), .second, .val (.long p3), .second, .val (.long p4), .second, .val (.long x8), .second, .val (.long x10), .second, .val (.ref b82), .unset, .unset, .unset, .unset, .unset, .unset, .unset, .unset, .unset, .unset, .unset] [(.int (3 : Int32)), (.ref b82)])) _
      refine XS.aload X93.here hx rfl (hb hby at_84) rfl rfl ?_
      show Steps p.tables e below (T93.setTop (mkF m 86 #[.val (.long p1), .second, .val (.long p2), .second, .val (.long p3), .second, .val (.long p4), .second, .val (.long x8), .second, .val (.long x10), .second, .val (.ref b82), .unset, .unset, .unset, .unset, .unset, .unset, .unset, .unset, .unset, .unset, .unset] [(.ref b82), (.int (3 : Int32)), (.ref b82)])) _
      refine XS.iconst X93.here hx rfl (hb hby at_86) ?_
      show Steps p.tables e below (T93.setTop (mkF m 87 #[.val (.long p1), .second, .val (.long p2), .second, .val (.long p3), .second, .val (.long p4), .second, .val (.long x8), .second, .val (.long x10), .second, .val (.ref b82), .unset, .unset, .unset, .unset, .unset, .unset, .unset, .unset, .unset, .unset, .unset] [(.int (2 : Int32)), (.ref b82), (.int (3 : Int32)), (.ref b82)])) _
      refine ldJ X93 hx hZ e93 G94 ix95.1 ix95.2 (g := (mkF m 87 #[.val (.long p1), .second, .val (.long p2), .second, .val (.long p3), .second, .val (.long p4), .second, .val (.long x8), .second, .val (.long x10), .second, .val (.ref b82), .unset, .unset, .unset, .unset, .unset, .unset, .unset, .unset, .unset, .unset, .unset] [(.int (2 : Int32)), (.ref b82), (.int (3 : Int32)), (.ref b82)])) rfl rfl (hb hby at_87) _ ?_
      show Steps p.tables e below (T93.setTop (mkF m 88 #[.val (.long p1), .second, .val (.long p2), .second, .val (.long p3), .second, .val (.long p4), .second, .val (.long x8), .second, .val (.long x10), .second, .val (.ref b82), .unset, .unset, .unset, .unset, .unset, .unset, .unset, .unset, .unset, .unset, .unset] [(.long ((((x10 + (1 : Int64)) + (p3 &&& (15 : Int64))) + (1 : Int64)) + (((p3.toUInt64 >>> ((4 : Int32) &&& 0x3f).toInt64.toUInt64).toInt64) &&& (15 : Int64)))), (.int (3 : Int32)), (.ref b82)])) _
      refine XS.lconst X93.here hx rfl (hb hby at_88) ?_
      show Steps p.tables e below (T93.setTop (mkF m 89 #[.val (.long p1), .second, .val (.long p2), .second, .val (.long p3), .second, .val (.long p4), .second, .val (.long x8), .second, .val (.long x10), .second, .val (.ref b82), .unset, .unset, .unset, .unset, .unset, .unset, .unset, .unset, .unset, .unset, .unset] [(.long (1 : Int64)), (.long ((((x10 + (1 : Int64)) + (p3 &&& (15 : Int64))) + (1 : Int64)) + (((p3.toUInt64 >>> ((4 : Int32) &&& 0x3f).toInt64.toUInt64).toInt64) &&& (15 : Int64)))), (.int (3 : Int32)), (.ref b82)])) _
      refine XS.ladd X93.here hx rfl (hb hby at_89) rfl ?_
      show Steps p.tables e below (T93.setTop (mkF m 90 #[.val (.long p1), .second, .val (.long p2), .second, .val (.long p3), .second, .val (.long p4), .second, .val (.long x8), .second, .val (.long x10), .second, .val (.ref b82), .unset, .unset, .unset, .unset, .unset, .unset, .unset, .unset, .unset, .unset, .unset] [(.long (((((x10 + (1 : Int64)) + (p3 &&& (15 : Int64))) + (1 : Int64)) + (((p3.toUInt64 >>> ((4 : Int32) &&& 0x3f).toInt64.toUInt64).toInt64) &&& (15 : Int64))) + (1 : Int64))), (.int (3 : Int32)), (.ref b82)])) _
      refine XS.lload X93.here hx rfl (hb hby at_90) rfl ?_
      show Steps p.tables e below (T93.setTop (mkF m 92 #[.val (.long p1), .second, .val (.long p2), .second, .val (.long p3), .second, .val (.long p4), .second, .val (.long x8), .second, .val (.long x10), .second, .val (.ref b82), .unset, .unset, .unset, .unset, .unset, .unset, .unset, .unset, .unset, .unset, .unset] [(.long p3), (.long (((((x10 + (1 : Int64)) + (p3 &&& (15 : Int64))) + (1 : Int64)) + (((p3.toUInt64 >>> ((4 : Int32) &&& 0x3f).toInt64.toUInt64).toInt64) &&& (15 : Int64))) + (1 : Int64))), (.int (3 : Int32)), (.ref b82)])) _
      refine XS.bipush X93.here hx rfl (hb hby at_92) ?_
      show Steps p.tables e below (T93.setTop (mkF m 94 #[.val (.long p1), .second, .val (.long p2), .second, .val (.long p3), .second, .val (.long p4), .second, .val (.long x8), .second, .val (.long x10), .second, .val (.ref b82), .unset, .unset, .unset, .unset, .unset, .unset, .unset, .unset, .unset, .unset, .unset] [(.int (8 : Int32)), (.long p3), (.long (((((x10 + (1 : Int64)) + (p3 &&& (15 : Int64))) + (1 : Int64)) + (((p3.toUInt64 >>> ((4 : Int32) &&& 0x3f).toInt64.toUInt64).toInt64) &&& (15 : Int64))) + (1 : Int64))), (.int (3 : Int32)), (.ref b82)])) _
      refine XS.lushr X93.here hx rfl (hb hby at_94) rfl ?_
      show Steps p.tables e below (T93.setTop (mkF m 95 #[.val (.long p1), .second, .val (.long p2), .second, .val (.long p3), .second, .val (.long p4), .second, .val (.long x8), .second, .val (.long x10), .second, .val (.ref b82), .unset, .unset, .unset, .unset, .unset, .unset, .unset, .unset, .unset, .unset, .unset] [(.long ((p3.toUInt64 >>> ((8 : Int32) &&& 0x3f).toInt64.toUInt64).toInt64)), (.long (((((x10 + (1 : Int64)) + (p3 &&& (15 : Int64))) + (1 : Int64)) + (((p3.toUInt64 >>> ((4 : Int32) &&& 0x3f).toInt64.toUInt64).toInt64) &&& (15 : Int64))) + (1 : Int64))), (.int (3 : Int32)), (.ref b82)])) _
      refine X93.ldc2Long hx hown (mvT hZ (hw _ (List.mem_of_getElem? (i := 7) rfl))) (g := (mkF m 95 #[.val (.long p1), .second, .val (.long p2), .second, .val (.long p3), .second, .val (.long p4), .second, .val (.long x8), .second, .val (.long x10), .second, .val (.ref b82), .unset, .unset, .unset, .unset, .unset, .unset, .unset, .unset, .unset, .unset, .unset] [(.long ((p3.toUInt64 >>> ((8 : Int32) &&& 0x3f).toInt64.toUInt64).toInt64)), (.long (((((x10 + (1 : Int64)) + (p3 &&& (15 : Int64))) + (1 : Int64)) + (((p3.toUInt64 >>> ((4 : Int32) &&& 0x3f).toInt64.toUInt64).toInt64) &&& (15 : Int64))) + (1 : Int64))), (.int (3 : Int32)), (.ref b82)])) rfl (hb hby at_95) _ ?_
      show Steps p.tables e below (T93.setTop (mkF m 98 #[.val (.long p1), .second, .val (.long p2), .second, .val (.long p3), .second, .val (.long p4), .second, .val (.long x8), .second, .val (.long x10), .second, .val (.ref b82), .unset, .unset, .unset, .unset, .unset, .unset, .unset, .unset, .unset, .unset, .unset] [(.long (15 : Int64)), (.long ((p3.toUInt64 >>> ((8 : Int32) &&& 0x3f).toInt64.toUInt64).toInt64)), (.long (((((x10 + (1 : Int64)) + (p3 &&& (15 : Int64))) + (1 : Int64)) + (((p3.toUInt64 >>> ((4 : Int32) &&& 0x3f).toInt64.toUInt64).toInt64) &&& (15 : Int64))) + (1 : Int64))), (.int (3 : Int32)), (.ref b82)])) _
      refine XS.land X93.here hx rfl (hb hby at_98) rfl ?_
      show Steps p.tables e below (T93.setTop (mkF m 99 #[.val (.long p1), .second, .val (.long p2), .second, .val (.long p3), .second, .val (.long p4), .second, .val (.long x8), .second, .val (.long x10), .second, .val (.ref b82), .unset, .unset, .unset, .unset, .unset, .unset, .unset, .unset, .unset, .unset, .unset] [(.long (((p3.toUInt64 >>> ((8 : Int32) &&& 0x3f).toInt64.toUInt64).toInt64) &&& (15 : Int64))), (.long (((((x10 + (1 : Int64)) + (p3 &&& (15 : Int64))) + (1 : Int64)) + (((p3.toUInt64 >>> ((4 : Int32) &&& 0x3f).toInt64.toUInt64).toInt64) &&& (15 : Int64))) + (1 : Int64))), (.int (3 : Int32)), (.ref b82)])) _
      refine XS.ladd X93.here hx rfl (hb hby at_99) rfl ?_
      show Steps p.tables e below (T93.setTop (mkF m 100 #[.val (.long p1), .second, .val (.long p2), .second, .val (.long p3), .second, .val (.long p4), .second, .val (.long x8), .second, .val (.long x10), .second, .val (.ref b82), .unset, .unset, .unset, .unset, .unset, .unset, .unset, .unset, .unset, .unset, .unset] [(.long ((((((x10 + (1 : Int64)) + (p3 &&& (15 : Int64))) + (1 : Int64)) + (((p3.toUInt64 >>> ((4 : Int32) &&& 0x3f).toInt64.toUInt64).toInt64) &&& (15 : Int64))) + (1 : Int64)) + (((p3.toUInt64 >>> ((8 : Int32) &&& 0x3f).toInt64.toUInt64).toInt64) &&& (15 : Int64)))), (.int (3 : Int32)), (.ref b82)])) _
      refine st97 _ ?_
      show Steps p.tables e below (T97.setTop (mkF m 101 #[.val (.long p1), .second, .val (.long p2), .second, .val (.long p3), .second, .val (.long p4), .second, .val (.long x8), .second, .val (.long x10), .second, .val (.ref b82), .unset, .unset, .unset, .unset, .unset, .unset, .unset, .unset, .unset, .unset, .unset] [])) _
      refine XS.aload X97.here hx rfl (hb hby at_101) rfl rfl ?_
      show Steps p.tables e below (T97.setTop (mkF m 103 #[.val (.long p1), .second, .val (.long p2), .second, .val (.long p3), .second, .val (.long p4), .second, .val (.long x8), .second, .val (.long x10), .second, .val (.ref b82), .unset, .unset, .unset, .unset, .unset, .unset, .unset, .unset, .unset, .unset, .unset] [(.ref b82)])) _
      refine XS.iconst X97.here hx rfl (hb hby at_103) ?_
      show Steps p.tables e below (T97.setTop (mkF m 104 #[.val (.long p1), .second, .val (.long p2), .second, .val (.long p3), .second, .val (.long p4), .second, .val (.long x8), .second, .val (.long x10), .second, .val (.ref b82), .unset, .unset, .unset, .unset, .unset, .unset, .unset, .unset, .unset, .unset, .unset] [(.int (4 : Int32)), (.ref b82)])) _
      refine XS.aload X97.here hx rfl (hb hby at_104) rfl rfl ?_
      show Steps p.tables e below (T97.setTop (mkF m 106 #[.val (.long p1), .second, .val (.long p2), .second, .val (.long p3), .second, .val (.long p4), .second, .val (.long x8), .second, .val (.long x10), .second, .val (.ref b82), .unset, .unset, .unset, .unset, .unset, .unset, .unset, .unset, .unset, .unset, .unset] [(.ref b82), (.int (4 : Int32)), (.ref b82)])) _
      refine XS.iconst X97.here hx rfl (hb hby at_106) ?_
      show Steps p.tables e below (T97.setTop (mkF m 107 #[.val (.long p1), .second, .val (.long p2), .second, .val (.long p3), .second, .val (.long p4), .second, .val (.long x8), .second, .val (.long x10), .second, .val (.ref b82), .unset, .unset, .unset, .unset, .unset, .unset, .unset, .unset, .unset, .unset, .unset] [(.int (3 : Int32)), (.ref b82), (.int (4 : Int32)), (.ref b82)])) _
      refine ldJ X97 hx hZ e97 G98 ix99.1 ix99.2 (g := (mkF m 107 #[.val (.long p1), .second, .val (.long p2), .second, .val (.long p3), .second, .val (.long p4), .second, .val (.long x8), .second, .val (.long x10), .second, .val (.ref b82), .unset, .unset, .unset, .unset, .unset, .unset, .unset, .unset, .unset, .unset, .unset] [(.int (3 : Int32)), (.ref b82), (.int (4 : Int32)), (.ref b82)])) rfl rfl (hb hby at_107) _ ?_
      show Steps p.tables e below (T97.setTop (mkF m 108 #[.val (.long p1), .second, .val (.long p2), .second, .val (.long p3), .second, .val (.long p4), .second, .val (.long x8), .second, .val (.long x10), .second, .val (.ref b82), .unset, .unset, .unset, .unset, .unset, .unset, .unset, .unset, .unset, .unset, .unset] [(.long ((((((x10 + (1 : Int64)) + (p3 &&& (15 : Int64))) + (1 : Int64)) + (((p3.toUInt64 >>> ((4 : Int32) &&& 0x3f).toInt64.toUInt64).toInt64) &&& (15 : Int64))) + (1 : Int64)) + (((p3.toUInt64 >>> ((8 : Int32) &&& 0x3f).toInt64.toUInt64).toInt64) &&& (15 : Int64)))), (.int (4 : Int32)), (.ref b82)])) _
      refine XS.lconst X97.here hx rfl (hb hby at_108) ?_
      show Steps p.tables e below (T97.setTop (mkF m 109 #[.val (.long p1), .second, .val (.long p2), .second, .val (.long p3), .second, .val (.long p4), .second, .val (.long x8), .second, .val (.long x10), .second, .val (.ref b82), .unset, .unset, .unset, .unset, .unset, .unset, .unset, .unset, .unset, .unset, .unset] [(.long (1 : Int64)), (.long ((((((x10 + (1 : Int64)) + (p3 &&& (15 : Int64))) + (1 : Int64)) + (((p3.toUInt64 >>> ((4 : Int32) &&& 0x3f).toInt64.toUInt64).toInt64) &&& (15 : Int64))) + (1 : Int64)) + (((p3.toUInt64 >>> ((8 : Int32) &&& 0x3f).toInt64.toUInt64).toInt64) &&& (15 : Int64)))), (.int (4 : Int32)), (.ref b82)])) _
      refine XS.ladd X97.here hx rfl (hb hby at_109) rfl ?_
      show Steps p.tables e below (T97.setTop (mkF m 110 #[.val (.long p1), .second, .val (.long p2), .second, .val (.long p3), .second, .val (.long p4), .second, .val (.long x8), .second, .val (.long x10), .second, .val (.ref b82), .unset, .unset, .unset, .unset, .unset, .unset, .unset, .unset, .unset, .unset, .unset] [(.long (((((((x10 + (1 : Int64)) + (p3 &&& (15 : Int64))) + (1 : Int64)) + (((p3.toUInt64 >>> ((4 : Int32) &&& 0x3f).toInt64.toUInt64).toInt64) &&& (15 : Int64))) + (1 : Int64)) + (((p3.toUInt64 >>> ((8 : Int32) &&& 0x3f).toInt64.toUInt64).toInt64) &&& (15 : Int64))) + (1 : Int64))), (.int (4 : Int32)), (.ref b82)])) _
      refine XS.lload X97.here hx rfl (hb hby at_110) rfl ?_
      show Steps p.tables e below (T97.setTop (mkF m 112 #[.val (.long p1), .second, .val (.long p2), .second, .val (.long p3), .second, .val (.long p4), .second, .val (.long x8), .second, .val (.long x10), .second, .val (.ref b82), .unset, .unset, .unset, .unset, .unset, .unset, .unset, .unset, .unset, .unset, .unset] [(.long p3), (.long (((((((x10 + (1 : Int64)) + (p3 &&& (15 : Int64))) + (1 : Int64)) + (((p3.toUInt64 >>> ((4 : Int32) &&& 0x3f).toInt64.toUInt64).toInt64) &&& (15 : Int64))) + (1 : Int64)) + (((p3.toUInt64 >>> ((8 : Int32) &&& 0x3f).toInt64.toUInt64).toInt64) &&& (15 : Int64))) + (1 : Int64))), (.int (4 : Int32)), (.ref b82)])) _
      refine XS.bipush X97.here hx rfl (hb hby at_112) ?_
      show Steps p.tables e below (T97.setTop (mkF m 114 #[.val (.long p1), .second, .val (.long p2), .second, .val (.long p3), .second, .val (.long p4), .second, .val (.long x8), .second, .val (.long x10), .second, .val (.ref b82), .unset, .unset, .unset, .unset, .unset, .unset, .unset, .unset, .unset, .unset, .unset] [(.int (12 : Int32)), (.long p3), (.long (((((((x10 + (1 : Int64)) + (p3 &&& (15 : Int64))) + (1 : Int64)) + (((p3.toUInt64 >>> ((4 : Int32) &&& 0x3f).toInt64.toUInt64).toInt64) &&& (15 : Int64))) + (1 : Int64)) + (((p3.toUInt64 >>> ((8 : Int32) &&& 0x3f).toInt64.toUInt64).toInt64) &&& (15 : Int64))) + (1 : Int64))), (.int (4 : Int32)), (.ref b82)])) _
      refine XS.lushr X97.here hx rfl (hb hby at_114) rfl ?_
      show Steps p.tables e below (T97.setTop (mkF m 115 #[.val (.long p1), .second, .val (.long p2), .second, .val (.long p3), .second, .val (.long p4), .second, .val (.long x8), .second, .val (.long x10), .second, .val (.ref b82), .unset, .unset, .unset, .unset, .unset, .unset, .unset, .unset, .unset, .unset, .unset] [(.long ((p3.toUInt64 >>> ((12 : Int32) &&& 0x3f).toInt64.toUInt64).toInt64)), (.long (((((((x10 + (1 : Int64)) + (p3 &&& (15 : Int64))) + (1 : Int64)) + (((p3.toUInt64 >>> ((4 : Int32) &&& 0x3f).toInt64.toUInt64).toInt64) &&& (15 : Int64))) + (1 : Int64)) + (((p3.toUInt64 >>> ((8 : Int32) &&& 0x3f).toInt64.toUInt64).toInt64) &&& (15 : Int64))) + (1 : Int64))), (.int (4 : Int32)), (.ref b82)])) _
      refine X97.ldc2Long hx hown (mvT hZ (hw _ (List.mem_of_getElem? (i := 7) rfl))) (g := (mkF m 115 #[.val (.long p1), .second, .val (.long p2), .second, .val (.long p3), .second, .val (.long p4), .second, .val (.long x8), .second, .val (.long x10), .second, .val (.ref b82), .unset, .unset, .unset, .unset, .unset, .unset, .unset, .unset, .unset, .unset, .unset] [(.long ((p3.toUInt64 >>> ((12 : Int32) &&& 0x3f).toInt64.toUInt64).toInt64)), (.long (((((((x10 + (1 : Int64)) + (p3 &&& (15 : Int64))) + (1 : Int64)) + (((p3.toUInt64 >>> ((4 : Int32) &&& 0x3f).toInt64.toUInt64).toInt64) &&& (15 : Int64))) + (1 : Int64)) + (((p3.toUInt64 >>> ((8 : Int32) &&& 0x3f).toInt64.toUInt64).toInt64) &&& (15 : Int64))) + (1 : Int64))), (.int (4 : Int32)), (.ref b82)])) rfl (hb hby at_115) _ ?_
      show Steps p.tables e below (T97.setTop (mkF m 118 #[.val (.long p1), .second, .val (.long p2), .second, .val (.long p3), .second, .val (.long p4), .second, .val (.long x8), .second, .val (.long x10), .second, .val (.ref b82), .unset, .unset, .unset, .unset, .unset, .unset, .unset, .unset, .unset, .unset, .unset] [(.long (15 : Int64)), (.long ((p3.toUInt64 >>> ((12 : Int32) &&& 0x3f).toInt64.toUInt64).toInt64)), (.long (((((((x10 + (1 : Int64)) + (p3 &&& (15 : Int64))) + (1 : Int64)) + (((p3.toUInt64 >>> ((4 : Int32) &&& 0x3f).toInt64.toUInt64).toInt64) &&& (15 : Int64))) + (1 : Int64)) + (((p3.toUInt64 >>> ((8 : Int32) &&& 0x3f).toInt64.toUInt64).toInt64) &&& (15 : Int64))) + (1 : Int64))), (.int (4 : Int32)), (.ref b82)])) _
      refine XS.land X97.here hx rfl (hb hby at_118) rfl ?_
      show Steps p.tables e below (T97.setTop (mkF m 119 #[.val (.long p1), .second, .val (.long p2), .second, .val (.long p3), .second, .val (.long p4), .second, .val (.long x8), .second, .val (.long x10), .second, .val (.ref b82), .unset, .unset, .unset, .unset, .unset, .unset, .unset, .unset, .unset, .unset, .unset] [(.long (((p3.toUInt64 >>> ((12 : Int32) &&& 0x3f).toInt64.toUInt64).toInt64) &&& (15 : Int64))), (.long (((((((x10 + (1 : Int64)) + (p3 &&& (15 : Int64))) + (1 : Int64)) + (((p3.toUInt64 >>> ((4 : Int32) &&& 0x3f).toInt64.toUInt64).toInt64) &&& (15 : Int64))) + (1 : Int64)) + (((p3.toUInt64 >>> ((8 : Int32) &&& 0x3f).toInt64.toUInt64).toInt64) &&& (15 : Int64))) + (1 : Int64))), (.int (4 : Int32)), (.ref b82)])) _
      refine XS.ladd X97.here hx rfl (hb hby at_119) rfl ?_
      show Steps p.tables e below (T97.setTop (mkF m 120 #[.val (.long p1), .second, .val (.long p2), .second, .val (.long p3), .second, .val (.long p4), .second, .val (.long x8), .second, .val (.long x10), .second, .val (.ref b82), .unset, .unset, .unset, .unset, .unset, .unset, .unset, .unset, .unset, .unset, .unset] [(.long ((((((((x10 + (1 : Int64)) + (p3 &&& (15 : Int64))) + (1 : Int64)) + (((p3.toUInt64 >>> ((4 : Int32) &&& 0x3f).toInt64.toUInt64).toInt64) &&& (15 : Int64))) + (1 : Int64)) + (((p3.toUInt64 >>> ((8 : Int32) &&& 0x3f).toInt64.toUInt64).toInt64) &&& (15 : Int64))) + (1 : Int64)) + (((p3.toUInt64 >>> ((12 : Int32) &&& 0x3f).toInt64.toUInt64).toInt64) &&& (15 : Int64)))), (.int (4 : Int32)), (.ref b82)])) _
      refine st101 _ ?_
      show Steps p.tables e below (T101.setTop (mkF m 121 #[.val (.long p1), .second, .val (.long p2), .second, .val (.long p3), .second, .val (.long p4), .second, .val (.long x8), .second, .val (.long x10), .second, .val (.ref b82), .unset, .unset, .unset, .unset, .unset, .unset, .unset, .unset, .unset, .unset, .unset] [])) _
      refine XS.aload X101.here hx rfl (hb hby at_121) rfl rfl ?_
      show Steps p.tables e below (T101.setTop (mkF m 123 #[.val (.long p1), .second, .val (.long p2), .second, .val (.long p3), .second, .val (.long p4), .second, .val (.long x8), .second, .val (.long x10), .second, .val (.ref b82), .unset, .unset, .unset, .unset, .unset, .unset, .unset, .unset, .unset, .unset, .unset] [(.ref b82)])) _
      refine XS.iconst X101.here hx rfl (hb hby at_123) ?_
      show Steps p.tables e below (T101.setTop (mkF m 124 #[.val (.long p1), .second, .val (.long p2), .second, .val (.long p3), .second, .val (.long p4), .second, .val (.long x8), .second, .val (.long x10), .second, .val (.ref b82), .unset, .unset, .unset, .unset, .unset, .unset, .unset, .unset, .unset, .unset, .unset] [(.int (5 : Int32)), (.ref b82)])) _
      refine XS.aload X101.here hx rfl (hb hby at_124) rfl rfl ?_
      show Steps p.tables e below (T101.setTop (mkF m 126 #[.val (.long p1), .second, .val (.long p2), .second, .val (.long p3), .second, .val (.long p4), .second, .val (.long x8), .second, .val (.long x10), .second, .val (.ref b82), .unset, .unset, .unset, .unset, .unset, .unset, .unset, .unset, .unset, .unset, .unset] [(.ref b82), (.int (5 : Int32)), (.ref b82)])) _
      refine XS.iconst X101.here hx rfl (hb hby at_126) ?_
      show Steps p.tables e below (T101.setTop (mkF m 127 #[.val (.long p1), .second, .val (.long p2), .second, .val (.long p3), .second, .val (.long p4), .second, .val (.long x8), .second, .val (.long x10), .second, .val (.ref b82), .unset, .unset, .unset, .unset, .unset, .unset, .unset, .unset, .unset, .unset, .unset] [(.int (4 : Int32)), (.ref b82), (.int (5 : Int32)), (.ref b82)])) _
      refine ldJ X101 hx hZ e101 G102 ix103.1 ix103.2 (g := (mkF m 127 #[.val (.long p1), .second, .val (.long p2), .second, .val (.long p3), .second, .val (.long p4), .second, .val (.long x8), .second, .val (.long x10), .second, .val (.ref b82), .unset, .unset, .unset, .unset, .unset, .unset, .unset, .unset, .unset, .unset, .unset] [(.int (4 : Int32)), (.ref b82), (.int (5 : Int32)), (.ref b82)])) rfl rfl (hb hby at_127) _ ?_
      show Steps p.tables e below (T101.setTop (mkF m 128 #[.val (.long p1), .second, .val (.long p2), .second, .val (.long p3), .second, .val (.long p4), .second, .val (.long x8), .second, .val (.long x10), .second, .val (.ref b82), .unset, .unset, .unset, .unset, .unset, .unset, .unset, .unset, .unset, .unset, .unset] [(.long ((((((((x10 + (1 : Int64)) + (p3 &&& (15 : Int64))) + (1 : Int64)) + (((p3.toUInt64 >>> ((4 : Int32) &&& 0x3f).toInt64.toUInt64).toInt64) &&& (15 : Int64))) + (1 : Int64)) + (((p3.toUInt64 >>> ((8 : Int32) &&& 0x3f).toInt64.toUInt64).toInt64) &&& (15 : Int64))) + (1 : Int64)) + (((p3.toUInt64 >>> ((12 : Int32) &&& 0x3f).toInt64.toUInt64).toInt64) &&& (15 : Int64)))), (.int (5 : Int32)), (.ref b82)])) _
      refine XS.lconst X101.here hx rfl (hb hby at_128) ?_
      show Steps p.tables e below (T101.setTop (mkF m 129 #[.val (.long p1), .second, .val (.long p2), .second, .val (.long p3), .second, .val (.long p4), .second, .val (.long x8), .second, .val (.long x10), .second, .val (.ref b82), .unset, .unset, .unset, .unset, .unset, .unset, .unset, .unset, .unset, .unset, .unset] [(.long (1 : Int64)), (.long ((((((((x10 + (1 : Int64)) + (p3 &&& (15 : Int64))) + (1 : Int64)) + (((p3.toUInt64 >>> ((4 : Int32) &&& 0x3f).toInt64.toUInt64).toInt64) &&& (15 : Int64))) + (1 : Int64)) + (((p3.toUInt64 >>> ((8 : Int32) &&& 0x3f).toInt64.toUInt64).toInt64) &&& (15 : Int64))) + (1 : Int64)) + (((p3.toUInt64 >>> ((12 : Int32) &&& 0x3f).toInt64.toUInt64).toInt64) &&& (15 : Int64)))), (.int (5 : Int32)), (.ref b82)])) _
      refine XS.ladd X101.here hx rfl (hb hby at_129) rfl ?_
      show Steps p.tables e below (T101.setTop (mkF m 130 #[.val (.long p1), .second, .val (.long p2), .second, .val (.long p3), .second, .val (.long p4), .second, .val (.long x8), .second, .val (.long x10), .second, .val (.ref b82), .unset, .unset, .unset, .unset, .unset, .unset, .unset, .unset, .unset, .unset, .unset] [(.long (((((((((x10 + (1 : Int64)) + (p3 &&& (15 : Int64))) + (1 : Int64)) + (((p3.toUInt64 >>> ((4 : Int32) &&& 0x3f).toInt64.toUInt64).toInt64) &&& (15 : Int64))) + (1 : Int64)) + (((p3.toUInt64 >>> ((8 : Int32) &&& 0x3f).toInt64.toUInt64).toInt64) &&& (15 : Int64))) + (1 : Int64)) + (((p3.toUInt64 >>> ((12 : Int32) &&& 0x3f).toInt64.toUInt64).toInt64) &&& (15 : Int64))) + (1 : Int64))), (.int (5 : Int32)), (.ref b82)])) _
      refine XS.lload X101.here hx rfl (hb hby at_130) rfl ?_
      show Steps p.tables e below (T101.setTop (mkF m 132 #[.val (.long p1), .second, .val (.long p2), .second, .val (.long p3), .second, .val (.long p4), .second, .val (.long x8), .second, .val (.long x10), .second, .val (.ref b82), .unset, .unset, .unset, .unset, .unset, .unset, .unset, .unset, .unset, .unset, .unset] [(.long p3), (.long (((((((((x10 + (1 : Int64)) + (p3 &&& (15 : Int64))) + (1 : Int64)) + (((p3.toUInt64 >>> ((4 : Int32) &&& 0x3f).toInt64.toUInt64).toInt64) &&& (15 : Int64))) + (1 : Int64)) + (((p3.toUInt64 >>> ((8 : Int32) &&& 0x3f).toInt64.toUInt64).toInt64) &&& (15 : Int64))) + (1 : Int64)) + (((p3.toUInt64 >>> ((12 : Int32) &&& 0x3f).toInt64.toUInt64).toInt64) &&& (15 : Int64))) + (1 : Int64))), (.int (5 : Int32)), (.ref b82)])) _
      refine XS.bipush X101.here hx rfl (hb hby at_132) ?_
      show Steps p.tables e below (T101.setTop (mkF m 134 #[.val (.long p1), .second, .val (.long p2), .second, .val (.long p3), .second, .val (.long p4), .second, .val (.long x8), .second, .val (.long x10), .second, .val (.ref b82), .unset, .unset, .unset, .unset, .unset, .unset, .unset, .unset, .unset, .unset, .unset] [(.int (16 : Int32)), (.long p3), (.long (((((((((x10 + (1 : Int64)) + (p3 &&& (15 : Int64))) + (1 : Int64)) + (((p3.toUInt64 >>> ((4 : Int32) &&& 0x3f).toInt64.toUInt64).toInt64) &&& (15 : Int64))) + (1 : Int64)) + (((p3.toUInt64 >>> ((8 : Int32) &&& 0x3f).toInt64.toUInt64).toInt64) &&& (15 : Int64))) + (1 : Int64)) + (((p3.toUInt64 >>> ((12 : Int32) &&& 0x3f).toInt64.toUInt64).toInt64) &&& (15 : Int64))) + (1 : Int64))), (.int (5 : Int32)), (.ref b82)])) _
      refine XS.lushr X101.here hx rfl (hb hby at_134) rfl ?_
      show Steps p.tables e below (T101.setTop (mkF m 135 #[.val (.long p1), .second, .val (.long p2), .second, .val (.long p3), .second, .val (.long p4), .second, .val (.long x8), .second, .val (.long x10), .second, .val (.ref b82), .unset, .unset, .unset, .unset, .unset, .unset, .unset, .unset, .unset, .unset, .unset] [(.long ((p3.toUInt64 >>> ((16 : Int32) &&& 0x3f).toInt64.toUInt64).toInt64)), (.long (((((((((x10 + (1 : Int64)) + (p3 &&& (15 : Int64))) + (1 : Int64)) + (((p3.toUInt64 >>> ((4 : Int32) &&& 0x3f).toInt64.toUInt64).toInt64) &&& (15 : Int64))) + (1 : Int64)) + (((p3.toUInt64 >>> ((8 : Int32) &&& 0x3f).toInt64.toUInt64).toInt64) &&& (15 : Int64))) + (1 : Int64)) + (((p3.toUInt64 >>> ((12 : Int32) &&& 0x3f).toInt64.toUInt64).toInt64) &&& (15 : Int64))) + (1 : Int64))), (.int (5 : Int32)), (.ref b82)])) _
      refine X101.ldc2Long hx hown (mvT hZ (hw _ (List.mem_of_getElem? (i := 7) rfl))) (g := (mkF m 135 #[.val (.long p1), .second, .val (.long p2), .second, .val (.long p3), .second, .val (.long p4), .second, .val (.long x8), .second, .val (.long x10), .second, .val (.ref b82), .unset, .unset, .unset, .unset, .unset, .unset, .unset, .unset, .unset, .unset, .unset] [(.long ((p3.toUInt64 >>> ((16 : Int32) &&& 0x3f).toInt64.toUInt64).toInt64)), (.long (((((((((x10 + (1 : Int64)) + (p3 &&& (15 : Int64))) + (1 : Int64)) + (((p3.toUInt64 >>> ((4 : Int32) &&& 0x3f).toInt64.toUInt64).toInt64) &&& (15 : Int64))) + (1 : Int64)) + (((p3.toUInt64 >>> ((8 : Int32) &&& 0x3f).toInt64.toUInt64).toInt64) &&& (15 : Int64))) + (1 : Int64)) + (((p3.toUInt64 >>> ((12 : Int32) &&& 0x3f).toInt64.toUInt64).toInt64) &&& (15 : Int64))) + (1 : Int64))), (.int (5 : Int32)), (.ref b82)])) rfl (hb hby at_135) _ ?_
      show Steps p.tables e below (T101.setTop (mkF m 138 #[.val (.long p1), .second, .val (.long p2), .second, .val (.long p3), .second, .val (.long p4), .second, .val (.long x8), .second, .val (.long x10), .second, .val (.ref b82), .unset, .unset, .unset, .unset, .unset, .unset, .unset, .unset, .unset, .unset, .unset] [(.long (15 : Int64)), (.long ((p3.toUInt64 >>> ((16 : Int32) &&& 0x3f).toInt64.toUInt64).toInt64)), (.long (((((((((x10 + (1 : Int64)) + (p3 &&& (15 : Int64))) + (1 : Int64)) + (((p3.toUInt64 >>> ((4 : Int32) &&& 0x3f).toInt64.toUInt64).toInt64) &&& (15 : Int64))) + (1 : Int64)) + (((p3.toUInt64 >>> ((8 : Int32) &&& 0x3f).toInt64.toUInt64).toInt64) &&& (15 : Int64))) + (1 : Int64)) + (((p3.toUInt64 >>> ((12 : Int32) &&& 0x3f).toInt64.toUInt64).toInt64) &&& (15 : Int64))) + (1 : Int64))), (.int (5 : Int32)), (.ref b82)])) _
      refine XS.land X101.here hx rfl (hb hby at_138) rfl ?_
      show Steps p.tables e below (T101.setTop (mkF m 139 #[.val (.long p1), .second, .val (.long p2), .second, .val (.long p3), .second, .val (.long p4), .second, .val (.long x8), .second, .val (.long x10), .second, .val (.ref b82), .unset, .unset, .unset, .unset, .unset, .unset, .unset, .unset, .unset, .unset, .unset] [(.long (((p3.toUInt64 >>> ((16 : Int32) &&& 0x3f).toInt64.toUInt64).toInt64) &&& (15 : Int64))), (.long (((((((((x10 + (1 : Int64)) + (p3 &&& (15 : Int64))) + (1 : Int64)) + (((p3.toUInt64 >>> ((4 : Int32) &&& 0x3f).toInt64.toUInt64).toInt64) &&& (15 : Int64))) + (1 : Int64)) + (((p3.toUInt64 >>> ((8 : Int32) &&& 0x3f).toInt64.toUInt64).toInt64) &&& (15 : Int64))) + (1 : Int64)) + (((p3.toUInt64 >>> ((12 : Int32) &&& 0x3f).toInt64.toUInt64).toInt64) &&& (15 : Int64))) + (1 : Int64))), (.int (5 : Int32)), (.ref b82)])) _
      refine XS.ladd X101.here hx rfl (hb hby at_139) rfl ?_
      show Steps p.tables e below (T101.setTop (mkF m 140 #[.val (.long p1), .second, .val (.long p2), .second, .val (.long p3), .second, .val (.long p4), .second, .val (.long x8), .second, .val (.long x10), .second, .val (.ref b82), .unset, .unset, .unset, .unset, .unset, .unset, .unset, .unset, .unset, .unset, .unset] [(.long ((((((((((x10 + (1 : Int64)) + (p3 &&& (15 : Int64))) + (1 : Int64)) + (((p3.toUInt64 >>> ((4 : Int32) &&& 0x3f).toInt64.toUInt64).toInt64) &&& (15 : Int64))) + (1 : Int64)) + (((p3.toUInt64 >>> ((8 : Int32) &&& 0x3f).toInt64.toUInt64).toInt64) &&& (15 : Int64))) + (1 : Int64)) + (((p3.toUInt64 >>> ((12 : Int32) &&& 0x3f).toInt64.toUInt64).toInt64) &&& (15 : Int64))) + (1 : Int64)) + (((p3.toUInt64 >>> ((16 : Int32) &&& 0x3f).toInt64.toUInt64).toInt64) &&& (15 : Int64)))), (.int (5 : Int32)), (.ref b82)])) _
      refine st105 _ ?_
      show Steps p.tables e below (T105.setTop (mkF m 141 #[.val (.long p1), .second, .val (.long p2), .second, .val (.long p3), .second, .val (.long p4), .second, .val (.long x8), .second, .val (.long x10), .second, .val (.ref b82), .unset, .unset, .unset, .unset, .unset, .unset, .unset, .unset, .unset, .unset, .unset] [])) _
      refine XS.aload X105.here hx rfl (hb hby at_141) rfl rfl ?_
      show Steps p.tables e below (T105.setTop (mkF m 143 #[.val (.long p1), .second, .val (.long p2), .second, .val (.long p3), .second, .val (.long p4), .second, .val (.long x8), .second, .val (.long x10), .second, .val (.ref b82), .unset, .unset, .unset, .unset, .unset, .unset, .unset, .unset, .unset, .unset, .unset] [(.ref b82)])) _
      refine XS.bipush X105.here hx rfl (hb hby at_143) ?_
      show Steps p.tables e below (T105.setTop (mkF m 145 #[.val (.long p1), .second, .val (.long p2), .second, .val (.long p3), .second, .val (.long p4), .second, .val (.long x8), .second, .val (.long x10), .second, .val (.ref b82), .unset, .unset, .unset, .unset, .unset, .unset, .unset, .unset, .unset, .unset, .unset] [(.int (6 : Int32)), (.ref b82)])) _
      refine XS.aload X105.here hx rfl (hb hby at_145) rfl rfl ?_
      show Steps p.tables e below (T105.setTop (mkF m 147 #[.val (.long p1), .second, .val (.long p2), .second, .val (.long p3), .second, .val (.long p4), .second, .val (.long x8), .second, .val (.long x10), .second, .val (.ref b82), .unset, .unset, .unset, .unset, .unset, .unset, .unset, .unset, .unset, .unset, .unset] [(.ref b82), (.int (6 : Int32)), (.ref b82)])) _
      refine XS.iconst X105.here hx rfl (hb hby at_147) ?_
      show Steps p.tables e below (T105.setTop (mkF m 148 #[.val (.long p1), .second, .val (.long p2), .second, .val (.long p3), .second, .val (.long p4), .second, .val (.long x8), .second, .val (.long x10), .second, .val (.ref b82), .unset, .unset, .unset, .unset, .unset, .unset, .unset, .unset, .unset, .unset, .unset] [(.int (5 : Int32)), (.ref b82), (.int (6 : Int32)), (.ref b82)])) _
      refine ldJ X105 hx hZ e105 G106 ix107.1 ix107.2 (g := (mkF m 148 #[.val (.long p1), .second, .val (.long p2), .second, .val (.long p3), .second, .val (.long p4), .second, .val (.long x8), .second, .val (.long x10), .second, .val (.ref b82), .unset, .unset, .unset, .unset, .unset, .unset, .unset, .unset, .unset, .unset, .unset] [(.int (5 : Int32)), (.ref b82), (.int (6 : Int32)), (.ref b82)])) rfl rfl (hb hby at_148) _ ?_
      show Steps p.tables e below (T105.setTop (mkF m 149 #[.val (.long p1), .second, .val (.long p2), .second, .val (.long p3), .second, .val (.long p4), .second, .val (.long x8), .second, .val (.long x10), .second, .val (.ref b82), .unset, .unset, .unset, .unset, .unset, .unset, .unset, .unset, .unset, .unset, .unset] [(.long ((((((((((x10 + (1 : Int64)) + (p3 &&& (15 : Int64))) + (1 : Int64)) + (((p3.toUInt64 >>> ((4 : Int32) &&& 0x3f).toInt64.toUInt64).toInt64) &&& (15 : Int64))) + (1 : Int64)) + (((p3.toUInt64 >>> ((8 : Int32) &&& 0x3f).toInt64.toUInt64).toInt64) &&& (15 : Int64))) + (1 : Int64)) + (((p3.toUInt64 >>> ((12 : Int32) &&& 0x3f).toInt64.toUInt64).toInt64) &&& (15 : Int64))) + (1 : Int64)) + (((p3.toUInt64 >>> ((16 : Int32) &&& 0x3f).toInt64.toUInt64).toInt64) &&& (15 : Int64)))), (.int (6 : Int32)), (.ref b82)])) _
      refine XS.lconst X105.here hx rfl (hb hby at_149) ?_
      show Steps p.tables e below (T105.setTop (mkF m 150 #[.val (.long p1), .second, .val (.long p2), .second, .val (.long p3), .second, .val (.long p4), .second, .val (.long x8), .second, .val (.long x10), .second, .val (.ref b82), .unset, .unset, .unset, .unset, .unset, .unset, .unset, .unset, .unset, .unset, .unset] [(.long (1 : Int64)), (.long ((((((((((x10 + (1 : Int64)) + (p3 &&& (15 : Int64))) + (1 : Int64)) + (((p3.toUInt64 >>> ((4 : Int32) &&& 0x3f).toInt64.toUInt64).toInt64) &&& (15 : Int64))) + (1 : Int64)) + (((p3.toUInt64 >>> ((8 : Int32) &&& 0x3f).toInt64.toUInt64).toInt64) &&& (15 : Int64))) + (1 : Int64)) + (((p3.toUInt64 >>> ((12 : Int32) &&& 0x3f).toInt64.toUInt64).toInt64) &&& (15 : Int64))) + (1 : Int64)) + (((p3.toUInt64 >>> ((16 : Int32) &&& 0x3f).toInt64.toUInt64).toInt64) &&& (15 : Int64)))), (.int (6 : Int32)), (.ref b82)])) _
      refine XS.ladd X105.here hx rfl (hb hby at_150) rfl ?_
      show Steps p.tables e below (T105.setTop (mkF m 151 #[.val (.long p1), .second, .val (.long p2), .second, .val (.long p3), .second, .val (.long p4), .second, .val (.long x8), .second, .val (.long x10), .second, .val (.ref b82), .unset, .unset, .unset, .unset, .unset, .unset, .unset, .unset, .unset, .unset, .unset] [(.long (((((((((((x10 + (1 : Int64)) + (p3 &&& (15 : Int64))) + (1 : Int64)) + (((p3.toUInt64 >>> ((4 : Int32) &&& 0x3f).toInt64.toUInt64).toInt64) &&& (15 : Int64))) + (1 : Int64)) + (((p3.toUInt64 >>> ((8 : Int32) &&& 0x3f).toInt64.toUInt64).toInt64) &&& (15 : Int64))) + (1 : Int64)) + (((p3.toUInt64 >>> ((12 : Int32) &&& 0x3f).toInt64.toUInt64).toInt64) &&& (15 : Int64))) + (1 : Int64)) + (((p3.toUInt64 >>> ((16 : Int32) &&& 0x3f).toInt64.toUInt64).toInt64) &&& (15 : Int64))) + (1 : Int64))), (.int (6 : Int32)), (.ref b82)])) _
      refine XS.lload X105.here hx rfl (hb hby at_151) rfl ?_
      show Steps p.tables e below (T105.setTop (mkF m 153 #[.val (.long p1), .second, .val (.long p2), .second, .val (.long p3), .second, .val (.long p4), .second, .val (.long x8), .second, .val (.long x10), .second, .val (.ref b82), .unset, .unset, .unset, .unset, .unset, .unset, .unset, .unset, .unset, .unset, .unset] [(.long p3), (.long (((((((((((x10 + (1 : Int64)) + (p3 &&& (15 : Int64))) + (1 : Int64)) + (((p3.toUInt64 >>> ((4 : Int32) &&& 0x3f).toInt64.toUInt64).toInt64) &&& (15 : Int64))) + (1 : Int64)) + (((p3.toUInt64 >>> ((8 : Int32) &&& 0x3f).toInt64.toUInt64).toInt64) &&& (15 : Int64))) + (1 : Int64)) + (((p3.toUInt64 >>> ((12 : Int32) &&& 0x3f).toInt64.toUInt64).toInt64) &&& (15 : Int64))) + (1 : Int64)) + (((p3.toUInt64 >>> ((16 : Int32) &&& 0x3f).toInt64.toUInt64).toInt64) &&& (15 : Int64))) + (1 : Int64))), (.int (6 : Int32)), (.ref b82)])) _
      refine XS.bipush X105.here hx rfl (hb hby at_153) ?_
      show Steps p.tables e below (T105.setTop (mkF m 155 #[.val (.long p1), .second, .val (.long p2), .second, .val (.long p3), .second, .val (.long p4), .second, .val (.long x8), .second, .val (.long x10), .second, .val (.ref b82), .unset, .unset, .unset, .unset, .unset, .unset, .unset, .unset, .unset, .unset, .unset] [(.int (20 : Int32)), (.long p3), (.long (((((((((((x10 + (1 : Int64)) + (p3 &&& (15 : Int64))) + (1 : Int64)) + (((p3.toUInt64 >>> ((4 : Int32) &&& 0x3f).toInt64.toUInt64).toInt64) &&& (15 : Int64))) + (1 : Int64)) + (((p3.toUInt64 >>> ((8 : Int32) &&& 0x3f).toInt64.toUInt64).toInt64) &&& (15 : Int64))) + (1 : Int64)) + (((p3.toUInt64 >>> ((12 : Int32) &&& 0x3f).toInt64.toUInt64).toInt64) &&& (15 : Int64))) + (1 : Int64)) + (((p3.toUInt64 >>> ((16 : Int32) &&& 0x3f).toInt64.toUInt64).toInt64) &&& (15 : Int64))) + (1 : Int64))), (.int (6 : Int32)), (.ref b82)])) _
      refine XS.lushr X105.here hx rfl (hb hby at_155) rfl ?_
      show Steps p.tables e below (T105.setTop (mkF m 156 #[.val (.long p1), .second, .val (.long p2), .second, .val (.long p3), .second, .val (.long p4), .second, .val (.long x8), .second, .val (.long x10), .second, .val (.ref b82), .unset, .unset, .unset, .unset, .unset, .unset, .unset, .unset, .unset, .unset, .unset] [(.long ((p3.toUInt64 >>> ((20 : Int32) &&& 0x3f).toInt64.toUInt64).toInt64)), (.long (((((((((((x10 + (1 : Int64)) + (p3 &&& (15 : Int64))) + (1 : Int64)) + (((p3.toUInt64 >>> ((4 : Int32) &&& 0x3f).toInt64.toUInt64).toInt64) &&& (15 : Int64))) + (1 : Int64)) + (((p3.toUInt64 >>> ((8 : Int32) &&& 0x3f).toInt64.toUInt64).toInt64) &&& (15 : Int64))) + (1 : Int64)) + (((p3.toUInt64 >>> ((12 : Int32) &&& 0x3f).toInt64.toUInt64).toInt64) &&& (15 : Int64))) + (1 : Int64)) + (((p3.toUInt64 >>> ((16 : Int32) &&& 0x3f).toInt64.toUInt64).toInt64) &&& (15 : Int64))) + (1 : Int64))), (.int (6 : Int32)), (.ref b82)])) _
      refine X105.ldc2Long hx hown (mvT hZ (hw _ (List.mem_of_getElem? (i := 7) rfl))) (g := (mkF m 156 #[.val (.long p1), .second, .val (.long p2), .second, .val (.long p3), .second, .val (.long p4), .second, .val (.long x8), .second, .val (.long x10), .second, .val (.ref b82), .unset, .unset, .unset, .unset, .unset, .unset, .unset, .unset, .unset, .unset, .unset] [(.long ((p3.toUInt64 >>> ((20 : Int32) &&& 0x3f).toInt64.toUInt64).toInt64)), (.long (((((((((((x10 + (1 : Int64)) + (p3 &&& (15 : Int64))) + (1 : Int64)) + (((p3.toUInt64 >>> ((4 : Int32) &&& 0x3f).toInt64.toUInt64).toInt64) &&& (15 : Int64))) + (1 : Int64)) + (((p3.toUInt64 >>> ((8 : Int32) &&& 0x3f).toInt64.toUInt64).toInt64) &&& (15 : Int64))) + (1 : Int64)) + (((p3.toUInt64 >>> ((12 : Int32) &&& 0x3f).toInt64.toUInt64).toInt64) &&& (15 : Int64))) + (1 : Int64)) + (((p3.toUInt64 >>> ((16 : Int32) &&& 0x3f).toInt64.toUInt64).toInt64) &&& (15 : Int64))) + (1 : Int64))), (.int (6 : Int32)), (.ref b82)])) rfl (hb hby at_156) _ ?_
      show Steps p.tables e below (T105.setTop (mkF m 159 #[.val (.long p1), .second, .val (.long p2), .second, .val (.long p3), .second, .val (.long p4), .second, .val (.long x8), .second, .val (.long x10), .second, .val (.ref b82), .unset, .unset, .unset, .unset, .unset, .unset, .unset, .unset, .unset, .unset, .unset] [(.long (15 : Int64)), (.long ((p3.toUInt64 >>> ((20 : Int32) &&& 0x3f).toInt64.toUInt64).toInt64)), (.long (((((((((((x10 + (1 : Int64)) + (p3 &&& (15 : Int64))) + (1 : Int64)) + (((p3.toUInt64 >>> ((4 : Int32) &&& 0x3f).toInt64.toUInt64).toInt64) &&& (15 : Int64))) + (1 : Int64)) + (((p3.toUInt64 >>> ((8 : Int32) &&& 0x3f).toInt64.toUInt64).toInt64) &&& (15 : Int64))) + (1 : Int64)) + (((p3.toUInt64 >>> ((12 : Int32) &&& 0x3f).toInt64.toUInt64).toInt64) &&& (15 : Int64))) + (1 : Int64)) + (((p3.toUInt64 >>> ((16 : Int32) &&& 0x3f).toInt64.toUInt64).toInt64) &&& (15 : Int64))) + (1 : Int64))), (.int (6 : Int32)), (.ref b82)])) _
      refine XS.land X105.here hx rfl (hb hby at_159) rfl ?_
      show Steps p.tables e below (T105.setTop (mkF m 160 #[.val (.long p1), .second, .val (.long p2), .second, .val (.long p3), .second, .val (.long p4), .second, .val (.long x8), .second, .val (.long x10), .second, .val (.ref b82), .unset, .unset, .unset, .unset, .unset, .unset, .unset, .unset, .unset, .unset, .unset] [(.long (((p3.toUInt64 >>> ((20 : Int32) &&& 0x3f).toInt64.toUInt64).toInt64) &&& (15 : Int64))), (.long (((((((((((x10 + (1 : Int64)) + (p3 &&& (15 : Int64))) + (1 : Int64)) + (((p3.toUInt64 >>> ((4 : Int32) &&& 0x3f).toInt64.toUInt64).toInt64) &&& (15 : Int64))) + (1 : Int64)) + (((p3.toUInt64 >>> ((8 : Int32) &&& 0x3f).toInt64.toUInt64).toInt64) &&& (15 : Int64))) + (1 : Int64)) + (((p3.toUInt64 >>> ((12 : Int32) &&& 0x3f).toInt64.toUInt64).toInt64) &&& (15 : Int64))) + (1 : Int64)) + (((p3.toUInt64 >>> ((16 : Int32) &&& 0x3f).toInt64.toUInt64).toInt64) &&& (15 : Int64))) + (1 : Int64))), (.int (6 : Int32)), (.ref b82)])) _
      refine XS.ladd X105.here hx rfl (hb hby at_160) rfl ?_
      show Steps p.tables e below (T105.setTop (mkF m 161 #[.val (.long p1), .second, .val (.long p2), .second, .val (.long p3), .second, .val (.long p4), .second, .val (.long x8), .second, .val (.long x10), .second, .val (.ref b82), .unset, .unset, .unset, .unset, .unset, .unset, .unset, .unset, .unset, .unset, .unset] [(.long ((((((((((((x10 + (1 : Int64)) + (p3 &&& (15 : Int64))) + (1 : Int64)) + (((p3.toUInt64 >>> ((4 : Int32) &&& 0x3f).toInt64.toUInt64).toInt64) &&& (15 : Int64))) + (1 : Int64)) + (((p3.toUInt64 >>> ((8 : Int32) &&& 0x3f).toInt64.toUInt64).toInt64) &&& (15 : Int64))) + (1 : Int64)) + (((p3.toUInt64 >>> ((12 : Int32) &&& 0x3f).toInt64.toUInt64).toInt64) &&& (15 : Int64))) + (1 : Int64)) + (((p3.toUInt64 >>> ((16 : Int32) &&& 0x3f).toInt64.toUInt64).toInt64) &&& (15 : Int64))) + (1 : Int64)) + (((p3.toUInt64 >>> ((20 : Int32) &&& 0x3f).toInt64.toUInt64).toInt64) &&& (15 : Int64)))), (.int (6 : Int32)), (.ref b82)])) _
      refine st109 _ ?_
      show Steps p.tables e below (T109.setTop (mkF m 162 #[.val (.long p1), .second, .val (.long p2), .second, .val (.long p3), .second, .val (.long p4), .second, .val (.long x8), .second, .val (.long x10), .second, .val (.ref b82), .unset, .unset, .unset, .unset, .unset, .unset, .unset, .unset, .unset, .unset, .unset] [])) _
      refine XS.aload X109.here hx rfl (hb hby at_162) rfl rfl ?_
      show Steps p.tables e below (T109.setTop (mkF m 164 #[.val (.long p1), .second, .val (.long p2), .second, .val (.long p3), .second, .val (.long p4), .second, .val (.long x8), .second, .val (.long x10), .second, .val (.ref b82), .unset, .unset, .unset, .unset, .unset, .unset, .unset, .unset, .unset, .unset, .unset] [(.ref b82)])) _
      refine XS.bipush X109.here hx rfl (hb hby at_164) ?_
      show Steps p.tables e below (T109.setTop (mkF m 166 #[.val (.long p1), .second, .val (.long p2), .second, .val (.long p3), .second, .val (.long p4), .second, .val (.long x8), .second, .val (.long x10), .second, .val (.ref b82), .unset, .unset, .unset, .unset, .unset, .unset, .unset, .unset, .unset, .unset, .unset] [(.int (7 : Int32)), (.ref b82)])) _
      refine XS.aload X109.here hx rfl (hb hby at_166) rfl rfl ?_
      show Steps p.tables e below (T109.setTop (mkF m 168 #[.val (.long p1), .second, .val (.long p2), .second, .val (.long p3), .second, .val (.long p4), .second, .val (.long x8), .second, .val (.long x10), .second, .val (.ref b82), .unset, .unset, .unset, .unset, .unset, .unset, .unset, .unset, .unset, .unset, .unset] [(.ref b82), (.int (7 : Int32)), (.ref b82)])) _
      refine XS.bipush X109.here hx rfl (hb hby at_168) ?_
      show Steps p.tables e below (T109.setTop (mkF m 170 #[.val (.long p1), .second, .val (.long p2), .second, .val (.long p3), .second, .val (.long p4), .second, .val (.long x8), .second, .val (.long x10), .second, .val (.ref b82), .unset, .unset, .unset, .unset, .unset, .unset, .unset, .unset, .unset, .unset, .unset] [(.int (6 : Int32)), (.ref b82), (.int (7 : Int32)), (.ref b82)])) _
      refine ldJ X109 hx hZ e109 G110 ix111.1 ix111.2 (g := (mkF m 170 #[.val (.long p1), .second, .val (.long p2), .second, .val (.long p3), .second, .val (.long p4), .second, .val (.long x8), .second, .val (.long x10), .second, .val (.ref b82), .unset, .unset, .unset, .unset, .unset, .unset, .unset, .unset, .unset, .unset, .unset] [(.int (6 : Int32)), (.ref b82), (.int (7 : Int32)), (.ref b82)])) rfl rfl (hb hby at_170) _ ?_
      show Steps p.tables e below (T109.setTop (mkF m 171 #[.val (.long p1), .second, .val (.long p2), .second, .val (.long p3), .second, .val (.long p4), .second, .val (.long x8), .second, .val (.long x10), .second, .val (.ref b82), .unset, .unset, .unset, .unset, .unset, .unset, .unset, .unset, .unset, .unset, .unset] [(.long ((((((((((((x10 + (1 : Int64)) + (p3 &&& (15 : Int64))) + (1 : Int64)) + (((p3.toUInt64 >>> ((4 : Int32) &&& 0x3f).toInt64.toUInt64).toInt64) &&& (15 : Int64))) + (1 : Int64)) + (((p3.toUInt64 >>> ((8 : Int32) &&& 0x3f).toInt64.toUInt64).toInt64) &&& (15 : Int64))) + (1 : Int64)) + (((p3.toUInt64 >>> ((12 : Int32) &&& 0x3f).toInt64.toUInt64).toInt64) &&& (15 : Int64))) + (1 : Int64)) + (((p3.toUInt64 >>> ((16 : Int32) &&& 0x3f).toInt64.toUInt64).toInt64) &&& (15 : Int64))) + (1 : Int64)) + (((p3.toUInt64 >>> ((20 : Int32) &&& 0x3f).toInt64.toUInt64).toInt64) &&& (15 : Int64)))), (.int (7 : Int32)), (.ref b82)])) _
      refine XS.lconst X109.here hx rfl (hb hby at_171) ?_
      show Steps p.tables e below (T109.setTop (mkF m 172 #[.val (.long p1), .second, .val (.long p2), .second, .val (.long p3), .second, .val (.long p4), .second, .val (.long x8), .second, .val (.long x10), .second, .val (.ref b82), .unset, .unset, .unset, .unset, .unset, .unset, .unset, .unset, .unset, .unset, .unset] [(.long (1 : Int64)), (.long ((((((((((((x10 + (1 : Int64)) + (p3 &&& (15 : Int64))) + (1 : Int64)) + (((p3.toUInt64 >>> ((4 : Int32) &&& 0x3f).toInt64.toUInt64).toInt64) &&& (15 : Int64))) + (1 : Int64)) + (((p3.toUInt64 >>> ((8 : Int32) &&& 0x3f).toInt64.toUInt64).toInt64) &&& (15 : Int64))) + (1 : Int64)) + (((p3.toUInt64 >>> ((12 : Int32) &&& 0x3f).toInt64.toUInt64).toInt64) &&& (15 : Int64))) + (1 : Int64)) + (((p3.toUInt64 >>> ((16 : Int32) &&& 0x3f).toInt64.toUInt64).toInt64) &&& (15 : Int64))) + (1 : Int64)) + (((p3.toUInt64 >>> ((20 : Int32) &&& 0x3f).toInt64.toUInt64).toInt64) &&& (15 : Int64)))), (.int (7 : Int32)), (.ref b82)])) _
      refine XS.ladd X109.here hx rfl (hb hby at_172) rfl ?_
      show Steps p.tables e below (T109.setTop (mkF m 173 #[.val (.long p1), .second, .val (.long p2), .second, .val (.long p3), .second, .val (.long p4), .second, .val (.long x8), .second, .val (.long x10), .second, .val (.ref b82), .unset, .unset, .unset, .unset, .unset, .unset, .unset, .unset, .unset, .unset, .unset] [(.long (((((((((((((x10 + (1 : Int64)) + (p3 &&& (15 : Int64))) + (1 : Int64)) + (((p3.toUInt64 >>> ((4 : Int32) &&& 0x3f).toInt64.toUInt64).toInt64) &&& (15 : Int64))) + (1 : Int64)) + (((p3.toUInt64 >>> ((8 : Int32) &&& 0x3f).toInt64.toUInt64).toInt64) &&& (15 : Int64))) + (1 : Int64)) + (((p3.toUInt64 >>> ((12 : Int32) &&& 0x3f).toInt64.toUInt64).toInt64) &&& (15 : Int64))) + (1 : Int64)) + (((p3.toUInt64 >>> ((16 : Int32) &&& 0x3f).toInt64.toUInt64).toInt64) &&& (15 : Int64))) + (1 : Int64)) + (((p3.toUInt64 >>> ((20 : Int32) &&& 0x3f).toInt64.toUInt64).toInt64) &&& (15 : Int64))) + (1 : Int64))), (.int (7 : Int32)), (.ref b82)])) _
      refine XS.lload X109.here hx rfl (hb hby at_173) rfl ?_
      show Steps p.tables e below (T109.setTop (mkF m 175 #[.val (.long p1), .second, .val (.long p2), .second, .val (.long p3), .second, .val (.long p4), .second, .val (.long x8), .second, .val (.long x10), .second, .val (.ref b82), .unset, .unset, .unset, .unset, .unset, .unset, .unset, .unset, .unset, .unset, .unset] [(.long p3), (.long (((((((((((((x10 + (1 : Int64)) + (p3 &&& (15 : Int64))) + (1 : Int64)) + (((p3.toUInt64 >>> ((4 : Int32) &&& 0x3f).toInt64.toUInt64).toInt64) &&& (15 : Int64))) + (1 : Int64)) + (((p3.toUInt64 >>> ((8 : Int32) &&& 0x3f).toInt64.toUInt64).toInt64) &&& (15 : Int64))) + (1 : Int64)) + (((p3.toUInt64 >>> ((12 : Int32) &&& 0x3f).toInt64.toUInt64).toInt64) &&& (15 : Int64))) + (1 : Int64)) + (((p3.toUInt64 >>> ((16 : Int32) &&& 0x3f).toInt64.toUInt64).toInt64) &&& (15 : Int64))) + (1 : Int64)) + (((p3.toUInt64 >>> ((20 : Int32) &&& 0x3f).toInt64.toUInt64).toInt64) &&& (15 : Int64))) + (1 : Int64))), (.int (7 : Int32)), (.ref b82)])) _
      refine XS.bipush X109.here hx rfl (hb hby at_175) ?_
      show Steps p.tables e below (T109.setTop (mkF m 177 #[.val (.long p1), .second, .val (.long p2), .second, .val (.long p3), .second, .val (.long p4), .second, .val (.long x8), .second, .val (.long x10), .second, .val (.ref b82), .unset, .unset, .unset, .unset, .unset, .unset, .unset, .unset, .unset, .unset, .unset] [(.int (24 : Int32)), (.long p3), (.long (((((((((((((x10 + (1 : Int64)) + (p3 &&& (15 : Int64))) + (1 : Int64)) + (((p3.toUInt64 >>> ((4 : Int32) &&& 0x3f).toInt64.toUInt64).toInt64) &&& (15 : Int64))) + (1 : Int64)) + (((p3.toUInt64 >>> ((8 : Int32) &&& 0x3f).toInt64.toUInt64).toInt64) &&& (15 : Int64))) + (1 : Int64)) + (((p3.toUInt64 >>> ((12 : Int32) &&& 0x3f).toInt64.toUInt64).toInt64) &&& (15 : Int64))) + (1 : Int64)) + (((p3.toUInt64 >>> ((16 : Int32) &&& 0x3f).toInt64.toUInt64).toInt64) &&& (15 : Int64))) + (1 : Int64)) + (((p3.toUInt64 >>> ((20 : Int32) &&& 0x3f).toInt64.toUInt64).toInt64) &&& (15 : Int64))) + (1 : Int64))), (.int (7 : Int32)), (.ref b82)])) _
      refine XS.lushr X109.here hx rfl (hb hby at_177) rfl ?_
      show Steps p.tables e below (T109.setTop (mkF m 178 #[.val (.long p1), .second, .val (.long p2), .second, .val (.long p3), .second, .val (.long p4), .second, .val (.long x8), .second, .val (.long x10), .second, .val (.ref b82), .unset, .unset, .unset, .unset, .unset, .unset, .unset, .unset, .unset, .unset, .unset] [(.long ((p3.toUInt64 >>> ((24 : Int32) &&& 0x3f).toInt64.toUInt64).toInt64)), (.long (((((((((((((x10 + (1 : Int64)) + (p3 &&& (15 : Int64))) + (1 : Int64)) + (((p3.toUInt64 >>> ((4 : Int32) &&& 0x3f).toInt64.toUInt64).toInt64) &&& (15 : Int64))) + (1 : Int64)) + (((p3.toUInt64 >>> ((8 : Int32) &&& 0x3f).toInt64.toUInt64).toInt64) &&& (15 : Int64))) + (1 : Int64)) + (((p3.toUInt64 >>> ((12 : Int32) &&& 0x3f).toInt64.toUInt64).toInt64) &&& (15 : Int64))) + (1 : Int64)) + (((p3.toUInt64 >>> ((16 : Int32) &&& 0x3f).toInt64.toUInt64).toInt64) &&& (15 : Int64))) + (1 : Int64)) + (((p3.toUInt64 >>> ((20 : Int32) &&& 0x3f).toInt64.toUInt64).toInt64) &&& (15 : Int64))) + (1 : Int64))), (.int (7 : Int32)), (.ref b82)])) _
      refine X109.ldc2Long hx hown (mvT hZ (hw _ (List.mem_of_getElem? (i := 7) rfl))) (g := (mkF m 178 #[.val (.long p1), .second, .val (.long p2), .second, .val (.long p3), .second, .val (.long p4), .second, .val (.long x8), .second, .val (.long x10), .second, .val (.ref b82), .unset, .unset, .unset, .unset, .unset, .unset, .unset, .unset, .unset, .unset, .unset] [(.long ((p3.toUInt64 >>> ((24 : Int32) &&& 0x3f).toInt64.toUInt64).toInt64)), (.long (((((((((((((x10 + (1 : Int64)) + (p3 &&& (15 : Int64))) + (1 : Int64)) + (((p3.toUInt64 >>> ((4 : Int32) &&& 0x3f).toInt64.toUInt64).toInt64) &&& (15 : Int64))) + (1 : Int64)) + (((p3.toUInt64 >>> ((8 : Int32) &&& 0x3f).toInt64.toUInt64).toInt64) &&& (15 : Int64))) + (1 : Int64)) + (((p3.toUInt64 >>> ((12 : Int32) &&& 0x3f).toInt64.toUInt64).toInt64) &&& (15 : Int64))) + (1 : Int64)) + (((p3.toUInt64 >>> ((16 : Int32) &&& 0x3f).toInt64.toUInt64).toInt64) &&& (15 : Int64))) + (1 : Int64)) + (((p3.toUInt64 >>> ((20 : Int32) &&& 0x3f).toInt64.toUInt64).toInt64) &&& (15 : Int64))) + (1 : Int64))), (.int (7 : Int32)), (.ref b82)])) rfl (hb hby at_178) _ ?_
      show Steps p.tables e below (T109.setTop (mkF m 181 #[.val (.long p1), .second, .val (.long p2), .second, .val (.long p3), .second, .val (.long p4), .second, .val (.long x8), .second, .val (.long x10), .second, .val (.ref b82), .unset, .unset, .unset, .unset, .unset, .unset, .unset, .unset, .unset, .unset, .unset] [(.long (15 : Int64)), (.long ((p3.toUInt64 >>> ((24 : Int32) &&& 0x3f).toInt64.toUInt64).toInt64)), (.long (((((((((((((x10 + (1 : Int64)) + (p3 &&& (15 : Int64))) + (1 : Int64)) + (((p3.toUInt64 >>> ((4 : Int32) &&& 0x3f).toInt64.toUInt64).toInt64) &&& (15 : Int64))) + (1 : Int64)) + (((p3.toUInt64 >>> ((8 : Int32) &&& 0x3f).toInt64.toUInt64).toInt64) &&& (15 : Int64))) + (1 : Int64)) + (((p3.toUInt64 >>> ((12 : Int32) &&& 0x3f).toInt64.toUInt64).toInt64) &&& (15 : Int64))) + (1 : Int64)) + (((p3.toUInt64 >>> ((16 : Int32) &&& 0x3f).toInt64.toUInt64).toInt64) &&& (15 : Int64))) + (1 : Int64)) + (((p3.toUInt64 >>> ((20 : Int32) &&& 0x3f).toInt64.toUInt64).toInt64) &&& (15 : Int64))) + (1 : Int64))), (.int (7 : Int32)), (.ref b82)])) _
      refine XS.land X109.here hx rfl (hb hby at_181) rfl ?_
      show Steps p.tables e below (T109.setTop (mkF m 182 #[.val (.long p1), .second, .val (.long p2), .second, .val (.long p3), .second, .val (.long p4), .second, .val (.long x8), .second, .val (.long x10), .second, .val (.ref b82), .unset, .unset, .unset, .unset, .unset, .unset, .unset, .unset, .unset, .unset, .unset] [(.long (((p3.toUInt64 >>> ((24 : Int32) &&& 0x3f).toInt64.toUInt64).toInt64) &&& (15 : Int64))), (.long (((((((((((((x10 + (1 : Int64)) + (p3 &&& (15 : Int64))) + (1 : Int64)) + (((p3.toUInt64 >>> ((4 : Int32) &&& 0x3f).toInt64.toUInt64).toInt64) &&& (15 : Int64))) + (1 : Int64)) + (((p3.toUInt64 >>> ((8 : Int32) &&& 0x3f).toInt64.toUInt64).toInt64) &&& (15 : Int64))) + (1 : Int64)) + (((p3.toUInt64 >>> ((12 : Int32) &&& 0x3f).toInt64.toUInt64).toInt64) &&& (15 : Int64))) + (1 : Int64)) + (((p3.toUInt64 >>> ((16 : Int32) &&& 0x3f).toInt64.toUInt64).toInt64) &&& (15 : Int64))) + (1 : Int64)) + (((p3.toUInt64 >>> ((20 : Int32) &&& 0x3f).toInt64.toUInt64).toInt64) &&& (15 : Int64))) + (1 : Int64))), (.int (7 : Int32)), (.ref b82)])) _
      refine XS.ladd X109.here hx rfl (hb hby at_182) rfl ?_
      show Steps p.tables e below (T109.setTop (mkF m 183 #[.val (.long p1), .second, .val (.long p2), .second, .val (.long p3), .second, .val (.long p4), .second, .val (.long x8), .second, .val (.long x10), .second, .val (.ref b82), .unset, .unset, .unset, .unset, .unset, .unset, .unset, .unset, .unset, .unset, .unset] [(.long ((((((((((((((x10 + (1 : Int64)) + (p3 &&& (15 : Int64))) + (1 : Int64)) + (((p3.toUInt64 >>> ((4 : Int32) &&& 0x3f).toInt64.toUInt64).toInt64) &&& (15 : Int64))) + (1 : Int64)) + (((p3.toUInt64 >>> ((8 : Int32) &&& 0x3f).toInt64.toUInt64).toInt64) &&& (15 : Int64))) + (1 : Int64)) + (((p3.toUInt64 >>> ((12 : Int32) &&& 0x3f).toInt64.toUInt64).toInt64) &&& (15 : Int64))) + (1 : Int64)) + (((p3.toUInt64 >>> ((16 : Int32) &&& 0x3f).toInt64.toUInt64).toInt64) &&& (15 : Int64))) + (1 : Int64)) + (((p3.toUInt64 >>> ((20 : Int32) &&& 0x3f).toInt64.toUInt64).toInt64) &&& (15 : Int64))) + (1 : Int64)) + (((p3.toUInt64 >>> ((24 : Int32) &&& 0x3f).toInt64.toUInt64).toInt64) &&& (15 : Int64)))), (.int (7 : Int32)), (.ref b82)])) _
      refine st113 _ ?_
      show Steps p.tables e below (T113.setTop (mkF m 184 #[.val (.long p1), .second, .val (.long p2), .second, .val (.long p3), .second, .val (.long p4), .second, .val (.long x8), .second, .val (.long x10), .second, .val (.ref b82), .unset, .unset, .unset, .unset, .unset, .unset, .unset, .unset, .unset, .unset, .unset] [])) _
      refine XS.aload X113.here hx rfl (hb hby at_184) rfl rfl ?_
      show Steps p.tables e below (T113.setTop (mkF m 186 #[.val (.long p1), .second, .val (.long p2), .second, .val (.long p3), .second, .val (.long p4), .second, .val (.long x8), .second, .val (.long x10), .second, .val (.ref b82), .unset, .unset, .unset, .unset, .unset, .unset, .unset, .unset, .unset, .unset, .unset] [(.ref b82)])) _
      refine XS.bipush X113.here hx rfl (hb hby at_186) ?_
      show Steps p.tables e below (T113.setTop (mkF m 188 #[.val (.long p1), .second, .val (.long p2), .second, .val (.long p3), .second, .val (.long p4), .second, .val (.long x8), .second, .val (.long x10), .second, .val (.ref b82), .unset, .unset, .unset, .unset, .unset, .unset, .unset, .unset, .unset, .unset, .unset] [(.int (8 : Int32)), (.ref b82)])) _
      refine XS.aload X113.here hx rfl (hb hby at_188) rfl rfl ?_
      show Steps p.tables e below (T113.setTop (mkF m 190 #[.val (.long p1), .second, .val (.long p2), .second, .val (.long p3), .second, .val (.long p4), .second, .val (.long x8), .second, .val (.long x10), .second, .val (.ref b82), .unset, .unset, .unset, .unset, .unset, .unset, .unset, .unset, .unset, .unset, .unset] [(.ref b82), (.int (8 : Int32)), (.ref b82)])) _
      refine XS.bipush X113.here hx rfl (hb hby at_190) ?_
      show Steps p.tables e below (T113.setTop (mkF m 192 #[.val (.long p1), .second, .val (.long p2), .second, .val (.long p3), .second, .val (.long p4), .second, .val (.long x8), .second, .val (.long x10), .second, .val (.ref b82), .unset, .unset, .unset, .unset, .unset, .unset, .unset, .unset, .unset, .unset, .unset] [(.int (7 : Int32)), (.ref b82), (.int (8 : Int32)), (.ref b82)])) _
      refine ldJ X113 hx hZ e113 G114 ix115.1 ix115.2 (g := (mkF m 192 #[.val (.long p1), .second, .val (.long p2), .second, .val (.long p3), .second, .val (.long p4), .second, .val (.long x8), .second, .val (.long x10), .second, .val (.ref b82), .unset, .unset, .unset, .unset, .unset, .unset, .unset, .unset, .unset, .unset, .unset] [(.int (7 : Int32)), (.ref b82), (.int (8 : Int32)), (.ref b82)])) rfl rfl (hb hby at_192) _ ?_
      show Steps p.tables e below (T113.setTop (mkF m 193 #[.val (.long p1), .second, .val (.long p2), .second, .val (.long p3), .second, .val (.long p4), .second, .val (.long x8), .second, .val (.long x10), .second, .val (.ref b82), .unset, .unset, .unset, .unset, .unset, .unset, .unset, .unset, .unset, .unset, .unset] [(.long ((((((((((((((x10 + (1 : Int64)) + (p3 &&& (15 : Int64))) + (1 : Int64)) + (((p3.toUInt64 >>> ((4 : Int32) &&& 0x3f).toInt64.toUInt64).toInt64) &&& (15 : Int64))) + (1 : Int64)) + (((p3.toUInt64 >>> ((8 : Int32) &&& 0x3f).toInt64.toUInt64).toInt64) &&& (15 : Int64))) + (1 : Int64)) + (((p3.toUInt64 >>> ((12 : Int32) &&& 0x3f).toInt64.toUInt64).toInt64) &&& (15 : Int64))) + (1 : Int64)) + (((p3.toUInt64 >>> ((16 : Int32) &&& 0x3f).toInt64.toUInt64).toInt64) &&& (15 : Int64))) + (1 : Int64)) + (((p3.toUInt64 >>> ((20 : Int32) &&& 0x3f).toInt64.toUInt64).toInt64) &&& (15 : Int64))) + (1 : Int64)) + (((p3.toUInt64 >>> ((24 : Int32) &&& 0x3f).toInt64.toUInt64).toInt64) &&& (15 : Int64)))), (.int (8 : Int32)), (.ref b82)])) _
      refine XS.lconst X113.here hx rfl (hb hby at_193) ?_
      show Steps p.tables e below (T113.setTop (mkF m 194 #[.val (.long p1), .second, .val (.long p2), .second, .val (.long p3), .second, .val (.long p4), .second, .val (.long x8), .second, .val (.long x10), .second, .val (.ref b82), .unset, .unset, .unset, .unset, .unset, .unset, .unset, .unset, .unset, .unset, .unset] [(.long (1 : Int64)), (.long ((((((((((((((x10 + (1 : Int64)) + (p3 &&& (15 : Int64))) + (1 : Int64)) + (((p3.toUInt64 >>> ((4 : Int32) &&& 0x3f).toInt64.toUInt64).toInt64) &&& (15 : Int64))) + (1 : Int64)) + (((p3.toUInt64 >>> ((8 : Int32) &&& 0x3f).toInt64.toUInt64).toInt64) &&& (15 : Int64))) + (1 : Int64)) + (((p3.toUInt64 >>> ((12 : Int32) &&& 0x3f).toInt64.toUInt64).toInt64) &&& (15 : Int64))) + (1 : Int64)) + (((p3.toUInt64 >>> ((16 : Int32) &&& 0x3f).toInt64.toUInt64).toInt64) &&& (15 : Int64))) + (1 : Int64)) + (((p3.toUInt64 >>> ((20 : Int32) &&& 0x3f).toInt64.toUInt64).toInt64) &&& (15 : Int64))) + (1 : Int64)) + (((p3.toUInt64 >>> ((24 : Int32) &&& 0x3f).toInt64.toUInt64).toInt64) &&& (15 : Int64)))), (.int (8 : Int32)), (.ref b82)])) _
      refine XS.ladd X113.here hx rfl (hb hby at_194) rfl ?_
      show Steps p.tables e below (T113.setTop (mkF m 195 #[.val (.long p1), .second, .val (.long p2), .second, .val (.long p3), .second, .val (.long p4), .second, .val (.long x8), .second, .val (.long x10), .second, .val (.ref b82), .unset, .unset, .unset, .unset, .unset, .unset, .unset, .unset, .unset, .unset, .unset] [(.long (((((((((((((((x10 + (1 : Int64)) + (p3 &&& (15 : Int64))) + (1 : Int64)) + (((p3.toUInt64 >>> ((4 : Int32) &&& 0x3f).toInt64.toUInt64).toInt64) &&& (15 : Int64))) + (1 : Int64)) + (((p3.toUInt64 >>> ((8 : Int32) &&& 0x3f).toInt64.toUInt64).toInt64) &&& (15 : Int64))) + (1 : Int64)) + (((p3.toUInt64 >>> ((12 : Int32) &&& 0x3f).toInt64.toUInt64).toInt64) &&& (15 : Int64))) + (1 : Int64)) + (((p3.toUInt64 >>> ((16 : Int32) &&& 0x3f).toInt64.toUInt64).toInt64) &&& (15 : Int64))) + (1 : Int64)) + (((p3.toUInt64 >>> ((20 : Int32) &&& 0x3f).toInt64.toUInt64).toInt64) &&& (15 : Int64))) + (1 : Int64)) + (((p3.toUInt64 >>> ((24 : Int32) &&& 0x3f).toInt64.toUInt64).toInt64) &&& (15 : Int64))) + (1 : Int64))), (.int (8 : Int32)), (.ref b82)])) _
      refine XS.lload X113.here hx rfl (hb hby at_195) rfl ?_
      show Steps p.tables e below (T113.setTop (mkF m 197 #[.val (.long p1), .second, .val (.long p2), .second, .val (.long p3), .second, .val (.long p4), .second, .val (.long x8), .second, .val (.long x10), .second, .val (.ref b82), .unset, .unset, .unset, .unset, .unset, .unset, .unset, .unset, .unset, .unset, .unset] [(.long p3), (.long (((((((((((((((x10 + (1 : Int64)) + (p3 &&& (15 : Int64))) + (1 : Int64)) + (((p3.toUInt64 >>> ((4 : Int32) &&& 0x3f).toInt64.toUInt64).toInt64) &&& (15 : Int64))) + (1 : Int64)) + (((p3.toUInt64 >>> ((8 : Int32) &&& 0x3f).toInt64.toUInt64).toInt64) &&& (15 : Int64))) + (1 : Int64)) + (((p3.toUInt64 >>> ((12 : Int32) &&& 0x3f).toInt64.toUInt64).toInt64) &&& (15 : Int64))) + (1 : Int64)) + (((p3.toUInt64 >>> ((16 : Int32) &&& 0x3f).toInt64.toUInt64).toInt64) &&& (15 : Int64))) + (1 : Int64)) + (((p3.toUInt64 >>> ((20 : Int32) &&& 0x3f).toInt64.toUInt64).toInt64) &&& (15 : Int64))) + (1 : Int64)) + (((p3.toUInt64 >>> ((24 : Int32) &&& 0x3f).toInt64.toUInt64).toInt64) &&& (15 : Int64))) + (1 : Int64))), (.int (8 : Int32)), (.ref b82)])) _
      refine XS.bipush X113.here hx rfl (hb hby at_197) ?_
      show Steps p.tables e below (T113.setTop (mkF m 199 #[.val (.long p1), .second, .val (.long p2), .second, .val (.long p3), .second, .val (.long p4), .second, .val (.long x8), .second, .val (.long x10), .second, .val (.ref b82), .unset, .unset, .unset, .unset, .unset, .unset, .unset, .unset, .unset, .unset, .unset] [(.int (28 : Int32)), (.long p3), (.long (((((((((((((((x10 + (1 : Int64)) + (p3 &&& (15 : Int64))) + (1 : Int64)) + (((p3.toUInt64 >>> ((4 : Int32) &&& 0x3f).toInt64.toUInt64).toInt64) &&& (15 : Int64))) + (1 : Int64)) + (((p3.toUInt64 >>> ((8 : Int32) &&& 0x3f).toInt64.toUInt64).toInt64) &&& (15 : Int64))) + (1 : Int64)) + (((p3.toUInt64 >>> ((12 : Int32) &&& 0x3f).toInt64.toUInt64).toInt64) &&& (15 : Int64))) + (1 : Int64)) + (((p3.toUInt64 >>> ((16 : Int32) &&& 0x3f).toInt64.toUInt64).toInt64) &&& (15 : Int64))) + (1 : Int64)) + (((p3.toUInt64 >>> ((20 : Int32) &&& 0x3f).toInt64.toUInt64).toInt64) &&& (15 : Int64))) + (1 : Int64)) + (((p3.toUInt64 >>> ((24 : Int32) &&& 0x3f).toInt64.toUInt64).toInt64) &&& (15 : Int64))) + (1 : Int64))), (.int (8 : Int32)), (.ref b82)])) _
      refine XS.lushr X113.here hx rfl (hb hby at_199) rfl ?_
      show Steps p.tables e below (T113.setTop (mkF m 200 #[.val (.long p1), .second, .val (.long p2), .second, .val (.long p3), .second, .val (.long p4), .second, .val (.long x8), .second, .val (.long x10), .second, .val (.ref b82), .unset, .unset, .unset, .unset, .unset, .unset, .unset, .unset, .unset, .unset, .unset] [(.long ((p3.toUInt64 >>> ((28 : Int32) &&& 0x3f).toInt64.toUInt64).toInt64)), (.long (((((((((((((((x10 + (1 : Int64)) + (p3 &&& (15 : Int64))) + (1 : Int64)) + (((p3.toUInt64 >>> ((4 : Int32) &&& 0x3f).toInt64.toUInt64).toInt64) &&& (15 : Int64))) + (1 : Int64)) + (((p3.toUInt64 >>> ((8 : Int32) &&& 0x3f).toInt64.toUInt64).toInt64) &&& (15 : Int64))) + (1 : Int64)) + (((p3.toUInt64 >>> ((12 : Int32) &&& 0x3f).toInt64.toUInt64).toInt64) &&& (15 : Int64))) + (1 : Int64)) + (((p3.toUInt64 >>> ((16 : Int32) &&& 0x3f).toInt64.toUInt64).toInt64) &&& (15 : Int64))) + (1 : Int64)) + (((p3.toUInt64 >>> ((20 : Int32) &&& 0x3f).toInt64.toUInt64).toInt64) &&& (15 : Int64))) + (1 : Int64)) + (((p3.toUInt64 >>> ((24 : Int32) &&& 0x3f).toInt64.toUInt64).toInt64) &&& (15 : Int64))) + (1 : Int64))), (.int (8 : Int32)), (.ref b82)])) _
      refine X113.ldc2Long hx hown (mvT hZ (hw _ (List.mem_of_getElem? (i := 7) rfl))) (g := (mkF m 200 #[.val (.long p1), .second, .val (.long p2), .second, .val (.long p3), .second, .val (.long p4), .second, .val (.long x8), .second, .val (.long x10), .second, .val (.ref b82), .unset, .unset, .unset, .unset, .unset, .unset, .unset, .unset, .unset, .unset, .unset] [(.long ((p3.toUInt64 >>> ((28 : Int32) &&& 0x3f).toInt64.toUInt64).toInt64)), (.long (((((((((((((((x10 + (1 : Int64)) + (p3 &&& (15 : Int64))) + (1 : Int64)) + (((p3.toUInt64 >>> ((4 : Int32) &&& 0x3f).toInt64.toUInt64).toInt64) &&& (15 : Int64))) + (1 : Int64)) + (((p3.toUInt64 >>> ((8 : Int32) &&& 0x3f).toInt64.toUInt64).toInt64) &&& (15 : Int64))) + (1 : Int64)) + (((p3.toUInt64 >>> ((12 : Int32) &&& 0x3f).toInt64.toUInt64).toInt64) &&& (15 : Int64))) + (1 : Int64)) + (((p3.toUInt64 >>> ((16 : Int32) &&& 0x3f).toInt64.toUInt64).toInt64) &&& (15 : Int64))) + (1 : Int64)) + (((p3.toUInt64 >>> ((20 : Int32) &&& 0x3f).toInt64.toUInt64).toInt64) &&& (15 : Int64))) + (1 : Int64)) + (((p3.toUInt64 >>> ((24 : Int32) &&& 0x3f).toInt64.toUInt64).toInt64) &&& (15 : Int64))) + (1 : Int64))), (.int (8 : Int32)), (.ref b82)])) rfl (hb hby at_200) _ ?_
      show Steps p.tables e below (T113.setTop (mkF m 203 #[.val (.long p1), .second, .val (.long p2), .second, .val (.long p3), .second, .val (.long p4), .second, .val (.long x8), .second, .val (.long x10), .second, .val (.ref b82), .unset, .unset, .unset, .unset, .unset, .unset, .unset, .unset, .unset, .unset, .unset] [(.long (15 : Int64)), (.long ((p3.toUInt64 >>> ((28 : Int32) &&& 0x3f).toInt64.toUInt64).toInt64)), (.long (((((((((((((((x10 + (1 : Int64)) + (p3 &&& (15 : Int64))) + (1 : Int64)) + (((p3.toUInt64 >>> ((4 : Int32) &&& 0x3f).toInt64.toUInt64).toInt64) &&& (15 : Int64))) + (1 : Int64)) + (((p3.toUInt64 >>> ((8 : Int32) &&& 0x3f).toInt64.toUInt64).toInt64) &&& (15 : Int64))) + (1 : Int64)) + (((p3.toUInt64 >>> ((12 : Int32) &&& 0x3f).toInt64.toUInt64).toInt64) &&& (15 : Int64))) + (1 : Int64)) + (((p3.toUInt64 >>> ((16 : Int32) &&& 0x3f).toInt64.toUInt64).toInt64) &&& (15 : Int64))) + (1 : Int64)) + (((p3.toUInt64 >>> ((20 : Int32) &&& 0x3f).toInt64.toUInt64).toInt64) &&& (15 : Int64))) + (1 : Int64)) + (((p3.toUInt64 >>> ((24 : Int32) &&& 0x3f).toInt64.toUInt64).toInt64) &&& (15 : Int64))) + (1 : Int64))), (.int (8 : Int32)), (.ref b82)])) _
      refine XS.land X113.here hx rfl (hb hby at_203) rfl ?_
      show Steps p.tables e below (T113.setTop (mkF m 204 #[.val (.long p1), .second, .val (.long p2), .second, .val (.long p3), .second, .val (.long p4), .second, .val (.long x8), .second, .val (.long x10), .second, .val (.ref b82), .unset, .unset, .unset, .unset, .unset, .unset, .unset, .unset, .unset, .unset, .unset] [(.long (((p3.toUInt64 >>> ((28 : Int32) &&& 0x3f).toInt64.toUInt64).toInt64) &&& (15 : Int64))), (.long (((((((((((((((x10 + (1 : Int64)) + (p3 &&& (15 : Int64))) + (1 : Int64)) + (((p3.toUInt64 >>> ((4 : Int32) &&& 0x3f).toInt64.toUInt64).toInt64) &&& (15 : Int64))) + (1 : Int64)) + (((p3.toUInt64 >>> ((8 : Int32) &&& 0x3f).toInt64.toUInt64).toInt64) &&& (15 : Int64))) + (1 : Int64)) + (((p3.toUInt64 >>> ((12 : Int32) &&& 0x3f).toInt64.toUInt64).toInt64) &&& (15 : Int64))) + (1 : Int64)) + (((p3.toUInt64 >>> ((16 : Int32) &&& 0x3f).toInt64.toUInt64).toInt64) &&& (15 : Int64))) + (1 : Int64)) + (((p3.toUInt64 >>> ((20 : Int32) &&& 0x3f).toInt64.toUInt64).toInt64) &&& (15 : Int64))) + (1 : Int64)) + (((p3.toUInt64 >>> ((24 : Int32) &&& 0x3f).toInt64.toUInt64).toInt64) &&& (15 : Int64))) + (1 : Int64))), (.int (8 : Int32)), (.ref b82)])) _
      refine XS.ladd X113.here hx rfl (hb hby at_204) rfl ?_
      show Steps p.tables e below (T113.setTop (mkF m 205 #[.val (.long p1), .second, .val (.long p2), .second, .val (.long p3), .second, .val (.long p4), .second, .val (.long x8), .second, .val (.long x10), .second, .val (.ref b82), .unset, .unset, .unset, .unset, .unset, .unset, .unset, .unset, .unset, .unset, .unset] [(.long ((((((((((((((((x10 + (1 : Int64)) + (p3 &&& (15 : Int64))) + (1 : Int64)) + (((p3.toUInt64 >>> ((4 : Int32) &&& 0x3f).toInt64.toUInt64).toInt64) &&& (15 : Int64))) + (1 : Int64)) + (((p3.toUInt64 >>> ((8 : Int32) &&& 0x3f).toInt64.toUInt64).toInt64) &&& (15 : Int64))) + (1 : Int64)) + (((p3.toUInt64 >>> ((12 : Int32) &&& 0x3f).toInt64.toUInt64).toInt64) &&& (15 : Int64))) + (1 : Int64)) + (((p3.toUInt64 >>> ((16 : Int32) &&& 0x3f).toInt64.toUInt64).toInt64) &&& (15 : Int64))) + (1 : Int64)) + (((p3.toUInt64 >>> ((20 : Int32) &&& 0x3f).toInt64.toUInt64).toInt64) &&& (15 : Int64))) + (1 : Int64)) + (((p3.toUInt64 >>> ((24 : Int32) &&& 0x3f).toInt64.toUInt64).toInt64) &&& (15 : Int64))) + (1 : Int64)) + (((p3.toUInt64 >>> ((28 : Int32) &&& 0x3f).toInt64.toUInt64).toInt64) &&& (15 : Int64)))), (.int (8 : Int32)), (.ref b82)])) _
      refine st117 _ ?_
      show Steps p.tables e below (T117.setTop (mkF m 206 #[.val (.long p1), .second, .val (.long p2), .second, .val (.long p3), .second, .val (.long p4), .second, .val (.long x8), .second, .val (.long x10), .second, .val (.ref b82), .unset, .unset, .unset, .unset, .unset, .unset, .unset, .unset, .unset, .unset, .unset] [])) _
      refine XS.aload X117.here hx rfl (hb hby at_206) rfl rfl ?_
      show Steps p.tables e below (T117.setTop (mkF m 208 #[.val (.long p1), .second, .val (.long p2), .second, .val (.long p3), .second, .val (.long p4), .second, .val (.long x8), .second, .val (.long x10), .second, .val (.ref b82), .unset, .unset, .unset, .unset, .unset, .unset, .unset, .unset, .unset, .unset, .unset] [(.ref b82)])) _
      refine XS.bipush X117.here hx rfl (hb hby at_208) ?_
      show Steps p.tables e below (T117.setTop (mkF m 210 #[.val (.long p1), .second, .val (.long p2), .second, .val (.long p3), .second, .val (.long p4), .second, .val (.long x8), .second, .val (.long x10), .second, .val (.ref b82), .unset, .unset, .unset, .unset, .unset, .unset, .unset, .unset, .unset, .unset, .unset] [(.int (8 : Int32)), (.ref b82)])) _
      refine ldJ X117 hx hZ e117 G118 ix119.1 ix119.2 (g := (mkF m 210 #[.val (.long p1), .second, .val (.long p2), .second, .val (.long p3), .second, .val (.long p4), .second, .val (.long x8), .second, .val (.long x10), .second, .val (.ref b82), .unset, .unset, .unset, .unset, .unset, .unset, .unset, .unset, .unset, .unset, .unset] [(.int (8 : Int32)), (.ref b82)])) rfl rfl (hb hby at_210) _ ?_
      show Steps p.tables e below (T117.setTop (mkF m 211 #[.val (.long p1), .second, .val (.long p2), .second, .val (.long p3), .second, .val (.long p4), .second, .val (.long x8), .second, .val (.long x10), .second, .val (.ref b82), .unset, .unset, .unset, .unset, .unset, .unset, .unset, .unset, .unset, .unset, .unset] [(.long ((((((((((((((((x10 + (1 : Int64)) + (p3 &&& (15 : Int64))) + (1 : Int64)) + (((p3.toUInt64 >>> ((4 : Int32) &&& 0x3f).toInt64.toUInt64).toInt64) &&& (15 : Int64))) + (1 : Int64)) + (((p3.toUInt64 >>> ((8 : Int32) &&& 0x3f).toInt64.toUInt64).toInt64) &&& (15 : Int64))) + (1 : Int64)) + (((p3.toUInt64 >>> ((12 : Int32) &&& 0x3f).toInt64.toUInt64).toInt64) &&& (15 : Int64))) + (1 : Int64)) + (((p3.toUInt64 >>> ((16 : Int32) &&& 0x3f).toInt64.toUInt64).toInt64) &&& (15 : Int64))) + (1 : Int64)) + (((p3.toUInt64 >>> ((20 : Int32) &&& 0x3f).toInt64.toUInt64).toInt64) &&& (15 : Int64))) + (1 : Int64)) + (((p3.toUInt64 >>> ((24 : Int32) &&& 0x3f).toInt64.toUInt64).toInt64) &&& (15 : Int64))) + (1 : Int64)) + (((p3.toUInt64 >>> ((28 : Int32) &&& 0x3f).toInt64.toUInt64).toInt64) &&& (15 : Int64))))])) _
      refine XS.lload X117.here hx rfl (hb hby at_211) rfl ?_
      show Steps p.tables e below (T117.setTop (mkF m 213 #[.val (.long p1), .second, .val (.long p2), .second, .val (.long p3), .second, .val (.long p4), .second, .val (.long x8), .second, .val (.long x10), .second, .val (.ref b82), .unset, .unset, .unset, .unset, .unset, .unset, .unset, .unset, .unset, .unset, .unset] [(.long p3), (.long ((((((((((((((((x10 + (1 : Int64)) + (p3 &&& (15 : Int64))) + (1 : Int64)) + (((p3.toUInt64 >>> ((4 : Int32) &&& 0x3f).toInt64.toUInt64).toInt64) &&& (15 : Int64))) + (1 : Int64)) + (((p3.toUInt64 >>> ((8 : Int32) &&& 0x3f).toInt64.toUInt64).toInt64) &&& (15 : Int64))) + (1 : Int64)) + (((p3.toUInt64 >>> ((12 : Int32) &&& 0x3f).toInt64.toUInt64).toInt64) &&& (15 : Int64))) + (1 : Int64)) + (((p3.toUInt64 >>> ((16 : Int32) &&& 0x3f).toInt64.toUInt64).toInt64) &&& (15 : Int64))) + (1 : Int64)) + (((p3.toUInt64 >>> ((20 : Int32) &&& 0x3f).toInt64.toUInt64).toInt64) &&& (15 : Int64))) + (1 : Int64)) + (((p3.toUInt64 >>> ((24 : Int32) &&& 0x3f).toInt64.toUInt64).toInt64) &&& (15 : Int64))) + (1 : Int64)) + (((p3.toUInt64 >>> ((28 : Int32) &&& 0x3f).toInt64.toUInt64).toInt64) &&& (15 : Int64))))])) _
      refine XS.bipush X117.here hx rfl (hb hby at_213) ?_
      show Steps p.tables e below (T117.setTop (mkF m 215 #[.val (.long p1), .second, .val (.long p2), .second, .val (.long p3), .second, .val (.long p4), .second, .val (.long x8), .second, .val (.long x10), .second, .val (.ref b82), .unset, .unset, .unset, .unset, .unset, .unset, .unset, .unset, .unset, .unset, .unset] [(.int (32 : Int32)), (.long p3), (.long ((((((((((((((((x10 + (1 : Int64)) + (p3 &&& (15 : Int64))) + (1 : Int64)) + (((p3.toUInt64 >>> ((4 : Int32) &&& 0x3f).toInt64.toUInt64).toInt64) &&& (15 : Int64))) + (1 : Int64)) + (((p3.toUInt64 >>> ((8 : Int32) &&& 0x3f).toInt64.toUInt64).toInt64) &&& (15 : Int64))) + (1 : Int64)) + (((p3.toUInt64 >>> ((12 : Int32) &&& 0x3f).toInt64.toUInt64).toInt64) &&& (15 : Int64))) + (1 : Int64)) + (((p3.toUInt64 >>> ((16 : Int32) &&& 0x3f).toInt64.toUInt64).toInt64) &&& (15 : Int64))) + (1 : Int64)) + (((p3.toUInt64 >>> ((20 : Int32) &&& 0x3f).toInt64.toUInt64).toInt64) &&& (15 : Int64))) + (1 : Int64)) + (((p3.toUInt64 >>> ((24 : Int32) &&& 0x3f).toInt64.toUInt64).toInt64) &&& (15 : Int64))) + (1 : Int64)) + (((p3.toUInt64 >>> ((28 : Int32) &&& 0x3f).toInt64.toUInt64).toInt64) &&& (15 : Int64))))])) _
      refine XS.lushr X117.here hx rfl (hb hby at_215) rfl ?_
      show Steps p.tables e below (T117.setTop (mkF m 216 #[.val (.long p1), .second, .val (.long p2), .second, .val (.long p3), .second, .val (.long p4), .second, .val (.long x8), .second, .val (.long x10), .second, .val (.ref b82), .unset, .unset, .unset, .unset, .unset, .unset, .unset, .unset, .unset, .unset, .unset] [(.long ((p3.toUInt64 >>> ((32 : Int32) &&& 0x3f).toInt64.toUInt64).toInt64)), (.long ((((((((((((((((x10 + (1 : Int64)) + (p3 &&& (15 : Int64))) + (1 : Int64)) + (((p3.toUInt64 >>> ((4 : Int32) &&& 0x3f).toInt64.toUInt64).toInt64) &&& (15 : Int64))) + (1 : Int64)) + (((p3.toUInt64 >>> ((8 : Int32) &&& 0x3f).toInt64.toUInt64).toInt64) &&& (15 : Int64))) + (1 : Int64)) + (((p3.toUInt64 >>> ((12 : Int32) &&& 0x3f).toInt64.toUInt64).toInt64) &&& (15 : Int64))) + (1 : Int64)) + (((p3.toUInt64 >>> ((16 : Int32) &&& 0x3f).toInt64.toUInt64).toInt64) &&& (15 : Int64))) + (1 : Int64)) + (((p3.toUInt64 >>> ((20 : Int32) &&& 0x3f).toInt64.toUInt64).toInt64) &&& (15 : Int64))) + (1 : Int64)) + (((p3.toUInt64 >>> ((24 : Int32) &&& 0x3f).toInt64.toUInt64).toInt64) &&& (15 : Int64))) + (1 : Int64)) + (((p3.toUInt64 >>> ((28 : Int32) &&& 0x3f).toInt64.toUInt64).toInt64) &&& (15 : Int64))))])) _
      refine X117.ldc2Long hx hown (mvT hZ (hw _ (List.mem_of_getElem? (i := 8) rfl))) (g := (mkF m 216 #[.val (.long p1), .second, .val (.long p2), .second, .val (.long p3), .second, .val (.long p4), .second, .val (.long x8), .second, .val (.long x10), .second, .val (.ref b82), .unset, .unset, .unset, .unset, .unset, .unset, .unset, .unset, .unset, .unset, .unset] [(.long ((p3.toUInt64 >>> ((32 : Int32) &&& 0x3f).toInt64.toUInt64).toInt64)), (.long ((((((((((((((((x10 + (1 : Int64)) + (p3 &&& (15 : Int64))) + (1 : Int64)) + (((p3.toUInt64 >>> ((4 : Int32) &&& 0x3f).toInt64.toUInt64).toInt64) &&& (15 : Int64))) + (1 : Int64)) + (((p3.toUInt64 >>> ((8 : Int32) &&& 0x3f).toInt64.toUInt64).toInt64) &&& (15 : Int64))) + (1 : Int64)) + (((p3.toUInt64 >>> ((12 : Int32) &&& 0x3f).toInt64.toUInt64).toInt64) &&& (15 : Int64))) + (1 : Int64)) + (((p3.toUInt64 >>> ((16 : Int32) &&& 0x3f).toInt64.toUInt64).toInt64) &&& (15 : Int64))) + (1 : Int64)) + (((p3.toUInt64 >>> ((20 : Int32) &&& 0x3f).toInt64.toUInt64).toInt64) &&& (15 : Int64))) + (1 : Int64)) + (((p3.toUInt64 >>> ((24 : Int32) &&& 0x3f).toInt64.toUInt64).toInt64) &&& (15 : Int64))) + (1 : Int64)) + (((p3.toUInt64 >>> ((28 : Int32) &&& 0x3f).toInt64.toUInt64).toInt64) &&& (15 : Int64))))])) rfl (hb hby at_216) _ ?_
      show Steps p.tables e below (T117.setTop (mkF m 219 #[.val (.long p1), .second, .val (.long p2), .second, .val (.long p3), .second, .val (.long p4), .second, .val (.long x8), .second, .val (.long x10), .second, .val (.ref b82), .unset, .unset, .unset, .unset, .unset, .unset, .unset, .unset, .unset, .unset, .unset] [(.long (255 : Int64)), (.long ((p3.toUInt64 >>> ((32 : Int32) &&& 0x3f).toInt64.toUInt64).toInt64)), (.long ((((((((((((((((x10 + (1 : Int64)) + (p3 &&& (15 : Int64))) + (1 : Int64)) + (((p3.toUInt64 >>> ((4 : Int32) &&& 0x3f).toInt64.toUInt64).toInt64) &&& (15 : Int64))) + (1 : Int64)) + (((p3.toUInt64 >>> ((8 : Int32) &&& 0x3f).toInt64.toUInt64).toInt64) &&& (15 : Int64))) + (1 : Int64)) + (((p3.toUInt64 >>> ((12 : Int32) &&& 0x3f).toInt64.toUInt64).toInt64) &&& (15 : Int64))) + (1 : Int64)) + (((p3.toUInt64 >>> ((16 : Int32) &&& 0x3f).toInt64.toUInt64).toInt64) &&& (15 : Int64))) + (1 : Int64)) + (((p3.toUInt64 >>> ((20 : Int32) &&& 0x3f).toInt64.toUInt64).toInt64) &&& (15 : Int64))) + (1 : Int64)) + (((p3.toUInt64 >>> ((24 : Int32) &&& 0x3f).toInt64.toUInt64).toInt64) &&& (15 : Int64))) + (1 : Int64)) + (((p3.toUInt64 >>> ((28 : Int32) &&& 0x3f).toInt64.toUInt64).toInt64) &&& (15 : Int64))))])) _
      refine XS.land X117.here hx rfl (hb hby at_219) rfl ?_
      show Steps p.tables e below (T117.setTop (mkF m 220 #[.val (.long p1), .second, .val (.long p2), .second, .val (.long p3), .second, .val (.long p4), .second, .val (.long x8), .second, .val (.long x10), .second, .val (.ref b82), .unset, .unset, .unset, .unset, .unset, .unset, .unset, .unset, .unset, .unset, .unset] [(.long (((p3.toUInt64 >>> ((32 : Int32) &&& 0x3f).toInt64.toUInt64).toInt64) &&& (255 : Int64))), (.long ((((((((((((((((x10 + (1 : Int64)) + (p3 &&& (15 : Int64))) + (1 : Int64)) + (((p3.toUInt64 >>> ((4 : Int32) &&& 0x3f).toInt64.toUInt64).toInt64) &&& (15 : Int64))) + (1 : Int64)) + (((p3.toUInt64 >>> ((8 : Int32) &&& 0x3f).toInt64.toUInt64).toInt64) &&& (15 : Int64))) + (1 : Int64)) + (((p3.toUInt64 >>> ((12 : Int32) &&& 0x3f).toInt64.toUInt64).toInt64) &&& (15 : Int64))) + (1 : Int64)) + (((p3.toUInt64 >>> ((16 : Int32) &&& 0x3f).toInt64.toUInt64).toInt64) &&& (15 : Int64))) + (1 : Int64)) + (((p3.toUInt64 >>> ((20 : Int32) &&& 0x3f).toInt64.toUInt64).toInt64) &&& (15 : Int64))) + (1 : Int64)) + (((p3.toUInt64 >>> ((24 : Int32) &&& 0x3f).toInt64.toUInt64).toInt64) &&& (15 : Int64))) + (1 : Int64)) + (((p3.toUInt64 >>> ((28 : Int32) &&& 0x3f).toInt64.toUInt64).toInt64) &&& (15 : Int64))))])) _
      refine XS.ladd X117.here hx rfl (hb hby at_220) rfl ?_
      show Steps p.tables e below (T117.setTop (mkF m 221 #[.val (.long p1), .second, .val (.long p2), .second, .val (.long p3), .second, .val (.long p4), .second, .val (.long x8), .second, .val (.long x10), .second, .val (.ref b82), .unset, .unset, .unset, .unset, .unset, .unset, .unset, .unset, .unset, .unset, .unset] [(.long (((((((((((((((((x10 + (1 : Int64)) + (p3 &&& (15 : Int64))) + (1 : Int64)) + (((p3.toUInt64 >>> ((4 : Int32) &&& 0x3f).toInt64.toUInt64).toInt64) &&& (15 : Int64))) + (1 : Int64)) + (((p3.toUInt64 >>> ((8 : Int32) &&& 0x3f).toInt64.toUInt64).toInt64) &&& (15 : Int64))) + (1 : Int64)) + (((p3.toUInt64 >>> ((12 : Int32) &&& 0x3f).toInt64.toUInt64).toInt64) &&& (15 : Int64))) + (1 : Int64)) + (((p3.toUInt64 >>> ((16 : Int32) &&& 0x3f).toInt64.toUInt64).toInt64) &&& (15 : Int64))) + (1 : Int64)) + (((p3.toUInt64 >>> ((20 : Int32) &&& 0x3f).toInt64.toUInt64).toInt64) &&& (15 : Int64))) + (1 : Int64)) + (((p3.toUInt64 >>> ((24 : Int32) &&& 0x3f).toInt64.toUInt64).toInt64) &&& (15 : Int64))) + (1 : Int64)) + (((p3.toUInt64 >>> ((28 : Int32) &&& 0x3f).toInt64.toUInt64).toInt64) &&& (15 : Int64))) + (((p3.toUInt64 >>> ((32 : Int32) &&& 0x3f).toInt64.toUInt64).toInt64) &&& (255 : Int64))))])) _
      refine XS.lstore X117.here hx rfl (hb hby at_221) rfl (l' := #[.val (.long p1), .second, .val (.long p2), .second, .val (.long p3), .second, .val (.long p4), .second, .val (.long x8), .second, .val (.long x10), .second, .val (.ref b82), .val (.long (((((((((((((((((x10 + (1 : Int64)) + (p3 &&& (15 : Int64))) + (1 : Int64)) + (((p3.toUInt64 >>> ((4 : Int32) &&& 0x3f).toInt64.toUInt64).toInt64) &&& (15 : Int64))) + (1 : Int64)) + (((p3.toUInt64 >>> ((8 : Int32) &&& 0x3f).toInt64.toUInt64).toInt64) &&& (15 : Int64))) + (1 : Int64)) + (((p3.toUInt64 >>> ((12 : Int32) &&& 0x3f).toInt64.toUInt64).toInt64) &&& (15 : Int64))) + (1 : Int64)) + (((p3.toUInt64 >>> ((16 : Int32) &&& 0x3f).toInt64.toUInt64).toInt64) &&& (15 : Int64))) + (1 : Int64)) + (((p3.toUInt64 >>> ((20 : Int32) &&& 0x3f).toInt64.toUInt64).toInt64) &&& (15 : Int64))) + (1 : Int64)) + (((p3.toUInt64 >>> ((24 : Int32) &&& 0x3f).toInt64.toUInt64).toInt64) &&& (15 : Int64))) + (1 : Int64)) + (((p3.toUInt64 >>> ((28 : Int32) &&& 0x3f).toInt64.toUInt64).toInt64) &&& (15 : Int64))) + (((p3.toUInt64 >>> ((32 : Int32) &&& 0x3f).toInt64.toUInt64).toInt64) &&& (255 : Int64)))), .second, .unset, .unset, .unset, .unset, .unset, .unset, .unset, .unset, .unset]) rfl ?_
      show Steps p.tables e below (T117.setTop (mkF m 223 #[.val (.long p1), .second, .val (.long p2), .second, .val (.long p3), .second, .val (.long p4), .second, .val (.long x8), .second, .val (.long x10), .second, .val (.ref b82), .val (.long (((((((((((((((((x10 + (1 : Int64)) + (p3 &&& (15 : Int64))) + (1 : Int64)) + (((p3.toUInt64 >>> ((4 : Int32) &&& 0x3f).toInt64.toUInt64).toInt64) &&& (15 : Int64))) + (1 : Int64)) + (((p3.toUInt64 >>> ((8 : Int32) &&& 0x3f).toInt64.toUInt64).toInt64) &&& (15 : Int64))) + (1 : Int64)) + (((p3.toUInt64 >>> ((12 : Int32) &&& 0x3f).toInt64.toUInt64).toInt64) &&& (15 : Int64))) + (1 : Int64)) + (((p3.toUInt64 >>> ((16 : Int32) &&& 0x3f).toInt64.toUInt64).toInt64) &&& (15 : Int64))) + (1 : Int64)) + (((p3.toUInt64 >>> ((20 : Int32) &&& 0x3f).toInt64.toUInt64).toInt64) &&& (15 : Int64))) + (1 : Int64)) + (((p3.toUInt64 >>> ((24 : Int32) &&& 0x3f).toInt64.toUInt64).toInt64) &&& (15 : Int64))) + (1 : Int64)) + (((p3.toUInt64 >>> ((28 : Int32) &&& 0x3f).toInt64.toUInt64).toInt64) &&& (15 : Int64))) + (((p3.toUInt64 >>> ((32 : Int32) &&& 0x3f).toInt64.toUInt64).toInt64) &&& (255 : Int64)))), .second, .unset, .unset, .unset, .unset, .unset, .unset, .unset, .unset, .unset] [])) _
      refine XS.lload X117.here hx rfl (hb hby at_223) rfl ?_
      show Steps p.tables e below (T117.setTop (mkF m 225 #[.val (.long p1), .second, .val (.long p2), .second, .val (.long p3), .second, .val (.long p4), .second, .val (.long x8), .second, .val (.long x10), .second, .val (.ref b82), .val (.long (((((((((((((((((x10 + (1 : Int64)) + (p3 &&& (15 : Int64))) + (1 : Int64)) + (((p3.toUInt64 >>> ((4 : Int32) &&& 0x3f).toInt64.toUInt64).toInt64) &&& (15 : Int64))) + (1 : Int64)) + (((p3.toUInt64 >>> ((8 : Int32) &&& 0x3f).toInt64.toUInt64).toInt64) &&& (15 : Int64))) + (1 : Int64)) + (((p3.toUInt64 >>> ((12 : Int32) &&& 0x3f).toInt64.toUInt64).toInt64) &&& (15 : Int64))) + (1 : Int64)) + (((p3.toUInt64 >>> ((16 : Int32) &&& 0x3f).toInt64.toUInt64).toInt64) &&& (15 : Int64))) + (1 : Int64)) + (((p3.toUInt64 >>> ((20 : Int32) &&& 0x3f).toInt64.toUInt64).toInt64) &&& (15 : Int64))) + (1 : Int64)) + (((p3.toUInt64 >>> ((24 : Int32) &&& 0x3f).toInt64.toUInt64).toInt64) &&& (15 : Int64))) + (1 : Int64)) + (((p3.toUInt64 >>> ((28 : Int32) &&& 0x3f).toInt64.toUInt64).toInt64) &&& (15 : Int64))) + (((p3.toUInt64 >>> ((32 : Int32) &&& 0x3f).toInt64.toUInt64).toInt64) &&& (255 : Int64)))), .second, .unset, .unset, .unset, .unset, .unset, .unset, .unset, .unset, .unset] [(.long p3)])) _
      refine XS.bipush X117.here hx rfl (hb hby at_225) ?_
      show Steps p.tables e below (T117.setTop (mkF m 227 #[.val (.long p1), .second, .val (.long p2), .second, .val (.long p3), .second, .val (.long p4), .second, .val (.long x8), .second, .val (.long x10), .second, .val (.ref b82), .val (.long (((((((((((((((((x10 + (1 : Int64)) + (p3 &&& (15 : Int64))) + (1 : Int64)) + (((p3.toUInt64 >>> ((4 : Int32) &&& 0x3f).toInt64.toUInt64).toInt64) &&& (15 : Int64))) + (1 : Int64)) + (((p3.toUInt64 >>> ((8 : Int32) &&& 0x3f).toInt64.toUInt64).toInt64) &&& (15 : Int64))) + (1 : Int64)) + (((p3.toUInt64 >>> ((12 : Int32) &&& 0x3f).toInt64.toUInt64).toInt64) &&& (15 : Int64))) + (1 : Int64)) + (((p3.toUInt64 >>> ((16 : Int32) &&& 0x3f).toInt64.toUInt64).toInt64) &&& (15 : Int64))) + (1 : Int64)) + (((p3.toUInt64 >>> ((20 : Int32) &&& 0x3f).toInt64.toUInt64).toInt64) &&& (15 : Int64))) + (1 : Int64)) + (((p3.toUInt64 >>> ((24 : Int32) &&& 0x3f).toInt64.toUInt64).toInt64) &&& (15 : Int64))) + (1 : Int64)) + (((p3.toUInt64 >>> ((28 : Int32) &&& 0x3f).toInt64.toUInt64).toInt64) &&& (15 : Int64))) + (((p3.toUInt64 >>> ((32 : Int32) &&& 0x3f).toInt64.toUInt64).toInt64) &&& (255 : Int64)))), .second, .unset, .unset, .unset, .unset, .unset, .unset, .unset, .unset, .unset] [(.int (40 : Int32)), (.long p3)])) _
      refine XS.lushr X117.here hx rfl (hb hby at_227) rfl ?_
      show Steps p.tables e below (T117.setTop (mkF m 228 #[.val (.long p1), .second, .val (.long p2), .second, .val (.long p3), .second, .val (.long p4), .second, .val (.long x8), .second, .val (.long x10), .second, .val (.ref b82), .val (.long (((((((((((((((((x10 + (1 : Int64)) + (p3 &&& (15 : Int64))) + (1 : Int64)) + (((p3.toUInt64 >>> ((4 : Int32) &&& 0x3f).toInt64.toUInt64).toInt64) &&& (15 : Int64))) + (1 : Int64)) + (((p3.toUInt64 >>> ((8 : Int32) &&& 0x3f).toInt64.toUInt64).toInt64) &&& (15 : Int64))) + (1 : Int64)) + (((p3.toUInt64 >>> ((12 : Int32) &&& 0x3f).toInt64.toUInt64).toInt64) &&& (15 : Int64))) + (1 : Int64)) + (((p3.toUInt64 >>> ((16 : Int32) &&& 0x3f).toInt64.toUInt64).toInt64) &&& (15 : Int64))) + (1 : Int64)) + (((p3.toUInt64 >>> ((20 : Int32) &&& 0x3f).toInt64.toUInt64).toInt64) &&& (15 : Int64))) + (1 : Int64)) + (((p3.toUInt64 >>> ((24 : Int32) &&& 0x3f).toInt64.toUInt64).toInt64) &&& (15 : Int64))) + (1 : Int64)) + (((p3.toUInt64 >>> ((28 : Int32) &&& 0x3f).toInt64.toUInt64).toInt64) &&& (15 : Int64))) + (((p3.toUInt64 >>> ((32 : Int32) &&& 0x3f).toInt64.toUInt64).toInt64) &&& (255 : Int64)))), .second, .unset, .unset, .unset, .unset, .unset, .unset, .unset, .unset, .unset] [(.long ((p3.toUInt64 >>> ((40 : Int32) &&& 0x3f).toInt64.toUInt64).toInt64))])) _
      refine X117.ldc2Long hx hown (mvT hZ (hw _ (List.mem_of_getElem? (i := 7) rfl))) (g := (mkF m 228 #[.val (.long p1), .second, .val (.long p2), .second, .val (.long p3), .second, .val (.long p4), .second, .val (.long x8), .second, .val (.long x10), .second, .val (.ref b82), .val (.long (((((((((((((((((x10 + (1 : Int64)) + (p3 &&& (15 : Int64))) + (1 : Int64)) + (((p3.toUInt64 >>> ((4 : Int32) &&& 0x3f).toInt64.toUInt64).toInt64) &&& (15 : Int64))) + (1 : Int64)) + (((p3.toUInt64 >>> ((8 : Int32) &&& 0x3f).toInt64.toUInt64).toInt64) &&& (15 : Int64))) + (1 : Int64)) + (((p3.toUInt64 >>> ((12 : Int32) &&& 0x3f).toInt64.toUInt64).toInt64) &&& (15 : Int64))) + (1 : Int64)) + (((p3.toUInt64 >>> ((16 : Int32) &&& 0x3f).toInt64.toUInt64).toInt64) &&& (15 : Int64))) + (1 : Int64)) + (((p3.toUInt64 >>> ((20 : Int32) &&& 0x3f).toInt64.toUInt64).toInt64) &&& (15 : Int64))) + (1 : Int64)) + (((p3.toUInt64 >>> ((24 : Int32) &&& 0x3f).toInt64.toUInt64).toInt64) &&& (15 : Int64))) + (1 : Int64)) + (((p3.toUInt64 >>> ((28 : Int32) &&& 0x3f).toInt64.toUInt64).toInt64) &&& (15 : Int64))) + (((p3.toUInt64 >>> ((32 : Int32) &&& 0x3f).toInt64.toUInt64).toInt64) &&& (255 : Int64)))), .second, .unset, .unset, .unset, .unset, .unset, .unset, .unset, .unset, .unset] [(.long ((p3.toUInt64 >>> ((40 : Int32) &&& 0x3f).toInt64.toUInt64).toInt64))])) rfl (hb hby at_228) _ ?_
      show Steps p.tables e below (T117.setTop (mkF m 231 #[.val (.long p1), .second, .val (.long p2), .second, .val (.long p3), .second, .val (.long p4), .second, .val (.long x8), .second, .val (.long x10), .second, .val (.ref b82), .val (.long (((((((((((((((((x10 + (1 : Int64)) + (p3 &&& (15 : Int64))) + (1 : Int64)) + (((p3.toUInt64 >>> ((4 : Int32) &&& 0x3f).toInt64.toUInt64).toInt64) &&& (15 : Int64))) + (1 : Int64)) + (((p3.toUInt64 >>> ((8 : Int32) &&& 0x3f).toInt64.toUInt64).toInt64) &&& (15 : Int64))) + (1 : Int64)) + (((p3.toUInt64 >>> ((12 : Int32) &&& 0x3f).toInt64.toUInt64).toInt64) &&& (15 : Int64))) + (1 : Int64)) + (((p3.toUInt64 >>> ((16 : Int32) &&& 0x3f).toInt64.toUInt64).toInt64) &&& (15 : Int64))) + (1 : Int64)) + (((p3.toUInt64 >>> ((20 : Int32) &&& 0x3f).toInt64.toUInt64).toInt64) &&& (15 : Int64))) + (1 : Int64)) + (((p3.toUInt64 >>> ((24 : Int32) &&& 0x3f).toInt64.toUInt64).toInt64) &&& (15 : Int64))) + (1 : Int64)) + (((p3.toUInt64 >>> ((28 : Int32) &&& 0x3f).toInt64.toUInt64).toInt64) &&& (15 : Int64))) + (((p3.toUInt64 >>> ((32 : Int32) &&& 0x3f).toInt64.toUInt64).toInt64) &&& (255 : Int64)))), .second, .unset, .unset, .unset, .unset, .unset, .unset, .unset, .unset, .unset] [(.long (15 : Int64)), (.long ((p3.toUInt64 >>> ((40 : Int32) &&& 0x3f).toInt64.toUInt64).toInt64))])) _
      refine XS.land X117.here hx rfl (hb hby at_231) rfl ?_
      show Steps p.tables e below (T117.setTop (mkF m 232 #[.val (.long p1), .second, .val (.long p2), .second, .val (.long p3), .second, .val (.long p4), .second, .val (.long x8), .second, .val (.long x10), .second, .val (.ref b82), .val (.long (((((((((((((((((x10 + (1 : Int64)) + (p3 &&& (15 : Int64))) + (1 : Int64)) + (((p3.toUInt64 >>> ((4 : Int32) &&& 0x3f).toInt64.toUInt64).toInt64) &&& (15 : Int64))) + (1 : Int64)) + (((p3.toUInt64 >>> ((8 : Int32) &&& 0x3f).toInt64.toUInt64).toInt64) &&& (15 : Int64))) + (1 : Int64)) + (((p3.toUInt64 >>> ((12 : Int32) &&& 0x3f).toInt64.toUInt64).toInt64) &&& (15 : Int64))) + (1 : Int64)) + (((p3.toUInt64 >>> ((16 : Int32) &&& 0x3f).toInt64.toUInt64).toInt64) &&& (15 : Int64))) + (1 : Int64)) + (((p3.toUInt64 >>> ((20 : Int32) &&& 0x3f).toInt64.toUInt64).toInt64) &&& (15 : Int64))) + (1 : Int64)) + (((p3.toUInt64 >>> ((24 : Int32) &&& 0x3f).toInt64.toUInt64).toInt64) &&& (15 : Int64))) + (1 : Int64)) + (((p3.toUInt64 >>> ((28 : Int32) &&& 0x3f).toInt64.toUInt64).toInt64) &&& (15 : Int64))) + (((p3.toUInt64 >>> ((32 : Int32) &&& 0x3f).toInt64.toUInt64).toInt64) &&& (255 : Int64)))), .second, .unset, .unset, .unset, .unset, .unset, .unset, .unset, .unset, .unset] [(.long (((p3.toUInt64 >>> ((40 : Int32) &&& 0x3f).toInt64.toUInt64).toInt64) &&& (15 : Int64)))])) _
      refine XS.l2i X117.here hx rfl (hb hby at_232) rfl ?_
      show Steps p.tables e below (T117.setTop (mkF m 233 #[.val (.long p1), .second, .val (.long p2), .second, .val (.long p3), .second, .val (.long p4), .second, .val (.long x8), .second, .val (.long x10), .second, .val (.ref b82), .val (.long (((((((((((((((((x10 + (1 : Int64)) + (p3 &&& (15 : Int64))) + (1 : Int64)) + (((p3.toUInt64 >>> ((4 : Int32) &&& 0x3f).toInt64.toUInt64).toInt64) &&& (15 : Int64))) + (1 : Int64)) + (((p3.toUInt64 >>> ((8 : Int32) &&& 0x3f).toInt64.toUInt64).toInt64) &&& (15 : Int64))) + (1 : Int64)) + (((p3.toUInt64 >>> ((12 : Int32) &&& 0x3f).toInt64.toUInt64).toInt64) &&& (15 : Int64))) + (1 : Int64)) + (((p3.toUInt64 >>> ((16 : Int32) &&& 0x3f).toInt64.toUInt64).toInt64) &&& (15 : Int64))) + (1 : Int64)) + (((p3.toUInt64 >>> ((20 : Int32) &&& 0x3f).toInt64.toUInt64).toInt64) &&& (15 : Int64))) + (1 : Int64)) + (((p3.toUInt64 >>> ((24 : Int32) &&& 0x3f).toInt64.toUInt64).toInt64) &&& (15 : Int64))) + (1 : Int64)) + (((p3.toUInt64 >>> ((28 : Int32) &&& 0x3f).toInt64.toUInt64).toInt64) &&& (15 : Int64))) + (((p3.toUInt64 >>> ((32 : Int32) &&& 0x3f).toInt64.toUInt64).toInt64) &&& (255 : Int64)))), .second, .unset, .unset, .unset, .unset, .unset, .unset, .unset, .unset, .unset] [(.int ((((p3.toUInt64 >>> ((40 : Int32) &&& 0x3f).toInt64.toUInt64).toInt64) &&& (15 : Int64)).toInt32))])) _
      refine XS.istore X117.here hx rfl (hb hby at_233) rfl (l' := #[.val (.long p1), .second, .val (.long p2), .second, .val (.long p3), .second, .val (.long p4), .second, .val (.long x8), .second, .val (.long x10), .second, .val (.ref b82), .val (.long (((((((((((((((((x10 + (1 : Int64)) + (p3 &&& (15 : Int64))) + (1 : Int64)) + (((p3.toUInt64 >>> ((4 : Int32) &&& 0x3f).toInt64.toUInt64).toInt64) &&& (15 : Int64))) + (1 : Int64)) + (((p3.toUInt64 >>> ((8 : Int32) &&& 0x3f).toInt64.toUInt64).toInt64) &&& (15 : Int64))) + (1 : Int64)) + (((p3.toUInt64 >>> ((12 : Int32) &&& 0x3f).toInt64.toUInt64).toInt64) &&& (15 : Int64))) + (1 : Int64)) + (((p3.toUInt64 >>> ((16 : Int32) &&& 0x3f).toInt64.toUInt64).toInt64) &&& (15 : Int64))) + (1 : Int64)) + (((p3.toUInt64 >>> ((20 : Int32) &&& 0x3f).toInt64.toUInt64).toInt64) &&& (15 : Int64))) + (1 : Int64)) + (((p3.toUInt64 >>> ((24 : Int32) &&& 0x3f).toInt64.toUInt64).toInt64) &&& (15 : Int64))) + (1 : Int64)) + (((p3.toUInt64 >>> ((28 : Int32) &&& 0x3f).toInt64.toUInt64).toInt64) &&& (15 : Int64))) + (((p3.toUInt64 >>> ((32 : Int32) &&& 0x3f).toInt64.toUInt64).toInt64) &&& (255 : Int64)))), .second, .val (.int ((((p3.toUInt64 >>> ((40 : Int32) &&& 0x3f).toInt64.toUInt64).toInt64) &&& (15 : Int64)).toInt32)), .unset, .unset, .unset, .unset, .unset, .unset, .unset, .unset]) rfl ?_
      show Steps p.tables e below (T117.setTop (mkF m 235 #[.val (.long p1), .second, .val (.long p2), .second, .val (.long p3), .second, .val (.long p4), .second, .val (.long x8), .second, .val (.long x10), .second, .val (.ref b82), .val (.long (((((((((((((((((x10 + (1 : Int64)) + (p3 &&& (15 : Int64))) + (1 : Int64)) + (((p3.toUInt64 >>> ((4 : Int32) &&& 0x3f).toInt64.toUInt64).toInt64) &&& (15 : Int64))) + (1 : Int64)) + (((p3.toUInt64 >>> ((8 : Int32) &&& 0x3f).toInt64.toUInt64).toInt64) &&& (15 : Int64))) + (1 : Int64)) + (((p3.toUInt64 >>> ((12 : Int32) &&& 0x3f).toInt64.toUInt64).toInt64) &&& (15 : Int64))) + (1 : Int64)) + (((p3.toUInt64 >>> ((16 : Int32) &&& 0x3f).toInt64.toUInt64).toInt64) &&& (15 : Int64))) + (1 : Int64)) + (((p3.toUInt64 >>> ((20 : Int32) &&& 0x3f).toInt64.toUInt64).toInt64) &&& (15 : Int64))) + (1 : Int64)) + (((p3.toUInt64 >>> ((24 : Int32) &&& 0x3f).toInt64.toUInt64).toInt64) &&& (15 : Int64))) + (1 : Int64)) + (((p3.toUInt64 >>> ((28 : Int32) &&& 0x3f).toInt64.toUInt64).toInt64) &&& (15 : Int64))) + (((p3.toUInt64 >>> ((32 : Int32) &&& 0x3f).toInt64.toUInt64).toInt64) &&& (255 : Int64)))), .second, .val (.int ((((p3.toUInt64 >>> ((40 : Int32) &&& 0x3f).toInt64.toUInt64).toInt64) &&& (15 : Int64)).toInt32)), .unset, .unset, .unset, .unset, .unset, .unset, .unset, .unset] [])) _
      refine XS.lload X117.here hx rfl (hb hby at_235) rfl ?_
      show Steps p.tables e below (T117.setTop (mkF m 237 #[.val (.long p1), .second, .val (.long p2), .second, .val (.long p3), .second, .val (.long p4), .second, .val (.long x8), .second, .val (.long x10), .second, .val (.ref b82), .val (.long (((((((((((((((((x10 + (1 : Int64)) + (p3 &&& (15 : Int64))) + (1 : Int64)) + (((p3.toUInt64 >>> ((4 : Int32) &&& 0x3f).toInt64.toUInt64).toInt64) &&& (15 : Int64))) + (1 : Int64)) + (((p3.toUInt64 >>> ((8 : Int32) &&& 0x3f).toInt64.toUInt64).toInt64) &&& (15 : Int64))) + (1 : Int64)) + (((p3.toUInt64 >>> ((12 : Int32) &&& 0x3f).toInt64.toUInt64).toInt64) &&& (15 : Int64))) + (1 : Int64)) + (((p3.toUInt64 >>> ((16 : Int32) &&& 0x3f).toInt64.toUInt64).toInt64) &&& (15 : Int64))) + (1 : Int64)) + (((p3.toUInt64 >>> ((20 : Int32) &&& 0x3f).toInt64.toUInt64).toInt64) &&& (15 : Int64))) + (1 : Int64)) + (((p3.toUInt64 >>> ((24 : Int32) &&& 0x3f).toInt64.toUInt64).toInt64) &&& (15 : Int64))) + (1 : Int64)) + (((p3.toUInt64 >>> ((28 : Int32) &&& 0x3f).toInt64.toUInt64).toInt64) &&& (15 : Int64))) + (((p3.toUInt64 >>> ((32 : Int32) &&& 0x3f).toInt64.toUInt64).toInt64) &&& (255 : Int64)))), .second, .val (.int ((((p3.toUInt64 >>> ((40 : Int32) &&& 0x3f).toInt64.toUInt64).toInt64) &&& (15 : Int64)).toInt32)), .unset, .unset, .unset, .unset, .unset, .unset, .unset, .unset] [(.long p3)])) _
      refine XS.bipush X117.here hx rfl (hb hby at_237) ?_
      show Steps p.tables e below (T117.setTop (mkF m 239 #[.val (.long p1), .second, .val (.long p2), .second, .val (.long p3), .second, .val (.long p4), .second, .val (.long x8), .second, .val (.long x10), .second, .val (.ref b82), .val (.long (((((((((((((((((x10 + (1 : Int64)) + (p3 &&& (15 : Int64))) + (1 : Int64)) + (((p3.toUInt64 >>> ((4 : Int32) &&& 0x3f).toInt64.toUInt64).toInt64) &&& (15 : Int64))) + (1 : Int64)) + (((p3.toUInt64 >>> ((8 : Int32) &&& 0x3f).toInt64.toUInt64).toInt64) &&& (15 : Int64))) + (1 : Int64)) + (((p3.toUInt64 >>> ((12 : Int32) &&& 0x3f).toInt64.toUInt64).toInt64) &&& (15 : Int64))) + (1 : Int64)) + (((p3.toUInt64 >>> ((16 : Int32) &&& 0x3f).toInt64.toUInt64).toInt64) &&& (15 : Int64))) + (1 : Int64)) + (((p3.toUInt64 >>> ((20 : Int32) &&& 0x3f).toInt64.toUInt64).toInt64) &&& (15 : Int64))) + (1 : Int64)) + (((p3.toUInt64 >>> ((24 : Int32) &&& 0x3f).toInt64.toUInt64).toInt64) &&& (15 : Int64))) + (1 : Int64)) + (((p3.toUInt64 >>> ((28 : Int32) &&& 0x3f).toInt64.toUInt64).toInt64) &&& (15 : Int64))) + (((p3.toUInt64 >>> ((32 : Int32) &&& 0x3f).toInt64.toUInt64).toInt64) &&& (255 : Int64)))), .second, .val (.int ((((p3.toUInt64 >>> ((40 : Int32) &&& 0x3f).toInt64.toUInt64).toInt64) &&& (15 : Int64)).toInt32)), .unset, .unset, .unset, .unset, .unset, .unset, .unset, .unset] [(.int (44 : Int32)), (.long p3)])) _
      refine XS.lushr X117.here hx rfl (hb hby at_239) rfl ?_
      show Steps p.tables e below (T117.setTop (mkF m 240 #[.val (.long p1), .second, .val (.long p2), .second, .val (.long p3), .second, .val (.long p4), .second, .val (.long x8), .second, .val (.long x10), .second, .val (.ref b82), .val (.long (((((((((((((((((x10 + (1 : Int64)) + (p3 &&& (15 : Int64))) + (1 : Int64)) + (((p3.toUInt64 >>> ((4 : Int32) &&& 0x3f).toInt64.toUInt64).toInt64) &&& (15 : Int64))) + (1 : Int64)) + (((p3.toUInt64 >>> ((8 : Int32) &&& 0x3f).toInt64.toUInt64).toInt64) &&& (15 : Int64))) + (1 : Int64)) + (((p3.toUInt64 >>> ((12 : Int32) &&& 0x3f).toInt64.toUInt64).toInt64) &&& (15 : Int64))) + (1 : Int64)) + (((p3.toUInt64 >>> ((16 : Int32) &&& 0x3f).toInt64.toUInt64).toInt64) &&& (15 : Int64))) + (1 : Int64)) + (((p3.toUInt64 >>> ((20 : Int32) &&& 0x3f).toInt64.toUInt64).toInt64) &&& (15 : Int64))) + (1 : Int64)) + (((p3.toUInt64 >>> ((24 : Int32) &&& 0x3f).toInt64.toUInt64).toInt64) &&& (15 : Int64))) + (1 : Int64)) + (((p3.toUInt64 >>> ((28 : Int32) &&& 0x3f).toInt64.toUInt64).toInt64) &&& (15 : Int64))) + (((p3.toUInt64 >>> ((32 : Int32) &&& 0x3f).toInt64.toUInt64).toInt64) &&& (255 : Int64)))), .second, .val (.int ((((p3.toUInt64 >>> ((40 : Int32) &&& 0x3f).toInt64.toUInt64).toInt64) &&& (15 : Int64)).toInt32)), .unset, .unset, .unset, .unset, .unset, .unset, .unset, .unset] [(.long ((p3.toUInt64 >>> ((44 : Int32) &&& 0x3f).toInt64.toUInt64).toInt64))])) _
      refine X117.ldc2Long hx hown (mvT hZ (hw _ (List.mem_of_getElem? (i := 7) rfl))) (g := (mkF m 240 #[.val (.long p1), .second, .val (.long p2), .second, .val (.long p3), .second, .val (.long p4), .second, .val (.long x8), .second, .val (.long x10), .second, .val (.ref b82), .val (.long (((((((((((((((((x10 + (1 : Int64)) + (p3 &&& (15 : Int64))) + (1 : Int64)) + (((p3.toUInt64 >>> ((4 : Int32) &&& 0x3f).toInt64.toUInt64).toInt64) &&& (15 : Int64))) + (1 : Int64)) + (((p3.toUInt64 >>> ((8 : Int32) &&& 0x3f).toInt64.toUInt64).toInt64) &&& (15 : Int64))) + (1 : Int64)) + (((p3.toUInt64 >>> ((12 : Int32) &&& 0x3f).toInt64.toUInt64).toInt64) &&& (15 : Int64))) + (1 : Int64)) + (((p3.toUInt64 >>> ((16 : Int32) &&& 0x3f).toInt64.toUInt64).toInt64) &&& (15 : Int64))) + (1 : Int64)) + (((p3.toUInt64 >>> ((20 : Int32) &&& 0x3f).toInt64.toUInt64).toInt64) &&& (15 : Int64))) + (1 : Int64)) + (((p3.toUInt64 >>> ((24 : Int32) &&& 0x3f).toInt64.toUInt64).toInt64) &&& (15 : Int64))) + (1 : Int64)) + (((p3.toUInt64 >>> ((28 : Int32) &&& 0x3f).toInt64.toUInt64).toInt64) &&& (15 : Int64))) + (((p3.toUInt64 >>> ((32 : Int32) &&& 0x3f).toInt64.toUInt64).toInt64) &&& (255 : Int64)))), .second, .val (.int ((((p3.toUInt64 >>> ((40 : Int32) &&& 0x3f).toInt64.toUInt64).toInt64) &&& (15 : Int64)).toInt32)), .unset, .unset, .unset, .unset, .unset, .unset, .unset, .unset] [(.long ((p3.toUInt64 >>> ((44 : Int32) &&& 0x3f).toInt64.toUInt64).toInt64))])) rfl (hb hby at_240) _ ?_
      show Steps p.tables e below (T117.setTop (mkF m 243 #[.val (.long p1), .second, .val (.long p2), .second, .val (.long p3), .second, .val (.long p4), .second, .val (.long x8), .second, .val (.long x10), .second, .val (.ref b82), .val (.long (((((((((((((((((x10 + (1 : Int64)) + (p3 &&& (15 : Int64))) + (1 : Int64)) + (((p3.toUInt64 >>> ((4 : Int32) &&& 0x3f).toInt64.toUInt64).toInt64) &&& (15 : Int64))) + (1 : Int64)) + (((p3.toUInt64 >>> ((8 : Int32) &&& 0x3f).toInt64.toUInt64).toInt64) &&& (15 : Int64))) + (1 : Int64)) + (((p3.toUInt64 >>> ((12 : Int32) &&& 0x3f).toInt64.toUInt64).toInt64) &&& (15 : Int64))) + (1 : Int64)) + (((p3.toUInt64 >>> ((16 : Int32) &&& 0x3f).toInt64.toUInt64).toInt64) &&& (15 : Int64))) + (1 : Int64)) + (((p3.toUInt64 >>> ((20 : Int32) &&& 0x3f).toInt64.toUInt64).toInt64) &&& (15 : Int64))) + (1 : Int64)) + (((p3.toUInt64 >>> ((24 : Int32) &&& 0x3f).toInt64.toUInt64).toInt64) &&& (15 : Int64))) + (1 : Int64)) + (((p3.toUInt64 >>> ((28 : Int32) &&& 0x3f).toInt64.toUInt64).toInt64) &&& (15 : Int64))) + (((p3.toUInt64 >>> ((32 : Int32) &&& 0x3f).toInt64.toUInt64).toInt64) &&& (255 : Int64)))), .second, .val (.int ((((p3.toUInt64 >>> ((40 : Int32) &&& 0x3f).toInt64.toUInt64).toInt64) &&& (15 : Int64)).toInt32)), .unset, .unset, .unset, .unset, .unset, .unset, .unset, .unset] [(.long (15 : Int64)), (.long ((p3.toUInt64 >>> ((44 : Int32) &&& 0x3f).toInt64.toUInt64).toInt64))])) _
      refine XS.land X117.here hx rfl (hb hby at_243) rfl ?_
      show Steps p.tables e below (T117.setTop (mkF m 244 #[.val (.long p1), .second, .val (.long p2), .second, .val (.long p3), .second, .val (.long p4), .second, .val (.long x8), .second, .val (.long x10), .second, .val (.ref b82), .val (.long (((((((((((((((((x10 + (1 : Int64)) + (p3 &&& (15 : Int64))) + (1 : Int64)) + (((p3.toUInt64 >>> ((4 : Int32) &&& 0x3f).toInt64.toUInt64).toInt64) &&& (15 : Int64))) + (1 : Int64)) + (((p3.toUInt64 >>> ((8 : Int32) &&& 0x3f).toInt64.toUInt64).toInt64) &&& (15 : Int64))) + (1 : Int64)) + (((p3.toUInt64 >>> ((12 : Int32) &&& 0x3f).toInt64.toUInt64).toInt64) &&& (15 : Int64))) + (1 : Int64)) + (((p3.toUInt64 >>> ((16 : Int32) &&& 0x3f).toInt64.toUInt64).toInt64) &&& (15 : Int64))) + (1 : Int64)) + (((p3.toUInt64 >>> ((20 : Int32) &&& 0x3f).toInt64.toUInt64).toInt64) &&& (15 : Int64))) + (1 : Int64)) + (((p3.toUInt64 >>> ((24 : Int32) &&& 0x3f).toInt64.toUInt64).toInt64) &&& (15 : Int64))) + (1 : Int64)) + (((p3.toUInt64 >>> ((28 : Int32) &&& 0x3f).toInt64.toUInt64).toInt64) &&& (15 : Int64))) + (((p3.toUInt64 >>> ((32 : Int32) &&& 0x3f).toInt64.toUInt64).toInt64) &&& (255 : Int64)))), .second, .val (.int ((((p3.toUInt64 >>> ((40 : Int32) &&& 0x3f).toInt64.toUInt64).toInt64) &&& (15 : Int64)).toInt32)), .unset, .unset, .unset, .unset, .unset, .unset, .unset, .unset] [(.long (((p3.toUInt64 >>> ((44 : Int32) &&& 0x3f).toInt64.toUInt64).toInt64) &&& (15 : Int64)))])) _
      refine XS.l2i X117.here hx rfl (hb hby at_244) rfl ?_
      show Steps p.tables e below (T117.setTop (mkF m 245 #[.val (.long p1), .second, .val (.long p2), .second, .val (.long p3), .second, .val (.long p4), .second, .val (.long x8), .second, .val (.long x10), .second, .val (.ref b82), .val (.long (((((((((((((((((x10 + (1 : Int64)) + (p3 &&& (15 : Int64))) + (1 : Int64)) + (((p3.toUInt64 >>> ((4 : Int32) &&& 0x3f).toInt64.toUInt64).toInt64) &&& (15 : Int64))) + (1 : Int64)) + (((p3.toUInt64 >>> ((8 : Int32) &&& 0x3f).toInt64.toUInt64).toInt64) &&& (15 : Int64))) + (1 : Int64)) + (((p3.toUInt64 >>> ((12 : Int32) &&& 0x3f).toInt64.toUInt64).toInt64) &&& (15 : Int64))) + (1 : Int64)) + (((p3.toUInt64 >>> ((16 : Int32) &&& 0x3f).toInt64.toUInt64).toInt64) &&& (15 : Int64))) + (1 : Int64)) + (((p3.toUInt64 >>> ((20 : Int32) &&& 0x3f).toInt64.toUInt64).toInt64) &&& (15 : Int64))) + (1 : Int64)) + (((p3.toUInt64 >>> ((24 : Int32) &&& 0x3f).toInt64.toUInt64).toInt64) &&& (15 : Int64))) + (1 : Int64)) + (((p3.toUInt64 >>> ((28 : Int32) &&& 0x3f).toInt64.toUInt64).toInt64) &&& (15 : Int64))) + (((p3.toUInt64 >>> ((32 : Int32) &&& 0x3f).toInt64.toUInt64).toInt64) &&& (255 : Int64)))), .second, .val (.int ((((p3.toUInt64 >>> ((40 : Int32) &&& 0x3f).toInt64.toUInt64).toInt64) &&& (15 : Int64)).toInt32)), .unset, .unset, .unset, .unset, .unset, .unset, .unset, .unset] [(.int ((((p3.toUInt64 >>> ((44 : Int32) &&& 0x3f).toInt64.toUInt64).toInt64) &&& (15 : Int64)).toInt32))])) _
      refine XS.istore X117.here hx rfl (hb hby at_245) rfl (l' := #[.val (.long p1), .second, .val (.long p2), .second, .val (.long p3), .second, .val (.long p4), .second, .val (.long x8), .second, .val (.long x10), .second, .val (.ref b82), .val (.long (((((((((((((((((x10 + (1 : Int64)) + (p3 &&& (15 : Int64))) + (1 : Int64)) + (((p3.toUInt64 >>> ((4 : Int32) &&& 0x3f).toInt64.toUInt64).toInt64) &&& (15 : Int64))) + (1 : Int64)) + (((p3.toUInt64 >>> ((8 : Int32) &&& 0x3f).toInt64.toUInt64).toInt64) &&& (15 : Int64))) + (1 : Int64)) + (((p3.toUInt64 >>> ((12 : Int32) &&& 0x3f).toInt64.toUInt64).toInt64) &&& (15 : Int64))) + (1 : Int64)) + (((p3.toUInt64 >>> ((16 : Int32) &&& 0x3f).toInt64.toUInt64).toInt64) &&& (15 : Int64))) + (1 : Int64)) + (((p3.toUInt64 >>> ((20 : Int32) &&& 0x3f).toInt64.toUInt64).toInt64) &&& (15 : Int64))) + (1 : Int64)) + (((p3.toUInt64 >>> ((24 : Int32) &&& 0x3f).toInt64.toUInt64).toInt64) &&& (15 : Int64))) + (1 : Int64)) + (((p3.toUInt64 >>> ((28 : Int32) &&& 0x3f).toInt64.toUInt64).toInt64) &&& (15 : Int64))) + (((p3.toUInt64 >>> ((32 : Int32) &&& 0x3f).toInt64.toUInt64).toInt64) &&& (255 : Int64)))), .second, .val (.int ((((p3.toUInt64 >>> ((40 : Int32) &&& 0x3f).toInt64.toUInt64).toInt64) &&& (15 : Int64)).toInt32)), .val (.int ((((p3.toUInt64 >>> ((44 : Int32) &&& 0x3f).toInt64.toUInt64).toInt64) &&& (15 : Int64)).toInt32)), .unset, .unset, .unset, .unset, .unset, .unset, .unset]) rfl ?_
      exact kt
    have hz : own_SS 8 [x10, ((x10 + (1 : Int64)) + (p3 &&& (15 : Int64))), ((((x10 + (1 : Int64)) + (p3 &&& (15 : Int64))) + (1 : Int64)) + (((p3.toUInt64 >>> ((4 : Int32) &&& 0x3f).toInt64.toUInt64).toInt64) &&& (15 : Int64))), ((((((x10 + (1 : Int64)) + (p3 &&& (15 : Int64))) + (1 : Int64)) + (((p3.toUInt64 >>> ((4 : Int32) &&& 0x3f).toInt64.toUInt64).toInt64) &&& (15 : Int64))) + (1 : Int64)) + (((p3.toUInt64 >>> ((8 : Int32) &&& 0x3f).toInt64.toUInt64).toInt64) &&& (15 : Int64))), ((((((((x10 + (1 : Int64)) + (p3 &&& (15 : Int64))) + (1 : Int64)) + (((p3.toUInt64 >>> ((4 : Int32) &&& 0x3f).toInt64.toUInt64).toInt64) &&& (15 : Int64))) + (1 : Int64)) + (((p3.toUInt64 >>> ((8 : Int32) &&& 0x3f).toInt64.toUInt64).toInt64) &&& (15 : Int64))) + (1 : Int64)) + (((p3.toUInt64 >>> ((12 : Int32) &&& 0x3f).toInt64.toUInt64).toInt64) &&& (15 : Int64))), ((((((((((x10 + (1 : Int64)) + (p3 &&& (15 : Int64))) + (1 : Int64)) + (((p3.toUInt64 >>> ((4 : Int32) &&& 0x3f).toInt64.toUInt64).toInt64) &&& (15 : Int64))) + (1 : Int64)) + (((p3.toUInt64 >>> ((8 : Int32) &&& 0x3f).toInt64.toUInt64).toInt64) &&& (15 : Int64))) + (1 : Int64)) + (((p3.toUInt64 >>> ((12 : Int32) &&& 0x3f).toInt64.toUInt64).toInt64) &&& (15 : Int64))) + (1 : Int64)) + (((p3.toUInt64 >>> ((16 : Int32) &&& 0x3f).toInt64.toUInt64).toInt64) &&& (15 : Int64))), ((((((((((((x10 + (1 : Int64)) + (p3 &&& (15 : Int64))) + (1 : Int64)) + (((p3.toUInt64 >>> ((4 : Int32) &&& 0x3f).toInt64.toUInt64).toInt64) &&& (15 : Int64))) + (1 : Int64)) + (((p3.toUInt64 >>> ((8 : Int32) &&& 0x3f).toInt64.toUInt64).toInt64) &&& (15 : Int64))) + (1 : Int64)) + (((p3.toUInt64 >>> ((12 : Int32) &&& 0x3f).toInt64.toUInt64).toInt64) &&& (15 : Int64))) + (1 : Int64)) + (((p3.toUInt64 >>> ((16 : Int32) &&& 0x3f).toInt64.toUInt64).toInt64) &&& (15 : Int64))) + (1 : Int64)) + (((p3.toUInt64 >>> ((20 : Int32) &&& 0x3f).toInt64.toUInt64).toInt64) &&& (15 : Int64))), ((((((((((((((x10 + (1 : Int64)) + (p3 &&& (15 : Int64))) + (1 : Int64)) + (((p3.toUInt64 >>> ((4 : Int32) &&& 0x3f).toInt64.toUInt64).toInt64) &&& (15 : Int64))) + (1 : Int64)) + (((p3.toUInt64 >>> ((8 : Int32) &&& 0x3f).toInt64.toUInt64).toInt64) &&& (15 : Int64))) + (1 : Int64)) + (((p3.toUInt64 >>> ((12 : Int32) &&& 0x3f).toInt64.toUInt64).toInt64) &&& (15 : Int64))) + (1 : Int64)) + (((p3.toUInt64 >>> ((16 : Int32) &&& 0x3f).toInt64.toUInt64).toInt64) &&& (15 : Int64))) + (1 : Int64)) + (((p3.toUInt64 >>> ((20 : Int32) &&& 0x3f).toInt64.toUInt64).toInt64) &&& (15 : Int64))) + (1 : Int64)) + (((p3.toUInt64 >>> ((24 : Int32) &&& 0x3f).toInt64.toUInt64).toInt64) &&& (15 : Int64))), ((((((((((((((((x10 + (1 : Int64)) + (p3 &&& (15 : Int64))) + (1 : Int64)) + (((p3.toUInt64 >>> ((4 : Int32) &&& 0x3f).toInt64.toUInt64).toInt64) &&& (15 : Int64))) + (1 : Int64)) + (((p3.toUInt64 >>> ((8 : Int32) &&& 0x3f).toInt64.toUInt64).toInt64) &&& (15 : Int64))) + (1 : Int64)) + (((p3.toUInt64 >>> ((12 : Int32) &&& 0x3f).toInt64.toUInt64).toInt64) &&& (15 : Int64))) + (1 : Int64)) + (((p3.toUInt64 >>> ((16 : Int32) &&& 0x3f).toInt64.toUInt64).toInt64) &&& (15 : Int64))) + (1 : Int64)) + (((p3.toUInt64 >>> ((20 : Int32) &&& 0x3f).toInt64.toUInt64).toInt64) &&& (15 : Int64))) + (1 : Int64)) + (((p3.toUInt64 >>> ((24 : Int32) &&& 0x3f).toInt64.toUInt64).toInt64) &&& (15 : Int64))) + (1 : Int64)) + (((p3.toUInt64 >>> ((28 : Int32) &&& 0x3f).toInt64.toUInt64).toInt64) &&& (15 : Int64)))] ∧ (((((((((((((((((x10 + (1 : Int64)) + (p3 &&& (15 : Int64))) + (1 : Int64)) + (((p3.toUInt64 >>> ((4 : Int32) &&& 0x3f).toInt64.toUInt64).toInt64) &&& (15 : Int64))) + (1 : Int64)) + (((p3.toUInt64 >>> ((8 : Int32) &&& 0x3f).toInt64.toUInt64).toInt64) &&& (15 : Int64))) + (1 : Int64)) + (((p3.toUInt64 >>> ((12 : Int32) &&& 0x3f).toInt64.toUInt64).toInt64) &&& (15 : Int64))) + (1 : Int64)) + (((p3.toUInt64 >>> ((16 : Int32) &&& 0x3f).toInt64.toUInt64).toInt64) &&& (15 : Int64))) + (1 : Int64)) + (((p3.toUInt64 >>> ((20 : Int32) &&& 0x3f).toInt64.toUInt64).toInt64) &&& (15 : Int64))) + (1 : Int64)) + (((p3.toUInt64 >>> ((24 : Int32) &&& 0x3f).toInt64.toUInt64).toInt64) &&& (15 : Int64))) + (1 : Int64)) + (((p3.toUInt64 >>> ((28 : Int32) &&& 0x3f).toInt64.toUInt64).toInt64) &&& (15 : Int64)))).toInt ≤ 9223372036854767615 + 128 := own_s8 hB ⟨_, own_nib _, rfl⟩ ⟨_, own_nib _, rfl⟩ ⟨_, own_nib _, rfl⟩ ⟨_, own_nib _, rfl⟩ ⟨_, own_nib _, rfl⟩ ⟨_, own_nib _, rfl⟩ ⟨_, own_nib _, rfl⟩ ⟨_, own_nib _, rfl⟩
    exact S247 _ _ _ _ X117 (Nat.le_trans (Nat.add_le_add_right hcl 1) (by decide)) (Nat.le_trans (Nat.add_le_add_right hsl 9) (by decide)) h117 e117 N117 x8 x10 (((((((((((((((((x10 + (1 : Int64)) + (p3 &&& (15 : Int64))) + (1 : Int64)) + (((p3.toUInt64 >>> ((4 : Int32) &&& 0x3f).toInt64.toUInt64).toInt64) &&& (15 : Int64))) + (1 : Int64)) + (((p3.toUInt64 >>> ((8 : Int32) &&& 0x3f).toInt64.toUInt64).toInt64) &&& (15 : Int64))) + (1 : Int64)) + (((p3.toUInt64 >>> ((12 : Int32) &&& 0x3f).toInt64.toUInt64).toInt64) &&& (15 : Int64))) + (1 : Int64)) + (((p3.toUInt64 >>> ((16 : Int32) &&& 0x3f).toInt64.toUInt64).toInt64) &&& (15 : Int64))) + (1 : Int64)) + (((p3.toUInt64 >>> ((20 : Int32) &&& 0x3f).toInt64.toUInt64).toInt64) &&& (15 : Int64))) + (1 : Int64)) + (((p3.toUInt64 >>> ((24 : Int32) &&& 0x3f).toInt64.toUInt64).toInt64) &&& (15 : Int64))) + (1 : Int64)) + (((p3.toUInt64 >>> ((28 : Int32) &&& 0x3f).toInt64.toUInt64).toInt64) &&& (15 : Int64))) + (((p3.toUInt64 >>> ((32 : Int32) &&& 0x3f).toInt64.toUInt64).toInt64) &&& (255 : Int64))) ((((p3.toUInt64 >>> ((40 : Int32) &&& 0x3f).toInt64.toUInt64).toInt64) &&& (15 : Int64)).toInt32) ((((p3.toUInt64 >>> ((44 : Int32) &&& 0x3f).toInt64.toUInt64).toInt64) &&& (15 : Int64)).toInt32) b82 [x10, ((x10 + (1 : Int64)) + (p3 &&& (15 : Int64))), ((((x10 + (1 : Int64)) + (p3 &&& (15 : Int64))) + (1 : Int64)) + (((p3.toUInt64 >>> ((4 : Int32) &&& 0x3f).toInt64.toUInt64).toInt64) &&& (15 : Int64))), ((((((x10 + (1 : Int64)) + (p3 &&& (15 : Int64))) + (1 : Int64)) + (((p3.toUInt64 >>> ((4 : Int32) &&& 0x3f).toInt64.toUInt64).toInt64) &&& (15 : Int64))) + (1 : Int64)) + (((p3.toUInt64 >>> ((8 : Int32) &&& 0x3f).toInt64.toUInt64).toInt64) &&& (15 : Int64))), ((((((((x10 + (1 : Int64)) + (p3 &&& (15 : Int64))) + (1 : Int64)) + (((p3.toUInt64 >>> ((4 : Int32) &&& 0x3f).toInt64.toUInt64).toInt64) &&& (15 : Int64))) + (1 : Int64)) + (((p3.toUInt64 >>> ((8 : Int32) &&& 0x3f).toInt64.toUInt64).toInt64) &&& (15 : Int64))) + (1 : Int64)) + (((p3.toUInt64 >>> ((12 : Int32) &&& 0x3f).toInt64.toUInt64).toInt64) &&& (15 : Int64))), ((((((((((x10 + (1 : Int64)) + (p3 &&& (15 : Int64))) + (1 : Int64)) + (((p3.toUInt64 >>> ((4 : Int32) &&& 0x3f).toInt64.toUInt64).toInt64) &&& (15 : Int64))) + (1 : Int64)) + (((p3.toUInt64 >>> ((8 : Int32) &&& 0x3f).toInt64.toUInt64).toInt64) &&& (15 : Int64))) + (1 : Int64)) + (((p3.toUInt64 >>> ((12 : Int32) &&& 0x3f).toInt64.toUInt64).toInt64) &&& (15 : Int64))) + (1 : Int64)) + (((p3.toUInt64 >>> ((16 : Int32) &&& 0x3f).toInt64.toUInt64).toInt64) &&& (15 : Int64))), ((((((((((((x10 + (1 : Int64)) + (p3 &&& (15 : Int64))) + (1 : Int64)) + (((p3.toUInt64 >>> ((4 : Int32) &&& 0x3f).toInt64.toUInt64).toInt64) &&& (15 : Int64))) + (1 : Int64)) + (((p3.toUInt64 >>> ((8 : Int32) &&& 0x3f).toInt64.toUInt64).toInt64) &&& (15 : Int64))) + (1 : Int64)) + (((p3.toUInt64 >>> ((12 : Int32) &&& 0x3f).toInt64.toUInt64).toInt64) &&& (15 : Int64))) + (1 : Int64)) + (((p3.toUInt64 >>> ((16 : Int32) &&& 0x3f).toInt64.toUInt64).toInt64) &&& (15 : Int64))) + (1 : Int64)) + (((p3.toUInt64 >>> ((20 : Int32) &&& 0x3f).toInt64.toUInt64).toInt64) &&& (15 : Int64))), ((((((((((((((x10 + (1 : Int64)) + (p3 &&& (15 : Int64))) + (1 : Int64)) + (((p3.toUInt64 >>> ((4 : Int32) &&& 0x3f).toInt64.toUInt64).toInt64) &&& (15 : Int64))) + (1 : Int64)) + (((p3.toUInt64 >>> ((8 : Int32) &&& 0x3f).toInt64.toUInt64).toInt64) &&& (15 : Int64))) + (1 : Int64)) + (((p3.toUInt64 >>> ((12 : Int32) &&& 0x3f).toInt64.toUInt64).toInt64) &&& (15 : Int64))) + (1 : Int64)) + (((p3.toUInt64 >>> ((16 : Int32) &&& 0x3f).toInt64.toUInt64).toInt64) &&& (15 : Int64))) + (1 : Int64)) + (((p3.toUInt64 >>> ((20 : Int32) &&& 0x3f).toInt64.toUInt64).toInt64) &&& (15 : Int64))) + (1 : Int64)) + (((p3.toUInt64 >>> ((24 : Int32) &&& 0x3f).toInt64.toUInt64).toInt64) &&& (15 : Int64))), ((((((((((((((((x10 + (1 : Int64)) + (p3 &&& (15 : Int64))) + (1 : Int64)) + (((p3.toUInt64 >>> ((4 : Int32) &&& 0x3f).toInt64.toUInt64).toInt64) &&& (15 : Int64))) + (1 : Int64)) + (((p3.toUInt64 >>> ((8 : Int32) &&& 0x3f).toInt64.toUInt64).toInt64) &&& (15 : Int64))) + (1 : Int64)) + (((p3.toUInt64 >>> ((12 : Int32) &&& 0x3f).toInt64.toUInt64).toInt64) &&& (15 : Int64))) + (1 : Int64)) + (((p3.toUInt64 >>> ((16 : Int32) &&& 0x3f).toInt64.toUInt64).toInt64) &&& (15 : Int64))) + (1 : Int64)) + (((p3.toUInt64 >>> ((20 : Int32) &&& 0x3f).toInt64.toUInt64).toInt64) &&& (15 : Int64))) + (1 : Int64)) + (((p3.toUInt64 >>> ((24 : Int32) &&& 0x3f).toInt64.toUInt64).toInt64) &&& (15 : Int64))) + (1 : Int64)) + (((p3.toUInt64 >>> ((28 : Int32) &&& 0x3f).toInt64.toUInt64).toInt64) &&& (15 : Int64)))] K117 G118 g_b82 sz_b82 hz.1 (own_nw hz.2 (own_byt _)) (own_l2n _) (own_l2n _)
  have S22 : ∀ (T : State) (locs : List Loc) (cells slots : Nat) (X : Stand p l e room_1 s m #[(.long p1), (.long p2), (.long p3), (.long p4)] below meth c T locs cells slots) (hcl : cells ≤ 0) (hsl : slots ≤ 0) (h : Heap) (eT : T.heap = h) (N : Fr n0 locs) (t0 : Int64)  (K : Keep h0 h []), Go p e below s (Q0 Z p1 p2 p3 p4 h0 n0) 24 192 T (mkF m 22 #[.val (.long p1), .second, .val (.long p2), .second, .val (.long p3), .second, .val (.long p4), .second, .unset, .unset, .unset, .unset, .unset, .unset, .unset, .unset, .unset, .unset, .unset, .unset, .unset, .unset, .unset, .unset] [(.long t0)]) := by
    intro T locs cells slots X hcl hsl h eT N t0 K
    have Zh : n0 ≤ h.size := Nat.le_trans Z0 K.1
    obtain ⟨_, _, ⟨T120, L120, k120, n120⟩, -, X120, ⟨Lc120, hQ120, l120, y120, z120⟩, st120⟩ := Jvm.LawKit.callS X hx (y := (⟨"java/lang/Math", "min", "(JJ)J"⟩ : MethodName)) hown (mvT hZ (hw _ (List.mem_of_getElem? (i := 2) rfl))) (mvT hZ (hw _ (List.mem_of_getElem? (i := 3) rfl))) (mvT hZ (hw _ (List.mem_of_getElem? (i := 4) rfl))) (mvT hZ (hw _ (List.mem_of_getElem? (i := 5) rfl))) (by decide) (backOf (W := 0) (rm_minF l Z a0 hw [] p2 (9223372036854767615 : Int64)  h n0 Zh ) hZ (hw _ (List.mem_of_getElem? (i := 5) rfl)) (hw _ (List.mem_of_getElem? (i := 4) rfl)) (by decide) (by decide)) (g := (mkF m 28 #[.val (.long p1), .second, .val (.long p2), .second, .val (.long p3), .second, .val (.long p4), .second, .val (.long t0), .second, .unset, .unset, .unset, .unset, .unset, .unset, .unset, .unset, .unset, .unset, .unset, .unset, .unset, .unset] [(.long (9223372036854767615 : Int64)), (.long p2)])) rfl (by rw [hml]; rfl) (argsL := [(.long p2), (.long (9223372036854767615 : Int64))]) (rest := []) (lenOf pd_4 rfl) rfl (by show 2 * 0 + _ ≤ _; exact Nat.le_of_eq rfl) (hb hby at_28) (fun _ _ => ⟨rfl, eT, (Nat.le_trans (Nat.add_le_add_right hcl 0) (by decide)), (Nat.le_trans (Nat.add_le_add_right hsl 0) (by decide))⟩)
    dsimp only [Pt.U, Pt.locs, Pt.cells, Pt.slots] at X120 l120 y120 z120 st120 hQ120
    subst l120 y120 z120
    obtain ⟨rfl, N120q, e120⟩ := hQ120
    have N120 := Fr.app N N120q
    refine Go.step (T' := T120) (f' := (mkF m 33 #[.val (.long p1), .second, .val (.long p2), .second, .val (.long p3), .second, .val (.long p4), .second, .val (.long t0), .second, .val (.long (minF p2 (9223372036854767615 : Int64))), .second, .unset, .unset, .unset, .unset, .unset, .unset, .unset, .unset, .unset, .unset, .unset, .unset] [])) (fun t kt => ?_) ?_
    · show Steps p.tables e below (T.setTop (mkF m 22 #[.val (.long p1), .second, .val (.long p2), .second, .val (.long p3), .second, .val (.long p4), .second, .unset, .unset, .unset, .unset, .unset, .unset, .unset, .unset, .unset, .unset, .unset, .unset, .unset, .unset, .unset, .unset] [(.long t0)])) _
      refine XS.lstore X.here hx rfl (hb hby at_22) rfl (l' := #[.val (.long p1), .second, .val (.long p2), .second, .val (.long p3), .second, .val (.long p4), .second, .val (.long t0), .second, .unset, .unset, .unset, .unset, .unset, .unset, .unset, .unset, .unset, .unset, .unset, .unset, .unset, .unset]) rfl ?_
      show Steps p.tables e below (T.setTop (mkF m 24 #[.val (.long p1), .second, .val (.long p2), .second, .val (.long p3), .second, .val (.long p4), .second, .val (.long t0), .second, .unset, .unset, .unset, .unset, .unset, .unset, .unset, .unset, .unset, .unset, .unset, .unset, .unset, .unset] [])) _
      refine XS.lloadN X.here hx rfl (hb hby at_24) rfl ?_
      show Steps p.tables e below (T.setTop (mkF m 25 #[.val (.long p1), .second, .val (.long p2), .second, .val (.long p3), .second, .val (.long p4), .second, .val (.long t0), .second, .unset, .unset, .unset, .unset, .unset, .unset, .unset, .unset, .unset, .unset, .unset, .unset, .unset, .unset] [(.long p2)])) _
      refine X.ldc2Long hx hown (mvT hZ (hw _ (List.mem_of_getElem? (i := 1) rfl))) (g := (mkF m 25 #[.val (.long p1), .second, .val (.long p2), .second, .val (.long p3), .second, .val (.long p4), .second, .val (.long t0), .second, .unset, .unset, .unset, .unset, .unset, .unset, .unset, .unset, .unset, .unset, .unset, .unset, .unset, .unset] [(.long p2)])) rfl (hb hby at_25) _ ?_
      show Steps p.tables e below (T.setTop (mkF m 28 #[.val (.long p1), .second, .val (.long p2), .second, .val (.long p3), .second, .val (.long p4), .second, .val (.long t0), .second, .unset, .unset, .unset, .unset, .unset, .unset, .unset, .unset, .unset, .unset, .unset, .unset, .unset, .unset] [(.long (9223372036854767615 : Int64)), (.long p2)])) _
      refine st120 _ ?_
      show Steps p.tables e below (T120.setTop (mkF m 31 #[.val (.long p1), .second, .val (.long p2), .second, .val (.long p3), .second, .val (.long p4), .second, .val (.long t0), .second, .unset, .unset, .unset, .unset, .unset, .unset, .unset, .unset, .unset, .unset, .unset, .unset, .unset, .unset] [(.long (minF p2 (9223372036854767615 : Int64)))])) _
      refine XS.lstore X120.here hx rfl (hb hby at_31) rfl (l' := #[.val (.long p1), .second, .val (.long p2), .second, .val (.long p3), .second, .val (.long p4), .second, .val (.long t0), .second, .val (.long (minF p2 (9223372036854767615 : Int64))), .second, .unset, .unset, .unset, .unset, .unset, .unset, .unset, .unset, .unset, .unset, .unset, .unset]) rfl ?_
      exact kt
    exact S33 _ _ _ _ X120 (Nat.le_trans (Nat.add_le_add_right hcl 0) (by decide)) (Nat.le_trans (Nat.add_le_add_right hsl 0) (by decide)) h e120 N120 t0 (minF p2 (9223372036854767615 : Int64)) K (own_min p2)
  refine Go.step (T' := s₁) (f' := (mkF m 10 #[.val (.long p1), .second, .val (.long p2), .second, .val (.long p3), .second, .val (.long p4), .second, .unset, .unset, .unset, .unset, .unset, .unset, .unset, .unset, .unset, .unset, .unset, .unset, .unset, .unset, .unset, .unset] [(.int (lcmpW (((p1.toUInt64 >>> ((8 : Int32) &&& 0x3f).toInt64.toUInt64).toInt64) &&& (3 : Int64)) (0 : Int64)))])) (fun t kt => ?_) ?_
  · show Steps p.tables e below (s₁.setTop (mkF m 0 #[.val (.long p1), .second, .val (.long p2), .second, .val (.long p3), .second, .val (.long p4), .second, .unset, .unset, .unset, .unset, .unset, .unset, .unset, .unset, .unset, .unset, .unset, .unset, .unset, .unset, .unset, .unset] [])) _
    refine XS.lloadN X0.here hx rfl (hb hby at_0) rfl ?_
    show Steps p.tables e below (s₁.setTop (mkF m 1 #[.val (.long p1), .second, .val (.long p2), .second, .val (.long p3), .second, .val (.long p4), .second, .unset, .unset, .unset, .unset, .unset, .unset, .unset, .unset, .unset, .unset, .unset, .unset, .unset, .unset, .unset, .unset] [(.long p1)])) _
    refine XS.bipush X0.here hx rfl (hb hby at_1) ?_
    show Steps p.tables e below (s₁.setTop (mkF m 3 #[.val (.long p1), .second, .val (.long p2), .second, .val (.long p3), .second, .val (.long p4), .second, .unset, .unset, .unset, .unset, .unset, .unset, .unset, .unset, .unset, .unset, .unset, .unset, .unset, .unset, .unset, .unset] [(.int (8 : Int32)), (.long p1)])) _
    refine XS.lushr X0.here hx rfl (hb hby at_3) rfl ?_
    show Steps p.tables e below (s₁.setTop (mkF m 4 #[.val (.long p1), .second, .val (.long p2), .second, .val (.long p3), .second, .val (.long p4), .second, .unset, .unset, .unset, .unset, .unset, .unset, .unset, .unset, .unset, .unset, .unset, .unset, .unset, .unset, .unset, .unset] [(.long ((p1.toUInt64 >>> ((8 : Int32) &&& 0x3f).toInt64.toUInt64).toInt64))])) _
    refine X0.ldc2Long hx hown (mvT hZ (hw _ (List.mem_of_getElem? (i := 0) rfl))) (g := (mkF m 4 #[.val (.long p1), .second, .val (.long p2), .second, .val (.long p3), .second, .val (.long p4), .second, .unset, .unset, .unset, .unset, .unset, .unset, .unset, .unset, .unset, .unset, .unset, .unset, .unset, .unset, .unset, .unset] [(.long ((p1.toUInt64 >>> ((8 : Int32) &&& 0x3f).toInt64.toUInt64).toInt64))])) rfl (hb hby at_4) _ ?_
    show Steps p.tables e below (s₁.setTop (mkF m 7 #[.val (.long p1), .second, .val (.long p2), .second, .val (.long p3), .second, .val (.long p4), .second, .unset, .unset, .unset, .unset, .unset, .unset, .unset, .unset, .unset, .unset, .unset, .unset, .unset, .unset, .unset, .unset] [(.long (3 : Int64)), (.long ((p1.toUInt64 >>> ((8 : Int32) &&& 0x3f).toInt64.toUInt64).toInt64))])) _
    refine XS.land X0.here hx rfl (hb hby at_7) rfl ?_
    show Steps p.tables e below (s₁.setTop (mkF m 8 #[.val (.long p1), .second, .val (.long p2), .second, .val (.long p3), .second, .val (.long p4), .second, .unset, .unset, .unset, .unset, .unset, .unset, .unset, .unset, .unset, .unset, .unset, .unset, .unset, .unset, .unset, .unset] [(.long (((p1.toUInt64 >>> ((8 : Int32) &&& 0x3f).toInt64.toUInt64).toInt64) &&& (3 : Int64)))])) _
    refine XS.lconst X0.here hx rfl (hb hby at_8) ?_
    show Steps p.tables e below (s₁.setTop (mkF m 9 #[.val (.long p1), .second, .val (.long p2), .second, .val (.long p3), .second, .val (.long p4), .second, .unset, .unset, .unset, .unset, .unset, .unset, .unset, .unset, .unset, .unset, .unset, .unset, .unset, .unset, .unset, .unset] [(.long (0 : Int64)), (.long (((p1.toUInt64 >>> ((8 : Int32) &&& 0x3f).toInt64.toUInt64).toInt64) &&& (3 : Int64)))])) _
    refine XS.lcmp X0.here hx rfl (hb hby at_9) rfl ?_
    exact kt
  by_cases hc121 : (((p1.toUInt64 >>> ((8 : Int32) &&& 0x3f).toInt64.toUInt64).toInt64) &&& (3 : Int64)) = (0 : Int64)
  · have _ := hc121
    refine Go.step (T' := s₁) (f' := (mkF m 13 #[.val (.long p1), .second, .val (.long p2), .second, .val (.long p3), .second, .val (.long p4), .second, .unset, .unset, .unset, .unset, .unset, .unset, .unset, .unset, .unset, .unset, .unset, .unset, .unset, .unset, .unset, .unset] [])) (fun t kt => ?_) ?_
    · show Steps p.tables e below (s₁.setTop (mkF m 10 #[.val (.long p1), .second, .val (.long p2), .second, .val (.long p3), .second, .val (.long p4), .second, .unset, .unset, .unset, .unset, .unset, .unset, .unset, .unset, .unset, .unset, .unset, .unset, .unset, .unset, .unset, .unset] [(.int (lcmpW (((p1.toUInt64 >>> ((8 : Int32) &&& 0x3f).toInt64.toUInt64).toInt64) &&& (3 : Int64)) (0 : Int64)))])) _
      refine XS.ifNo X0.here hx rfl (hb hby at_10) rfl ((if0 _ _).trans (teq ((lw_eq _ _).mpr hc121)).2) ?_
      exact kt
    refine Go.step (T' := s₁) (f' := (mkF m 22 #[.val (.long p1), .second, .val (.long p2), .second, .val (.long p3), .second, .val (.long p4), .second, .unset, .unset, .unset, .unset, .unset, .unset, .unset, .unset, .unset, .unset, .unset, .unset, .unset, .unset, .unset, .unset] [(.long p1)])) (fun t kt => ?_) ?_
    · show Steps p.tables e below (s₁.setTop (mkF m 13 #[.val (.long p1), .second, .val (.long p2), .second, .val (.long p3), .second, .val (.long p4), .second, .unset, .unset, .unset, .unset, .unset, .unset, .unset, .unset, .unset, .unset, .unset, .unset, .unset, .unset, .unset, .unset] [])) _
      refine XS.lloadN X0.here hx rfl (hb hby at_13) rfl ?_
      show Steps p.tables e below (s₁.setTop (mkF m 14 #[.val (.long p1), .second, .val (.long p2), .second, .val (.long p3), .second, .val (.long p4), .second, .unset, .unset, .unset, .unset, .unset, .unset, .unset, .unset, .unset, .unset, .unset, .unset, .unset, .unset, .unset, .unset] [(.long p1)])) _
      refine XS.goto X0.here hx rfl (pc0 := 14) (pc' := 22) rfl (hb hby at_14) (by decide) (by decide) ?_
      exact kt
    exact S22 _ _ _ _ X0 (Nat.le_trans (Nat.le_refl 0) (by decide)) (Nat.le_trans (Nat.le_refl 0) (by decide)) h0 e0 N0 p1 (Keep.refl h0 [])
  · have _ := hc121
    refine Go.step (T' := s₁) (f' := (mkF m 17 #[.val (.long p1), .second, .val (.long p2), .second, .val (.long p3), .second, .val (.long p4), .second, .unset, .unset, .unset, .unset, .unset, .unset, .unset, .unset, .unset, .unset, .unset, .unset, .unset, .unset, .unset, .unset] [])) (fun t kt => ?_) ?_
    · show Steps p.tables e below (s₁.setTop (mkF m 10 #[.val (.long p1), .second, .val (.long p2), .second, .val (.long p3), .second, .val (.long p4), .second, .unset, .unset, .unset, .unset, .unset, .unset, .unset, .unset, .unset, .unset, .unset, .unset, .unset, .unset, .unset, .unset] [(.int (lcmpW (((p1.toUInt64 >>> ((8 : Int32) &&& 0x3f).toInt64.toUInt64).toInt64) &&& (3 : Int64)) (0 : Int64)))])) _
      refine XS.ifYes X0.here hx rfl (pc0 := 10) (pc' := 17) rfl (hb hby at_10) rfl ((if0 _ _).trans (feq (fun q => hc121 ((lw_eq _ _).mp q))).2) (by decide) (by decide) ?_
      exact kt
    refine Go.step (T' := s₁) (f' := (mkF m 22 #[.val (.long p1), .second, .val (.long p2), .second, .val (.long p3), .second, .val (.long p4), .second, .unset, .unset, .unset, .unset, .unset, .unset, .unset, .unset, .unset, .unset, .unset, .unset, .unset, .unset, .unset, .unset] [(.long (p1 &&& (255 : Int64)))])) (fun t kt => ?_) ?_
    · show Steps p.tables e below (s₁.setTop (mkF m 17 #[.val (.long p1), .second, .val (.long p2), .second, .val (.long p3), .second, .val (.long p4), .second, .unset, .unset, .unset, .unset, .unset, .unset, .unset, .unset, .unset, .unset, .unset, .unset, .unset, .unset, .unset, .unset] [])) _
      refine XS.lloadN X0.here hx rfl (hb hby at_17) rfl ?_
      show Steps p.tables e below (s₁.setTop (mkF m 18 #[.val (.long p1), .second, .val (.long p2), .second, .val (.long p3), .second, .val (.long p4), .second, .unset, .unset, .unset, .unset, .unset, .unset, .unset, .unset, .unset, .unset, .unset, .unset, .unset, .unset, .unset, .unset] [(.long p1)])) _
      refine X0.ldc2Long hx hown (mvT hZ (hw _ (List.mem_of_getElem? (i := 8) rfl))) (g := (mkF m 18 #[.val (.long p1), .second, .val (.long p2), .second, .val (.long p3), .second, .val (.long p4), .second, .unset, .unset, .unset, .unset, .unset, .unset, .unset, .unset, .unset, .unset, .unset, .unset, .unset, .unset, .unset, .unset] [(.long p1)])) rfl (hb hby at_18) _ ?_
      show Steps p.tables e below (s₁.setTop (mkF m 21 #[.val (.long p1), .second, .val (.long p2), .second, .val (.long p3), .second, .val (.long p4), .second, .unset, .unset, .unset, .unset, .unset, .unset, .unset, .unset, .unset, .unset, .unset, .unset, .unset, .unset, .unset, .unset] [(.long (255 : Int64)), (.long p1)])) _
      refine XS.land X0.here hx rfl (hb hby at_21) rfl ?_
      exact kt
    exact S22 _ _ _ _ X0 (Nat.le_trans (Nat.le_refl 0) (by decide)) (Nat.le_trans (Nat.le_refl 0) (by decide)) h0 e0 N0 (p1 &&& (255 : Int64)) (Keep.refl h0 [])
set_option maxRecDepth 65536 in
set_option maxHeartbeats 40000000 in
theorem comes_1 {Post : Tables → Env → Array Value → State → Outcome → State → Prop} (hpost : ∀ tb e args s v u, (limb_1_1.after args s (.returned v) u = true ∧ limb_1_2.after args s (.returned v) u = true ∧ True) → FrameEnd s (.returned v) u (Jvm.fieldLocs frame_1_writes args s ++ Jvm.arrayLocs frame_1_arrays args s ++ Jvm.staticLocs frame_1_statics s) 24 192 → Post tb e args s (.returned v) u) :
    ArmFor flags0 classFile x code maxLocals ret World_1 tables_1 room_1 Calls_1 rest_1 Pre_1 Post := by
  intro l hfl _ _ p e ha hc hk s m args below hf hA hF happ hP
  obtain ⟨hcalls, hrest, hpre⟩ := hP
  obtain ⟨-, -, -, hnamed, -, -, -, hat⟩ := (Spec.applies_iff hf).mp happ
  obtain ⟨hg, hn⟩ := and_e (Cond.before_iff.mp (show (Jvm.Cond.and given_1 narrow_1).before args s = true from hpre))
  obtain ⟨g1, g2⟩ := and_e hg
  obtain ⟨g3, g4⟩ := and_e g2
  obtain ⟨g5, g6⟩ := and_e g4
  obtain ⟨g7, g8⟩ := and_e g6
  obtain ⟨w0, w1, w2, w3, rfl⟩ : ∃ w0 w1 w2 w3 : Value, args = #[w0, w1, w2, w3] := by
    have hs : args.size = 4 := by simpa [Cond.value, given_1] using g1
    obtain ⟨L⟩ := args
    match L, hs with
    | [w0, w1, w2, w3], _ => exact ⟨w0, w1, w2, w3, rfl⟩
  have hw := fun d (hd : d ∈ tables_1) => atoms_spec (ws := Jvm.Cond.code x code maxLocals ret :: tables_1) hat d (List.mem_cons_of_mem _ hd)
  obtain ⟨i0, ei0⟩ := isL_v g3
  obtain rfl : w0 = (.long i0) := Option.some.inj ei0
  obtain ⟨i1, ei1⟩ := isL_v g5
  obtain rfl : w1 = (.long i1) := Option.some.inj ei1
  obtain ⟨i2, ei2⟩ := isL_v g7
  obtain rfl : w2 = (.long i2) := Option.some.inj ei2
  obtain ⟨i3, ei3⟩ := isL_v g8
  obtain rfl : w3 = (.long i3) := Option.some.inj ei3
  obtain ⟨n, o, h1, h2, h3, _, L, rfl, ⟨hv, N⟩, hq⟩ := rm_0 l s _ hw tables_1 i0 i1 i2 i3  s.heap s.heap.size (Nat.le_refl _)  p e ha hc hk s m _ below hf ((Spec.applies_iff_loose hf).mp happ).1 ⟨rfl, State.Warmed39.refl s, rfl⟩ trivial
  subst hv
  refine ⟨n, _, h1, h2, h3, hpost _ _ _ _ _ _ ⟨Cond.after_iff.mpr rfl, Cond.after_iff.mpr (eq_i res_at (Term.int_eval (1)) rfl), trivial⟩ ⟨hq.1, hq.2.1, (hq.2.2.sift fun y hy => Or.inr (N y hy)).mono (by decide) (by decide)⟩⟩
theorem main_1_1 : Claimed_1_1 := comes_1 fun _ _ _ _ _ _ h hF => ⟨h.1, hF⟩
theorem main_1_2 : Claimed_1_2 := comes_1 fun _ _ _ _ _ _ h hF => ⟨h.2.1, hF⟩
end Jvm.Pilot.@@N@@
namespace Jvm.Pilot.@@N@@
open Jvm Jvm.ClassFile Sem Op Lib Jvm.Free Jvm.Stand Jvm.Pilot.@@N@@.Jvm.D
/-! MADE BY PROGRAM (witnessworld.py) out of the Statement's table words and the real class files: 14 classes; the members and pool entries that the words name. The judged class is class 1, her method 2. -/
namespace start1
open Jvm.ClassFile
def u (s : String) : CpInfo := .utf8 (stringToUtf16 s)
/-- a pool by its gaps: so many unusable entries, then the entry; so many at the end -/
def gap : Nat → List CpInfo → List CpInfo
  | 0, r => r
  | n + 1, r => .unusable :: gap n r
def poolList (es : List (Nat × CpInfo)) (last : Nat) : List CpInfo := es.foldr (fun e r => gap e.1 (e.2 :: r)) (gap last [])
def pool (es : List (Nat × CpInfo)) (last : Nat) : Array CpInfo := ⟨poolList es last⟩
def fileOf (pool : Array CpInfo) (this : Nat) (attrs : Array Attribute := #[]) (ms : Array MethodInfo := #[]) (fl : Nat := 33) (sup : Nat := 0) (ifs : Array Nat := #[]) (fds : Array FieldInfo := #[]) : ClassFile where
  minorVersion := 0
  majorVersion := 65
  constantPool := pool
  accessFlags := fl
  thisClass := this
  superClass := sup
  interfaces := ifs
  fields := fds
  methods := ms
  attributes := attrs
def plain (name : String) (sup : Option ClassId) : Class where
  name := name
  kind := .ordinary
  loader := none
  accessFlags := 33
  super := sup
  interfaces := #[]
  cf := none
  fields := #[]
  methods := #[]
  instanceTypes := #[]
  staticTypes := #[]
  resolved := #[]
  callSites := []
  init := .initialized
  statics := none
  mirror := none

def pool0 : Array CpInfo := pool [(5, u "<init>"), (0, u "()V"), (1, .class_ 10), (1, u "java/lang/Object")] 113

def k0c0 : Code := { maxStack := 0, maxLocals := 1, code := object_method_1_code, exceptionTable := #[], attributes := #[] }
def k0m0 : Method := { name := "<init>", desc := "()V", sig := { parameters := [], returnType := none }, accessFlags := 1, code := some k0c0 }
/-- java/lang/Object -/
def k0 : Class := { plain "java/lang/Object" none with
  accessFlags := 33
  interfaces := #[]
  cf := some (fileOf pool0 8 #[] #[{ accessFlags := 1, nameIndex := 5, descriptorIndex := 6, attributes := #[] }] 33 0 #[] #[])
  fields := #[]
  methods := #[k0m0]
  instanceTypes := #[]
  staticTypes := #[]
  resolved := Array.replicate 124 none
  statics := none }

def pool1 : Array CpInfo := pool [(2, .class_ 4), (1, u "java/lang/Object"), (0, u "<init>"), (0, u "()V"), (0, .long 3), (1, .long 255), (3, .long 9223372036854767615), (1, .methodref 16 17), (0, .class_ 18), (0, .nameAndType 19 20), (0, u "java/lang/Math"), (0, u "min"), (0, u "(JJ)J"), (0, .long 15), (1, .class_ 24), (0, u "com/example/talthybius/talthybius/AwaitedPings"), (0, .methodref 23 26), (0, .nameAndType 5 27), (0, u "(J)V"), (0, .methodref 23 29), (0, .nameAndType 30 27), (0, u "sent"), (0, .methodref 23 32), (0, .nameAndType 33 34), (0, u "answer"), (0, u "(JJ)Z"), (0, .methodref 36 37), (0, .class_ 38), (0, .nameAndType 39 40), (0, u "com/example/talthybius/talthybius/AwaitedPingsAnswerPinLaw"), (0, u "indexOf"), (0, u "([JJ)I"), (3, u "law"), (0, u "(JJJJ)Z")] 4

def k1m0 : Method := { name := "<init>", desc := "()V", sig := { parameters := [], returnType := none }, accessFlags := 1, code := none }
def k1c1 : Code := { maxStack := 4, maxLocals := 3, code := method_2_code, exceptionTable := #[], attributes := #[] }
def k1m1 : Method := { name := "indexOf", desc := "([JJ)I", sig := { parameters := [(.array .long), .long], returnType := some .int }, accessFlags := 10, code := some k1c1 }
def k1c2 : Code := { maxStack := 8, maxLocals := 24, code := code, exceptionTable := #[], attributes := #[] }
def k1m2 : Method := { name := "law", desc := "(JJJJ)Z", sig := { parameters := [.long, .long, .long, .long], returnType := some .boolean }, accessFlags := 9, code := some k1c2 }
/-- com/example/talthybius/talthybius/AwaitedPingsAnswerPinLaw -/
def k1 : Class := { plain "com/example/talthybius/talthybius/AwaitedPingsAnswerPinLaw" (some 0) with
  accessFlags := 49
  interfaces := #[]
  cf := some (fileOf pool1 36 #[] #[{ accessFlags := 1, nameIndex := 5, descriptorIndex := 6, attributes := #[] }, { accessFlags := 10, nameIndex := 39, descriptorIndex := 40, attributes := #[] }, { accessFlags := 9, nameIndex := 44, descriptorIndex := 45, attributes := #[] }] 49 2 #[] #[])
  fields := #[]
  methods := #[k1m0, k1m1, k1m2]
  instanceTypes := #[]
  staticTypes := #[]
  resolved := Array.replicate 50 none
  statics := none }

def pool2 : Array CpInfo := pool [(1, .class_ 2), (0, u "java/lang/Math"), (1, .class_ 6), (1, u "java/lang/Object"), (0, u "<init>"), (0, u "()V"), (89, .class_ 100), (1, u "java/lang/Math$RandomNumberGeneratorHolder"), (20, u "(JJ)J"), (50, u "negativeZeroFloatBits"), (0, u "J"), (2, u "negativeZeroDoubleBits"), (24, u "min"), (43, u "$assertionsDisabled"), (0, u "Z"), (91, u "twoToTheDoubleScaleDown"), (0, u "D"), (4, u "twoToTheDoubleScaleUp"), (9, u "E"), (3, u "PI"), (2, u "TAU"), (2, u "DEGREES_TO_RADIANS"), (0, u "RADIANS_TO_DEGREES")] 94

def k2m0 : Method := { name := "<init>", desc := "()V", sig := { parameters := [], returnType := none }, accessFlags := 2, code := none }
def k2c1 : Code := { maxStack := 4, maxLocals := 4, code := jdk_29_method_70_code, exceptionTable := #[], attributes := #[] }
def k2m1 : Method := { name := "min", desc := "(JJ)J", sig := { parameters := [.long, .long], returnType := some .long }, accessFlags := 9, code := some k2c1 }
/-- java/lang/Math -/
def k2 : Class := { plain "java/lang/Math" (some 0) with
  accessFlags := 49
  interfaces := #[]
  cf := some (fileOf pool2 1 #[.nestMembers #[98]] #[{ accessFlags := 2, nameIndex := 7, descriptorIndex := 8, attributes := #[] }, { accessFlags := 9, nameIndex := 201, descriptorIndex := 121, attributes := #[] }] 49 4 #[] #[{ accessFlags := 25, nameIndex := 354, descriptorIndex := 339, attributes := #[] }, { accessFlags := 25, nameIndex := 358, descriptorIndex := 339, attributes := #[] }, { accessFlags := 25, nameIndex := 361, descriptorIndex := 339, attributes := #[] }, { accessFlags := 26, nameIndex := 364, descriptorIndex := 339, attributes := #[] }, { accessFlags := 26, nameIndex := 365, descriptorIndex := 339, attributes := #[] }, { accessFlags := 26, nameIndex := 172, descriptorIndex := 173, attributes := #[] }, { accessFlags := 26, nameIndex := 176, descriptorIndex := 173, attributes := #[] }, { accessFlags := 8, nameIndex := 344, descriptorIndex := 339, attributes := #[] }, { accessFlags := 8, nameIndex := 338, descriptorIndex := 339, attributes := #[] }, { accessFlags := 4120, nameIndex := 245, descriptorIndex := 246, attributes := #[] }])
  fields := #[{ name := "E", type := .double, accessFlags := 25, slot := 0, constantValue := 0 }, { name := "PI", type := .double, accessFlags := 25, slot := 1, constantValue := 0 }, { name := "TAU", type := .double, accessFlags := 25, slot := 2, constantValue := 0 }, { name := "DEGREES_TO_RADIANS", type := .double, accessFlags := 26, slot := 3, constantValue := 0 }, { name := "RADIANS_TO_DEGREES", type := .double, accessFlags := 26, slot := 4, constantValue := 0 }, { name := "negativeZeroFloatBits", type := .long, accessFlags := 26, slot := 5, constantValue := 0 }, { name := "negativeZeroDoubleBits", type := .long, accessFlags := 26, slot := 6, constantValue := 0 }, { name := "twoToTheDoubleScaleUp", type := .double, accessFlags := 8, slot := 7, constantValue := 0 }, { name := "twoToTheDoubleScaleDown", type := .double, accessFlags := 8, slot := 8, constantValue := 0 }, { name := "$assertionsDisabled", type := .boolean, accessFlags := 4120, slot := 9, constantValue := 0 }]
  methods := #[k2m0, k2m1]
  instanceTypes := #[]
  staticTypes := #[.double, .double, .double, .double, .double, .long, .long, .double, .double, .boolean]
  resolved := Array.replicate 460 none
  statics := none }

def pool3 : Array CpInfo := pool [(1, .methodref 2 3), (0, .class_ 4), (0, .nameAndType 5 6), (0, u "java/lang/Object"), (0, u "<init>"), (0, u "()V"), (0, .class_ 8), (0, u "com/example/talthybius/talthybius/AwaitedPings"), (0, .fieldref 7 10), (0, .nameAndType 11 12), (0, u "sentAt"), (0, u "[J"), (0, .fieldref 7 14), (0, .nameAndType 15 16), (0, u "answered"), (0, u "[Z"), (0, .fieldref 7 18), (0, .nameAndType 19 20), (0, u "timeoutNanos"), (0, u "J"), (0, .methodref 7 22), (0, .nameAndType 23 24), (0, u "forget"), (0, u "(J)V"), (0, .fieldref 7 26), (0, .nameAndType 27 28), (0, u "count"), (0, u "I"), (0, .methodref 7 30), (0, .nameAndType 31 6), (0, u "grow"), (0, .methodref 7 33), (0, .nameAndType 34 35), (0, u "placeOf"), (0, u "(I)I"), (0, .methodref 7 37), (0, .nameAndType 38 39), (0, u "find"), (0, u "(J)I"), (0, .fieldref 7 41), (0, .nameAndType 42 28), (0, u "oldest"), (0, u "FIRST_CAPACITY"), (4, u "sent"), (1, u "answer"), (0, u "(JJ)Z")] 6

def k3c0 : Code := { maxStack := 3, maxLocals := 3, code := prog_10_method_1_code, exceptionTable := #[], attributes := #[] }
def k3m0 : Method := { name := "<init>", desc := "(J)V", sig := { parameters := [.long], returnType := none }, accessFlags := 0, code := some k3c0 }
def k3c1 : Code := { maxStack := 4, maxLocals := 4, code := prog_10_method_2_code, exceptionTable := #[], attributes := #[] }
def k3m1 : Method := { name := "sent", desc := "(J)V", sig := { parameters := [.long], returnType := none }, accessFlags := 0, code := some k3c1 }
def k3c2 : Code := { maxStack := 3, maxLocals := 7, code := prog_10_method_3_code, exceptionTable := #[], attributes := #[] }
def k3m2 : Method := { name := "answer", desc := "(JJ)Z", sig := { parameters := [.long, .long], returnType := some .boolean }, accessFlags := 0, code := some k3c2 }
def k3c3 : Code := { maxStack := 4, maxLocals := 3, code := prog_10_method_5_code, exceptionTable := #[], attributes := #[] }
def k3m3 : Method := { name := "forget", desc := "(J)V", sig := { parameters := [.long], returnType := none }, accessFlags := 2, code := some k3c3 }
def k3c4 : Code := { maxStack := 4, maxLocals := 9, code := prog_10_method_6_code, exceptionTable := #[], attributes := #[] }
def k3m4 : Method := { name := "find", desc := "(J)I", sig := { parameters := [.long], returnType := some .int }, accessFlags := 2, code := some k3c4 }
def k3c5 : Code := { maxStack := 2, maxLocals := 3, code := prog_10_method_7_code, exceptionTable := #[], attributes := #[] }
def k3m5 : Method := { name := "placeOf", desc := "(I)I", sig := { parameters := [.int], returnType := some .int }, accessFlags := 2, code := some k3c5 }
def k3c6 : Code := { maxStack := 4, maxLocals := 5, code := prog_10_method_8_code, exceptionTable := #[], attributes := #[] }
def k3m6 : Method := { name := "grow", desc := "()V", sig := { parameters := [], returnType := none }, accessFlags := 2, code := some k3c6 }
/-- com/example/talthybius/talthybius/AwaitedPings -/
def k3 : Class := { plain "com/example/talthybius/talthybius/AwaitedPings" (some 0) with
  accessFlags := 32
  interfaces := #[]
  cf := some (fileOf pool3 7 #[] #[{ accessFlags := 0, nameIndex := 5, descriptorIndex := 24, attributes := #[] }, { accessFlags := 0, nameIndex := 48, descriptorIndex := 24, attributes := #[] }, { accessFlags := 0, nameIndex := 50, descriptorIndex := 51, attributes := #[] }, { accessFlags := 2, nameIndex := 23, descriptorIndex := 24, attributes := #[] }, { accessFlags := 2, nameIndex := 38, descriptorIndex := 39, attributes := #[] }, { accessFlags := 2, nameIndex := 34, descriptorIndex := 35, attributes := #[] }, { accessFlags := 2, nameIndex := 31, descriptorIndex := 6, attributes := #[] }] 32 2 #[] #[{ accessFlags := 26, nameIndex := 43, descriptorIndex := 28, attributes := #[] }, { accessFlags := 18, nameIndex := 19, descriptorIndex := 20, attributes := #[] }, { accessFlags := 2, nameIndex := 11, descriptorIndex := 12, attributes := #[] }, { accessFlags := 2, nameIndex := 15, descriptorIndex := 16, attributes := #[] }, { accessFlags := 2, nameIndex := 42, descriptorIndex := 28, attributes := #[] }, { accessFlags := 2, nameIndex := 27, descriptorIndex := 28, attributes := #[] }])
  fields := #[{ name := "FIRST_CAPACITY", type := .int, accessFlags := 26, slot := 0, constantValue := 0 }, { name := "timeoutNanos", type := .long, accessFlags := 18, slot := 0, constantValue := 0 }, { name := "sentAt", type := (.array .long), accessFlags := 2, slot := 1, constantValue := 0 }, { name := "answered", type := (.array .boolean), accessFlags := 2, slot := 2, constantValue := 0 }, { name := "oldest", type := .int, accessFlags := 2, slot := 3, constantValue := 0 }, { name := "count", type := .int, accessFlags := 2, slot := 4, constantValue := 0 }]
  methods := #[k3m0, k3m1, k3m2, k3m3, k3m4, k3m5, k3m6]
  instanceTypes := #[.long, (.array .long), (.array .boolean), .int, .int]
  staticTypes := #[.int]
  resolved := Array.replicate 58 none
  statics := none }

def pool4 : Array CpInfo := pool [(1, u "java/lang/Cloneable"), (0, .class_ 1), (0, u "java/lang/Object"), (0, .class_ 3)] 3

/-- java/lang/Cloneable -/
def k4 : Class := { plain "java/lang/Cloneable" (some 0) with
  accessFlags := 1537
  interfaces := #[]
  cf := some (fileOf pool4 2 #[] #[] 1537 4 #[] #[])
  fields := #[]
  methods := #[]
  instanceTypes := #[]
  staticTypes := #[]
  resolved := Array.replicate 8 none
  statics := none }

def pool5 : Array CpInfo := pool [(1, u "java/io/Serializable"), (0, .class_ 1), (0, u "java/lang/Object"), (0, .class_ 3)] 3

/-- java/io/Serializable -/
def k5 : Class := { plain "java/io/Serializable" (some 0) with
  accessFlags := 1537
  interfaces := #[]
  cf := some (fileOf pool5 2 #[] #[] 1537 4 #[] #[])
  fields := #[]
  methods := #[]
  instanceTypes := #[]
  staticTypes := #[]
  resolved := Array.replicate 8 none
  statics := none }

/-- the primitive boolean -/
def k6 : Class := { plain "boolean" none with kind := .primitive 'Z', accessFlags := 0x411 }
/-- [Z -/
def k7 : Class := { plain "[Z" (some 0) with kind := .array 6 .boolean, interfaces := #[4, 5], accessFlags := 1041 }

/-- the primitive byte -/
def k8 : Class := { plain "byte" none with kind := .primitive 'B', accessFlags := 0x411 }
/-- [B -/
def k9 : Class := { plain "[B" (some 0) with kind := .array 8 .byte, interfaces := #[4, 5], accessFlags := 1041 }

/-- the primitive int -/
def k10 : Class := { plain "int" none with kind := .primitive 'I', accessFlags := 0x411 }
/-- [I -/
def k11 : Class := { plain "[I" (some 0) with kind := .array 10 .int, interfaces := #[4, 5], accessFlags := 1041 }

/-- the primitive long -/
def k12 : Class := { plain "long" none with kind := .primitive 'J', accessFlags := 0x411 }
/-- [J -/
def k13 : Class := { plain "[J" (some 0) with kind := .array 12 .long, interfaces := #[4, 5], accessFlags := 1041 }

def heap : Heap := #[]
def classes : Array Class := #[k0, k1, k2, k3, k4, k5, k6, k7, k8, k9, k10, k11, k12, k13]
def interned : List (Array UInt16 × Addr) := []
def slotsUsed : Nat := 0
def theMethod : MethodId := ⟨1, 2⟩
def args0 : Array Value := #[.long 5, .long 7, .long 9, .long 11]
def aboutOver (below : List Frame) : State where
  vm := { classes := classes, interned := interned.toArray }
  heap := heap
  slotsUsed := slotsUsed
  threads := #[{ frames := .invoking theMethod args0 :: below }]
def below0 : List Frame := [.native { method := ⟨0, 0⟩, args := #[] }]
def about1 : State := aboutOver below0
def p0 : Program := .bare "" "" ""
def e0 : Env := launch0.env 0 0 0
theorem w_frames : about1.frames = Frame.invoking theMethod args0 :: below0 := rfl
set_option maxRecDepth 65536 in
theorem w_args : argsFit about1.vm theMethod args0 = true := by decide +kernel
set_option maxRecDepth 65536 in
theorem w_heap : heapFits about1 = true := by decide +kernel
set_option maxRecDepth 65536 in
theorem w_runnable : about1.curStatus? = some .runnable := by decide +kernel
set_option maxRecDepth 65536 in
theorem w_alone : about1.alone = true := by decide +kernel
set_option maxRecDepth 65536 in
theorem w_named : about1.methodNamed? x = some theMethod := by decide +kernel
set_option maxRecDepth 65536 in
theorem w_hears : about1.hears theMethod below0 = true := by decide +kernel
set_option maxRecDepth 65536 in
theorem w_ripe : about1.ripe theMethod args0 below0 = true := by decide +kernel
theorem w_running : about1.status = .running := rfl
set_option maxRecDepth 65536 in
theorem w_room : about1.hasRoom e0.platform room_1 = true :=
  launch0.hasRoom_least _ room_1 (by decide +kernel) (by decide +kernel) (by decide +kernel) (by decide +kernel) (by decide +kernel) (by decide +kernel)
theorem allAtoms_all (ts : List Jvm.Cond) (a : Array Jvm.Value) (st : Jvm.State) : (allAtoms ts).before a st = ts.all (fun c => c.before a st) := by
  induction ts with
  | nil => rfl
  | cons c t ih =>
    show (Jvm.Cond.and c (allAtoms t)).before a st = _
    rw [Jvm.Cond.before_and, ih, List.all_cons]
def words1 : List Jvm.Cond := Jvm.Cond.code x code maxLocals ret :: tables_1
/-- a 'code' word, met by the world's own term for the bytes: nothing is compared byte by byte -/
theorem code_word {y : MethodName} {bytes : ByteArray} {mx : Nat} {rt : Option FieldType} {a : Array Value} {s : State} {m : MethodId} {meth : Method} {c : Code} (h1 : s.methodNamed? y = some m) (h2 : s.vm.method? m = some meth) (h3 : meth.code = some c) (h4 : c.code = bytes)
    (h5 : (c.maxLocals == mx && c.exceptionTable.isEmpty && decide (c.maxStack ≤ mostOperands) && decide (meth.sig.returnType = rt) && !meth.locks && decide (parseMethodDescriptor y.desc = some meth.sig)) = true) : (Jvm.Cond.code y bytes mx rt).before a s = true := by
  simp only [Bool.and_eq_true, beq_iff_eq, Bool.not_eq_true', decide_eq_true_eq] at h5
  obtain ⟨⟨⟨⟨⟨g1, g2⟩, g3⟩, g4⟩, g5⟩, g6⟩ := h5
  simp [Cond.before, Cond.holds, Cond.value, h1, h2, h3, h4, g1, g2, g3, g4, g5, g6]
def isCode : Jvm.Cond → Bool
  | .code _ _ _ _ => true
  | _ => false
theorem all_split {L : List Jvm.Cond} {P : Jvm.Cond → Bool} (h1 : L.all (fun c => isCode c || P c) = true) (h2 : ∀ c ∈ L.filter isCode, P c = true) : L.all P = true := by
  refine List.all_eq_true.mpr fun c hc => ?_
  have h := List.all_eq_true.mp h1 c hc
  rcases Bool.eq_false_or_eq_true (isCode c) with hi | hi
  · exact h2 c (List.mem_filter.mpr ⟨hc, hi⟩)
  · simpa [hi] using h
set_option maxRecDepth 65536 in
theorem w_c0 : (Jvm.Cond.code x code maxLocals ret).before args0 about1 = true := code_word (m := ⟨1, 2⟩) (meth := k1m2) (c := k1c2) (by decide +kernel) rfl rfl rfl (by decide +kernel)
set_option maxRecDepth 65536 in
theorem w_c1 : (Jvm.Cond.code ({ cls := "java/lang/Math", name := "min", desc := "(JJ)J" } : Jvm.MethodName) jdk_29_method_70_code (4 : Nat) (Option.some Jvm.ClassFile.FieldType.long)).before args0 about1 = true := code_word (m := ⟨2, 1⟩) (meth := k2m1) (c := k2c1) (by decide +kernel) rfl rfl rfl (by decide +kernel)
set_option maxRecDepth 65536 in
theorem w_c2 : (Jvm.Cond.code ({ cls := "com/example/talthybius/talthybius/AwaitedPings", name := "<init>", desc := "(J)V" } : Jvm.MethodName) prog_10_method_1_code (3 : Nat) (Option.none : Option Jvm.ClassFile.FieldType)).before args0 about1 = true := code_word (m := ⟨3, 0⟩) (meth := k3m0) (c := k3c0) (by decide +kernel) rfl rfl rfl (by decide +kernel)
set_option maxRecDepth 65536 in
theorem w_c3 : (Jvm.Cond.code ({ cls := "java/lang/Object", name := "<init>", desc := "()V" } : Jvm.MethodName) object_method_1_code (1 : Nat) (Option.none : Option Jvm.ClassFile.FieldType)).before args0 about1 = true := code_word (m := ⟨0, 0⟩) (meth := k0m0) (c := k0c0) (by decide +kernel) rfl rfl rfl (by decide +kernel)
set_option maxRecDepth 65536 in
theorem w_c4 : (Jvm.Cond.code ({ cls := "com/example/talthybius/talthybius/AwaitedPings", name := "sent", desc := "(J)V" } : Jvm.MethodName) prog_10_method_2_code (4 : Nat) (Option.none : Option Jvm.ClassFile.FieldType)).before args0 about1 = true := code_word (m := ⟨3, 1⟩) (meth := k3m1) (c := k3c1) (by decide +kernel) rfl rfl rfl (by decide +kernel)
set_option maxRecDepth 65536 in
theorem w_c5 : (Jvm.Cond.code ({ cls := "com/example/talthybius/talthybius/AwaitedPings", name := "forget", desc := "(J)V" } : Jvm.MethodName) prog_10_method_5_code (3 : Nat) (Option.none : Option Jvm.ClassFile.FieldType)).before args0 about1 = true := code_word (m := ⟨3, 3⟩) (meth := k3m3) (c := k3c3) (by decide +kernel) rfl rfl rfl (by decide +kernel)
set_option maxRecDepth 65536 in
theorem w_c6 : (Jvm.Cond.code ({ cls := "com/example/talthybius/talthybius/AwaitedPings", name := "placeOf", desc := "(I)I" } : Jvm.MethodName) prog_10_method_7_code (3 : Nat) (Option.some Jvm.ClassFile.FieldType.int)).before args0 about1 = true := code_word (m := ⟨3, 5⟩) (meth := k3m5) (c := k3c5) (by decide +kernel) rfl rfl rfl (by decide +kernel)
set_option maxRecDepth 65536 in
theorem w_c7 : (Jvm.Cond.code ({ cls := "com/example/talthybius/talthybius/AwaitedPings", name := "answer", desc := "(JJ)Z" } : Jvm.MethodName) prog_10_method_3_code (7 : Nat) (Option.some Jvm.ClassFile.FieldType.boolean)).before args0 about1 = true := code_word (m := ⟨3, 2⟩) (meth := k3m2) (c := k3c2) (by decide +kernel) rfl rfl rfl (by decide +kernel)
set_option maxRecDepth 65536 in
theorem w_c8 : (Jvm.Cond.code ({ cls := "com/example/talthybius/talthybius/AwaitedPings", name := "find", desc := "(J)I" } : Jvm.MethodName) prog_10_method_6_code (9 : Nat) (Option.some Jvm.ClassFile.FieldType.int)).before args0 about1 = true := code_word (m := ⟨3, 4⟩) (meth := k3m4) (c := k3c4) (by decide +kernel) rfl rfl rfl (by decide +kernel)
set_option maxRecDepth 65536 in
theorem w_c9 : (Jvm.Cond.code ({ cls := "com/example/talthybius/talthybius/AwaitedPingsAnswerPinLaw", name := "indexOf", desc := "([JJ)I" } : Jvm.MethodName) method_2_code (3 : Nat) (Option.some Jvm.ClassFile.FieldType.int)).before args0 about1 = true := code_word (m := ⟨1, 1⟩) (meth := k1m1) (c := k1c1) (by decide +kernel) rfl rfl rfl (by decide +kernel)
set_option maxRecDepth 65536 in
theorem w_c10 : (Jvm.Cond.code ({ cls := "com/example/talthybius/talthybius/AwaitedPings", name := "grow", desc := "()V" } : Jvm.MethodName) prog_10_method_8_code (5 : Nat) (Option.none : Option Jvm.ClassFile.FieldType)).before args0 about1 = true := code_word (m := ⟨3, 6⟩) (meth := k3m6) (c := k3c6) (by decide +kernel) rfl rfl rfl (by decide +kernel)
def codes1 : List Jvm.Cond := [Jvm.Cond.code x code maxLocals ret, Jvm.Cond.code ({ cls := "java/lang/Math", name := "min", desc := "(JJ)J" } : Jvm.MethodName) jdk_29_method_70_code (4 : Nat) (Option.some Jvm.ClassFile.FieldType.long), Jvm.Cond.code ({ cls := "com/example/talthybius/talthybius/AwaitedPings", name := "<init>", desc := "(J)V" } : Jvm.MethodName) prog_10_method_1_code (3 : Nat) (Option.none : Option Jvm.ClassFile.FieldType), Jvm.Cond.code ({ cls := "java/lang/Object", name := "<init>", desc := "()V" } : Jvm.MethodName) object_method_1_code (1 : Nat) (Option.none : Option Jvm.ClassFile.FieldType), Jvm.Cond.code ({ cls := "com/example/talthybius/talthybius/AwaitedPings", name := "sent", desc := "(J)V" } : Jvm.MethodName) prog_10_method_2_code (4 : Nat) (Option.none : Option Jvm.ClassFile.FieldType), Jvm.Cond.code ({ cls := "com/example/talthybius/talthybius/AwaitedPings", name := "forget", desc := "(J)V" } : Jvm.MethodName) prog_10_method_5_code (3 : Nat) (Option.none : Option Jvm.ClassFile.FieldType), Jvm.Cond.code ({ cls := "com/example/talthybius/talthybius/AwaitedPings", name := "placeOf", desc := "(I)I" } : Jvm.MethodName) prog_10_method_7_code (3 : Nat) (Option.some Jvm.ClassFile.FieldType.int), Jvm.Cond.code ({ cls := "com/example/talthybius/talthybius/AwaitedPings", name := "answer", desc := "(JJ)Z" } : Jvm.MethodName) prog_10_method_3_code (7 : Nat) (Option.some Jvm.ClassFile.FieldType.boolean), Jvm.Cond.code ({ cls := "com/example/talthybius/talthybius/AwaitedPings", name := "find", desc := "(J)I" } : Jvm.MethodName) prog_10_method_6_code (9 : Nat) (Option.some Jvm.ClassFile.FieldType.int), Jvm.Cond.code ({ cls := "com/example/talthybius/talthybius/AwaitedPingsAnswerPinLaw", name := "indexOf", desc := "([JJ)I" } : Jvm.MethodName) method_2_code (3 : Nat) (Option.some Jvm.ClassFile.FieldType.int), Jvm.Cond.code ({ cls := "com/example/talthybius/talthybius/AwaitedPings", name := "grow", desc := "()V" } : Jvm.MethodName) prog_10_method_8_code (5 : Nat) (Option.none : Option Jvm.ClassFile.FieldType)]
set_option maxRecDepth 65536 in
theorem codes_eq : words1.filter isCode = codes1 := rfl
theorem w_codes : ∀ c ∈ words1.filter isCode, c.before args0 about1 = true := by
  rw [codes_eq]
  intro c hc
  simp only [codes1, List.mem_cons, List.not_mem_nil, or_false] at hc
  rcases hc with rfl | rfl | rfl | rfl | rfl | rfl | rfl | rfl | rfl | rfl | rfl
  · exact w_c0
  · exact w_c1
  · exact w_c2
  · exact w_c3
  · exact w_c4
  · exact w_c5
  · exact w_c6
  · exact w_c7
  · exact w_c8
  · exact w_c9
  · exact w_c10
set_option maxRecDepth 65536 in
theorem w_t1 : (words1.take 24).all (fun c => isCode c || c.before args0 about1) = true := by decide +kernel
set_option maxRecDepth 65536 in
theorem w_t2 : ((words1.drop 24).take 24).all (fun c => isCode c || c.before args0 about1) = true := by decide +kernel
set_option maxRecDepth 65536 in
theorem w_t3 : ((words1.drop 24).drop 24).all (fun c => isCode c || c.before args0 about1) = true := by decide +kernel
theorem w_tables : (allAtoms (Jvm.Cond.code x code maxLocals ret :: tables_1)).before args0 about1 = true := by
  rw [allAtoms_all]
  show words1.all (fun c => c.before args0 about1) = true
  refine all_split ?_ w_codes
  rw [← List.take_append_drop 24 words1, List.all_append, w_t1, ← List.take_append_drop 24 (words1.drop 24), List.all_append, w_t2, w_t3]
  rfl
set_option maxRecDepth 65536 in
theorem w_case : (Jvm.Cond.and given_1 narrow_1).before args0 about1 = true := by decide +kernel
theorem w_applies : (headSpec (Jvm.Cond.code x code maxLocals ret :: tables_1) room_1).applies x e0.platform about1 = true :=
  (Spec.applies_iff w_frames).mpr ⟨w_running, w_runnable, w_alone, w_named, w_hears, w_ripe, w_room, w_tables⟩
theorem atStart : AtStart classFile x code maxLocals ret World_1 tables_1 room_1 Calls_1 rest_1 Pre_1 launch0 p0 e0 about1 theMethod args0 below0 :=
  ⟨lists_1, trivial, launch0.admits_env _ _ _, launch0.least_env, fairChoices_fair.cas, fairChoices_fair.clock, w_frames, w_args, w_heap, w_applies, trivial, trivial, w_case⟩
end start1
theorem witness_1 : WitnessClaimed_1 := ⟨start1.p0, start1.e0, start1.about1, start1.theMethod, start1.args0, start1.below0, start1.atStart⟩
end Jvm.Pilot.@@N@@
