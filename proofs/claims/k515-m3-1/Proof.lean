import JvmDerived
import JvmDerived.Pilot.@@N@@Statement
import JvmDerived.Pilot.@@N@@Code
set_option linter.unusedVariables false
set_option linter.unusedSimpArgs false
namespace Jvm.RoadKit
open Sem ClassFile Op Lib Jvm.Stand Jvm.Free Jvm.LawKit
section New
variable {p : Program} {l : Launch} {e : Env} {R : Room} {s : State} {m : MethodId} {args : Array Value} {below : List Frame} {meth : Method} {c : Code} {T : State} {locs : List Loc} {cells slots : Nat}
theorem retI (X : Stand p l e R s m args below meth c T locs cells slots) (hx : p.tables.exec = Jvm.exec) {pc : Nat} {Ls : Array Slot} {z : Int32} {rest : List Value} (hret : meth.sig.returnType = some .int) (hd : decode c.code pc = .ok (.ireturn, 1)) {fs : List Frame}
    (hl : ∀ (f : JFrame) (acts : List Action), f.method = m → f.locked = none → f.entered = [] → (doReturn e (T.setTop f) acts (some (.int z))).1 = T.setFrames fs) : Steps p.tables e below (T.setTop (mkF m pc Ls (.int z :: rest))) (T.setFrames fs) := by
  have hm' : T.vm.method? m = some meth := X.method'
  have hn : narrow .int (.int z) = .int z := rfl
  show Steps p.tables e below (T.setTop { method := m, pc := pc, locals := Ls, stack := _ :: rest, locked := none }) _
  jvm_step X.here [X.here.top, hx, hd, hm', hret, hn]
  first | (intro acts; rw [hl _ acts rfl rfl rfl]) | rw [hl _ _ rfl rfl rfl]
  exact Steps.refl _
/-- from here the walk comes to a good end -/
def Go (p : Program) (e : Env) (below : List Frame) (s : State) (Q : Option Value → Heap → List Loc → Prop) (C S : Nat) (T : State) (f : JFrame) : Prop :=
  ∃ s₂ o, Steps p.tables e below (T.setTop f) s₂ ∧ s₂.status = .running ∧ Ended s₂ below o ∧ ∃ v L, o = .returned v ∧ Q v s₂.heap L ∧ FrameEnd s o s₂ L C S
theorem Go.step {Q : Option Value → Heap → List Loc → Prop} {C S : Nat} {T' : State} {f f' : JFrame} (k : ∀ t, Steps p.tables e below (T'.setTop f') t → Steps p.tables e below (T.setTop f) t) (h : Go p e below s Q C S T' f') : Go p e below s Q C S T f := by
  obtain ⟨s₂, o, h1, h2⟩ := h
  exact ⟨s₂, o, k _ h1, h2⟩
theorem Go.cast {Q : Option Value → Heap → List Loc → Prop} {C S : Nat} {f f' : JFrame} (q : f = f') (h : Go p e below s Q C S T f') : Go p e below s Q C S T f := q ▸ h
theorem Go.fin (X : Stand p l e R s m args below meth c T locs cells slots) {Q : Option Value → Heap → List Loc → Prop} {C S : Nat} {f : JFrame} {v : Option Value} (hv : meth.sig.returnType = none → v = none) (hl : meth.locks = false) (hQ : Q v T.heap locs) (hc : cells ≤ C) (hs : slots ≤ S)
    (k : ∀ fs, (∀ (f : JFrame) (acts : List Action), f.method = m → f.locked = none → f.entered = [] → (doReturn e (T.setTop f) acts v).1 = T.setFrames fs) → Steps p.tables e below (T.setTop f) (T.setFrames fs)) : Go p e below s Q C S T f := by
  obtain ⟨fs, hr, hrun, hended, hW, hsame⟩ := X.leave (v := v) hv hl
  exact ⟨_, _, k fs hr, hrun, hended, v, locs, rfl, hQ, ⟨_, rfl⟩, hW, hsame.mono hc hs⟩
theorem own_lrem (x y : Int64) : x - (x / y) * y = x % y := lrem_mod x y
theorem own_irem (x y : Int32) : x - (x / y) * y = x % y := by
  apply Int32.toInt_inj.mp
  have h1 := Int32.le_toInt (x % y)
  have h2 := Int32.toInt_lt (x % y)
  rw [Int32.toInt_sub, Int32.toInt_mul, Int32.toInt_div, Int.bmod_mul_bmod, Int.sub_bmod_bmod, Int.mul_comm (x.toInt.tdiv y.toInt), ← Int.tmod_def, ← Int32.toInt_mod]
  exact Int.bmod_eq_of_le_mul_two (by omega) (by omega)
theorem own_fin {x : Int32} {n : Nat} (h0 : 0 ≤ x.toInt) (h1 : x.toInt < n) (h2 : n ≤ 2147483648) : ∃ k : Fin n, x = Int32.ofNat k.val := by
  refine ⟨⟨x.toInt.toNat, by omega⟩, Int32.toInt_inj.mp ?_⟩
  have q : (x.toInt.toNat).toInt32.toInt = x.toInt.toNat := len_toInt (by omega)
  show x.toInt = (x.toInt.toNat).toInt32.toInt
  rw [q]; omega
theorem own_i2c {x : Int32} (h0 : 0 ≤ x.toInt) (h1 : x.toInt < 65536) : x.toUInt32.toUInt16.toUInt32.toInt32 = x := Int32.toInt_inj.mp (by have := c_i2c x; omega)
theorem own_rem (x y : Int32) (h0 : 0 ≤ x.toInt) : (x % y).toInt = x.toInt % y.toInt := by rw [Int32.toInt_mod, (tr _ _).1 h0]
theorem own_remL (x y : Int64) (h0 : 0 ≤ x.toInt) : (x % y).toInt = x.toInt % y.toInt := by rw [Int64.toInt_mod, (tr _ _).1 h0]
theorem own_div (x y : Int32) (h0 : 0 ≤ x.toInt) (h1 : 0 < y.toInt) : (x / y).toInt = x.toInt / y.toInt := (c_idiv x y _ rfl (fun q => by rw [q] at h1; exact absurd h1 (by decide))).1 h0
theorem own_add {x y : Int32} (h0 : -2147483648 ≤ x.toInt + y.toInt) (h1 : x.toInt + y.toInt < 2147483648) : (x + y).toInt = x.toInt + y.toInt := by have := c_iadd x y; have := rng32 (x + y); omega
theorem own_sub {x y : Int32} (h0 : -2147483648 ≤ x.toInt - y.toInt) (h1 : x.toInt - y.toInt < 2147483648) : (x - y).toInt = x.toInt - y.toInt := by have := c_isub x y; have := rng32 (x - y); omega
theorem own_mul {x y : Int32} (h0 : -2147483648 ≤ x.toInt * y.toInt) (h1 : x.toInt * y.toInt < 2147483648) : (x * y).toInt = x.toInt * y.toInt := by have := c_imul x y; have := rng32 (x * y); omega
theorem own_nat {j : Int32} (h0 : 0 ≤ j.toInt) : (j.toNatClampNeg : Int) = j.toInt := by simp only [Int32.toNatClampNeg]; omega
section Heaps
variable {Z : State} {h h' : Heap} {a b : Addr} {ty : FieldType} {vs : List Value} {sl : Nat} {v : Value} {ws : List Addr}
/-- an array and all that lies in it -/
def VA (Z : State) (h : Heap) (a : Addr) (ty : FieldType) (vs : List Value) : Prop := ∃ c : Cell, Arr Z h a c ty ∧ c.slots.toList = vs ∧ vs.length < 2 ^ 31
theorem VA.lt (F : VA Z h a ty vs) : a < h.size := by obtain ⟨c, A, -⟩ := F; exact A.lt
theorem VA.len (F : VA Z h a ty vs) : vs.length < 2 ^ 31 := by obtain ⟨c, A, -, r⟩ := F; exact r
theorem VA.ext (F : VA Z h a ty vs) (E : Ext h h') : VA Z h' a ty vs := by obtain ⟨c, A, r⟩ := F; exact ⟨c, A.ext E, r⟩
theorem VA.other (F : VA Z h b ty vs) (W : Wr h h' a sl v) (q : b ≠ a) : VA Z h' b ty vs := by obtain ⟨c, A, r⟩ := F; exact ⟨c, A.other W q, r⟩
theorem VA.keep (F : VA Z h a ty vs) (K : Keep h h' ws) (q : a ∉ ws) : VA Z h' a ty vs := by obtain ⟨c, A, r⟩ := F; exact ⟨c, ⟨K.2.1 a c A.1 q, A.2⟩, r⟩
theorem VA.new {k : ClassId} {n : Int32} (A : Arr Z h a (newA k ty n) ty) (q : ¬ n < 0) : VA Z h a ty (List.replicate n.toNatClampNeg (defaultValue ty)) :=
  ⟨_, A, by simp [newA], by rw [List.length_replicate]; exact (back32 q).2⟩
theorem VA.inb (F : VA Z h a ty vs) {j : Int32} (h0 : 0 ≤ j.toInt) (h1 : j.toInt < vs.length) : ∃ c : Cell, Arr Z h a c ty ∧ ¬ (j < 0 ∨ c.slots.size ≤ j.toNatClampNeg) ∧ c.slots[j.toNatClampNeg]? = vs[j.toNatClampNeg]? ∧ ∀ h' v, Wr h h' a j.toNatClampNeg v → VA Z h' a ty (vs.set j.toNatClampNeg v) := by
  obtain ⟨c, A, rfl, r⟩ := F
  have hj := own_nat h0
  rw [Array.length_toList] at h1
  refine ⟨c, A, ?_, (Array.getElem?_toList ..).symm, fun h' v W => ⟨_, A.same W, ?_, ?_⟩⟩
  · rw [Int32.lt_iff_toInt_lt]
    have k0 : (0 : Int32).toInt = 0 := rfl
    omega
  · simp [Cell.setSlot]
  · rw [List.length_set]; exact r
theorem VA.ne_exa {C : String} {a0 : Array Value} {k : Nat} (F : VA Z h b ty vs) (G : Exa Z h a C) (wi : (Cond.instantiable C k).before a0 Z = true) : a ≠ b := by obtain ⟨c, A, -⟩ := F; exact ne_arr G wi A
end Heaps
theorem own_cat1 {v : Value} (h : v.isRef = true) : v.category = 1 := by cases v <;> simp_all [Value.isRef, Value.category]
theorem own_psel {y : MethodName} {n : Nat} (wi : (Cond.instantiable y.cls n).before args s = true) (hpriv : s.PrivateAt y) (hinst : (Cond.instanceMethod y).before args s = true) (hy : y.cls ≠ "java/lang/invoke/MethodHandle" ∧ y.cls ≠ "java/lang/invoke/VarHandle") : (Cond.selects y.cls y y).before args s = true := by
  obtain ⟨c, k, h1, h2, -, h4, -, -⟩ := Cond.instantiable_spec wi
  exact selects_self_of_private h1 h2 (by cases q : k.isInterface; rfl; rw [q] at h4; simp at h4) hpriv hinst hy
section Steps2
variable {Z : State} {h : Heap} {a : Addr} {a0 : Array Value}
theorem ldI (X : Stand p l e R s m args below meth c T locs cells slots) (hx : p.tables.exec = Jvm.exec) (hZ : Z.Warmed39 s.vm) (eT : T.heap = h) {vs : List Int32} (F : VA Z h a .int (vs.map Value.int)) {j : Int32} (h0 : 0 ≤ j.toInt) (h1 : j.toInt < vs.length)
    {g : JFrame} (hg : g.method = m) {rest : List Value} (hs : g.stack = .int j :: .ref a :: rest) (hd : decode c.code g.pc = .ok (.iaload, 1)) (target : State)
    (k : Steps p.tables e below (T.setTop { g with pc := g.pc + 1, stack := .int (vs.getD j.toNatClampNeg 0) :: rest }) target) : Steps p.tables e below (T.setTop g) target := by
  obtain ⟨cl, A, q1, q2, -⟩ := F.inb h0 (by rw [List.length_map]; exact h1)
  have hj := own_nat h0
  refine X.iaload hx (j := j) (v := .int (vs.getD j.toNatClampNeg 0)) (by rw [eT]; exact A.1) (State.isArrayOf_alike hZ.alike A.2.1) A.2.2 q1 ?_ hg hs hd target k
  rw [q2, List.getElem?_map, List.getD_eq_getElem?_getD, List.getElem?_eq_getElem (by omega)]; rfl
theorem ldJ (X : Stand p l e R s m args below meth c T locs cells slots) (hx : p.tables.exec = Jvm.exec) (hZ : Z.Warmed39 s.vm) (eT : T.heap = h) {vs : List Int64} (F : VA Z h a .long (vs.map Value.long)) {j : Int32} (h0 : 0 ≤ j.toInt) (h1 : j.toInt < vs.length)
    {g : JFrame} (hg : g.method = m) {rest : List Value} (hs : g.stack = .int j :: .ref a :: rest) (hd : decode c.code g.pc = .ok (.laload, 1)) (target : State)
    (k : Steps p.tables e below (T.setTop { g with pc := g.pc + 1, stack := .long (vs.getD j.toNatClampNeg 0) :: rest }) target) : Steps p.tables e below (T.setTop g) target := by
  obtain ⟨cl, A, q1, q2, -⟩ := F.inb h0 (by rw [List.length_map]; exact h1)
  have hj := own_nat h0
  refine X.laload hx (j := j) (v := .long (vs.getD j.toNatClampNeg 0)) (by rw [eT]; exact A.1) (State.isArrayOf_alike hZ.alike A.2.1) A.2.2 q1 ?_ hg hs hd target k
  rw [q2, List.getElem?_map, List.getD_eq_getElem?_getD, List.getElem?_eq_getElem (by omega)]; rfl
theorem ldB (X : Stand p l e R s m args below meth c T locs cells slots) (hx : p.tables.exec = Jvm.exec) (hZ : Z.Warmed39 s.vm) (eT : T.heap = h) {vs : List Int32} (F : VA Z h a .byte (vs.map Value.int)) {j : Int32} (h0 : 0 ≤ j.toInt) (h1 : j.toInt < vs.length)
    {g : JFrame} (hg : g.method = m) {rest : List Value} (hs : g.stack = .int j :: .ref a :: rest) (hd : decode c.code g.pc = .ok (.baload, 1)) (target : State)
    (k : Steps p.tables e below (T.setTop { g with pc := g.pc + 1, stack := .int (vs.getD j.toNatClampNeg 0) :: rest }) target) : Steps p.tables e below (T.setTop g) target := by
  obtain ⟨cl, A, q1, q2, -⟩ := F.inb h0 (by rw [List.length_map]; exact h1)
  have hj := own_nat h0
  refine X.baloadBytes hx (j := j) (v := .int (vs.getD j.toNatClampNeg 0)) (by rw [eT]; exact A.1) (State.isArrayOf_alike hZ.alike A.2.1) A.2.2 q1 ?_ hg hs hd target k
  rw [q2, List.getElem?_map, List.getD_eq_getElem?_getD, List.getElem?_eq_getElem (by omega)]; rfl
theorem ldR (X : Stand p l e R s m args below meth c T locs cells slots) (hx : p.tables.exec = Jvm.exec) (hZ : Z.Warmed39 s.vm) (eT : T.heap = h) {ty : FieldType} {vs : List Addr} (F : VA Z h a ty (vs.map Value.ref)) (hty : ty.isReference = true) {j : Int32} (h0 : 0 ≤ j.toInt) (h1 : j.toInt < vs.length)
    {g : JFrame} (hg : g.method = m) {rest : List Value} (hs : g.stack = .int j :: .ref a :: rest) (hd : decode c.code g.pc = .ok (.aaload, 1)) (target : State)
    (k : Steps p.tables e below (T.setTop { g with pc := g.pc + 1, stack := .ref (vs.getD j.toNatClampNeg 0) :: rest }) target) : Steps p.tables e below (T.setTop g) target := by
  obtain ⟨cl, A, q1, q2, -⟩ := F.inb h0 (by rw [List.length_map]; exact h1)
  have hj := own_nat h0
  refine X.aaload hx (j := j) (v := .ref (vs.getD j.toNatClampNeg 0)) (by rw [eT]; exact A.1) (State.isArrayOf_alike hZ.alike A.2.1) hty A.2.2 q1 ?_ hg hs hd target k
  rw [q2, List.getElem?_map, List.getD_eq_getElem?_getD, List.getElem?_eq_getElem (by omega)]; rfl
theorem lenA (X : Stand p l e R s m args below meth c T locs cells slots) (hx : p.tables.exec = Jvm.exec) (hZ : Z.Warmed39 s.vm) (eT : T.heap = h) {ty : FieldType} {vs : List Value} (F : VA Z h a ty vs) {n : Int32} (hn : (vs.length : Int) = n.toInt)
    {g : JFrame} (hg : g.method = m) {rest : List Value} (hs : g.stack = .ref a :: rest) (hd : decode c.code g.pc = .ok (.arraylength, 1)) (target : State)
    (k : Steps p.tables e below (T.setTop { g with pc := g.pc + 1, stack := .int n :: rest }) target) : Steps p.tables e below (T.setTop g) target := by
  obtain ⟨cl, A, rfl, r⟩ := F
  refine X.arraylength hx (by rw [eT]; exact A.1) (State.isArrayOf_alike hZ.alike A.2.1) hg hs hd target ?_
  have e : cl.slots.size.toInt32 = n := Int32.toInt_inj.mp (by rw [len_toInt (by rw [← Array.length_toList]; exact r), ← hn, Array.length_toList])
  rw [e]; exact k
theorem putI (X : Stand p l e R s m args below meth c T locs cells slots) (hx : p.tables.exec = Jvm.exec) (hZ : Z.Warmed39 s.vm) (eT : T.heap = h) {vs : List Int32} (F : VA Z h a .int (vs.map Value.int)) {j x : Int32} (h0 : 0 ≤ j.toInt) (h1 : j.toInt < vs.length)
    {g : JFrame} (hg : g.method = m) {rest : List Value} (hs : g.stack = .int x :: .int j :: .ref a :: rest) (hd : decode c.code g.pc = .ok (.iastore, 1)) :
    ∃ T' h', Stand p l e R s m args below meth c T' (locs ++ [⟨a, j.toNatClampNeg⟩]) cells slots ∧ T'.heap = h' ∧ Wr h h' a j.toNatClampNeg (.int x) ∧ VA Z h' a .int ((vs.set j.toNatClampNeg x).map Value.int) ∧ ∀ target, Steps p.tables e below (T'.setTop { g with pc := g.pc + 1, stack := rest }) target → Steps p.tables e below (T.setTop g) target := by
  obtain ⟨cl, A, q1, q2, q3⟩ := F.inb h0 (by rw [List.length_map]; exact h1)
  obtain ⟨T', h', X', e', W, st⟩ := stI X hx hZ eT A q1 hg hs hd
  exact ⟨T', h', X', e', W, by rw [List.map_set]; exact q3 _ _ W, st⟩
theorem putJ (X : Stand p l e R s m args below meth c T locs cells slots) (hx : p.tables.exec = Jvm.exec) (hZ : Z.Warmed39 s.vm) (eT : T.heap = h) {vs : List Int64} (F : VA Z h a .long (vs.map Value.long)) {j : Int32} {x : Int64} (h0 : 0 ≤ j.toInt) (h1 : j.toInt < vs.length)
    {g : JFrame} (hg : g.method = m) {rest : List Value} (hs : g.stack = .long x :: .int j :: .ref a :: rest) (hd : decode c.code g.pc = .ok (.lastore, 1)) :
    ∃ T' h', Stand p l e R s m args below meth c T' (locs ++ [⟨a, j.toNatClampNeg⟩]) cells slots ∧ T'.heap = h' ∧ Wr h h' a j.toNatClampNeg (.long x) ∧ VA Z h' a .long ((vs.set j.toNatClampNeg x).map Value.long) ∧ ∀ target, Steps p.tables e below (T'.setTop { g with pc := g.pc + 1, stack := rest }) target → Steps p.tables e below (T.setTop g) target := by
  obtain ⟨cl, A, q1, q2, q3⟩ := F.inb h0 (by rw [List.length_map]; exact h1)
  obtain ⟨T', h', X', e', W, st⟩ := stJ X hx hZ eT A q1 hg hs hd
  exact ⟨T', h', X', e', W, by rw [List.map_set]; exact q3 _ _ W, st⟩
theorem putB (X : Stand p l e R s m args below meth c T locs cells slots) (hx : p.tables.exec = Jvm.exec) (hZ : Z.Warmed39 s.vm) (eT : T.heap = h) {vs : List Int32} (F : VA Z h a .byte (vs.map Value.int)) {j x : Int32} (h0 : 0 ≤ j.toInt) (h1 : j.toInt < vs.length)
    {g : JFrame} (hg : g.method = m) {rest : List Value} (hs : g.stack = .int x :: .int j :: .ref a :: rest) (hd : decode c.code g.pc = .ok (.bastore, 1)) :
    ∃ T' h', Stand p l e R s m args below meth c T' (locs ++ [⟨a, j.toNatClampNeg⟩]) cells slots ∧ T'.heap = h' ∧ Wr h h' a j.toNatClampNeg (.int (nar .byte x)) ∧ VA Z h' a .byte ((vs.set j.toNatClampNeg (nar .byte x)).map Value.int) ∧ ∀ target, Steps p.tables e below (T'.setTop { g with pc := g.pc + 1, stack := rest }) target → Steps p.tables e below (T.setTop g) target := by
  obtain ⟨cl, A, q1, q2, q3⟩ := F.inb h0 (by rw [List.length_map]; exact h1)
  obtain ⟨T', h', X', e', W, st⟩ := stB X hx hZ eT A q1 hg hs hd
  exact ⟨T', h', X', e', W, by rw [List.map_set]; exact q3 _ _ W, st⟩
theorem newI (X : Stand p l e R s m args below meth c T locs cells slots) (hx : p.tables.exec = Jvm.exec) (hZ : Z.Warmed39 s.vm) (w : (Cond.arrayClass .int).before a0 Z = true) (eT : T.heap = h) {g : JFrame} (hg : g.method = m) (hd : decode c.code g.pc = .ok (.newarray .int, 2)) {n : Int32} {rest : List Value} (hs : g.stack = .int n :: rest)
    (hn : 0 ≤ n.toInt) {cap : Nat} (hcap : n.toInt ≤ cap) (hb : cap * 8 ≤ 536870912) (hc : cells + 1 ≤ R.cells) (hl : slots + cap ≤ R.slots) :
    ∃ T' h', Stand p l e R s m args below meth c T' locs (cells + 1) (slots + cap) ∧ T'.heap = h' ∧ Ext h h' ∧ VA Z h' h.size .int ((List.replicate n.toInt.toNat (0 : Int32)).map Value.int) ∧
      ∀ target, Steps p.tables e below (T'.setTop { g with pc := g.pc + 2, stack := .ref h.size :: rest }) target → Steps p.tables e below (T.setTop g) target := by
  have q : ¬ n < 0 := by rw [Int32.lt_iff_toInt_lt]; have k0 : (0 : Int32).toInt = 0 := rfl; omega
  have en : n.toNatClampNeg = n.toInt.toNat := rfl
  obtain ⟨T', h', cA, X', e', E, A, st⟩ := newP X hx hZ (aty := .int) w eT hg hd hs q (cap := cap) (by rw [en]; omega) hb hc hl
  have V1 : VA Z h' h.size .int (List.replicate n.toNatClampNeg (Value.int (0 : Int32))) := VA.new A q
  rw [en] at V1
  refine ⟨T', h', X', e', E, ?_, st⟩
  rw [List.map_replicate]
  exact V1
theorem newJ (X : Stand p l e R s m args below meth c T locs cells slots) (hx : p.tables.exec = Jvm.exec) (hZ : Z.Warmed39 s.vm) (w : (Cond.arrayClass .long).before a0 Z = true) (eT : T.heap = h) {g : JFrame} (hg : g.method = m) (hd : decode c.code g.pc = .ok (.newarray .long, 2)) {n : Int32} {rest : List Value} (hs : g.stack = .int n :: rest)
    (hn : 0 ≤ n.toInt) {cap : Nat} (hcap : n.toInt ≤ cap) (hb : cap * 8 ≤ 536870912) (hc : cells + 1 ≤ R.cells) (hl : slots + cap ≤ R.slots) :
    ∃ T' h', Stand p l e R s m args below meth c T' locs (cells + 1) (slots + cap) ∧ T'.heap = h' ∧ Ext h h' ∧ VA Z h' h.size .long ((List.replicate n.toInt.toNat (0 : Int64)).map Value.long) ∧
      ∀ target, Steps p.tables e below (T'.setTop { g with pc := g.pc + 2, stack := .ref h.size :: rest }) target → Steps p.tables e below (T.setTop g) target := by
  have q : ¬ n < 0 := by rw [Int32.lt_iff_toInt_lt]; have k0 : (0 : Int32).toInt = 0 := rfl; omega
  have en : n.toNatClampNeg = n.toInt.toNat := rfl
  obtain ⟨T', h', cA, X', e', E, A, st⟩ := newP X hx hZ (aty := .long) w eT hg hd hs q (cap := cap) (by rw [en]; omega) hb hc hl
  have V1 : VA Z h' h.size .long (List.replicate n.toNatClampNeg (Value.long (0 : Int64))) := VA.new A q
  rw [en] at V1
  refine ⟨T', h', X', e', E, ?_, st⟩
  rw [List.map_replicate]
  exact V1
theorem newB (X : Stand p l e R s m args below meth c T locs cells slots) (hx : p.tables.exec = Jvm.exec) (hZ : Z.Warmed39 s.vm) (w : (Cond.arrayClass .byte).before a0 Z = true) (eT : T.heap = h) {g : JFrame} (hg : g.method = m) (hd : decode c.code g.pc = .ok (.newarray .byte, 2)) {n : Int32} {rest : List Value} (hs : g.stack = .int n :: rest)
    (hn : 0 ≤ n.toInt) {cap : Nat} (hcap : n.toInt ≤ cap) (hb : cap * 8 ≤ 536870912) (hc : cells + 1 ≤ R.cells) (hl : slots + cap ≤ R.slots) :
    ∃ T' h', Stand p l e R s m args below meth c T' locs (cells + 1) (slots + cap) ∧ T'.heap = h' ∧ Ext h h' ∧ VA Z h' h.size .byte ((List.replicate n.toInt.toNat (0 : Int32)).map Value.int) ∧
      ∀ target, Steps p.tables e below (T'.setTop { g with pc := g.pc + 2, stack := .ref h.size :: rest }) target → Steps p.tables e below (T.setTop g) target := by
  have q : ¬ n < 0 := by rw [Int32.lt_iff_toInt_lt]; have k0 : (0 : Int32).toInt = 0 := rfl; omega
  have en : n.toNatClampNeg = n.toInt.toNat := rfl
  obtain ⟨T', h', cA, X', e', E, A, st⟩ := newP X hx hZ (aty := .byte) w eT hg hd hs q (cap := cap) (by rw [en]; omega) hb hc hl
  have V1 : VA Z h' h.size .byte (List.replicate n.toNatClampNeg (Value.int (0 : Int32))) := VA.new A q
  rw [en] at V1
  refine ⟨T', h', X', e', E, ?_, st⟩
  rw [List.map_replicate]
  exact V1
theorem ldZ (X : Stand p l e R s m args below meth c T locs cells slots) (hx : p.tables.exec = Jvm.exec) (hZ : Z.Warmed39 s.vm) (eT : T.heap = h) {vs : List Int32} (F : VA Z h a .boolean (vs.map Value.int)) {j : Int32} (h0 : 0 ≤ j.toInt) (h1 : j.toInt < vs.length)
    {g : JFrame} (hg : g.method = m) {rest : List Value} (hs : g.stack = .int j :: .ref a :: rest) (hd : decode c.code g.pc = .ok (.baload, 1)) (target : State)
    (k : Steps p.tables e below (T.setTop { g with pc := g.pc + 1, stack := .int (vs.getD j.toNatClampNeg 0) :: rest }) target) : Steps p.tables e below (T.setTop g) target := by
  obtain ⟨cl, A, q1, q2, -⟩ := F.inb h0 (by rw [List.length_map]; exact h1)
  have hj := own_nat h0
  refine X.baloadBooleans hx (j := j) (v := .int (vs.getD j.toNatClampNeg 0)) (by rw [eT]; exact A.1) (State.isArrayOf_alike hZ.alike A.2.1) A.2.2 q1 ?_ hg hs hd target k
  rw [q2, List.getElem?_map, List.getD_eq_getElem?_getD, List.getElem?_eq_getElem (by omega)]; rfl
theorem putZ (X : Stand p l e R s m args below meth c T locs cells slots) (hx : p.tables.exec = Jvm.exec) (hZ : Z.Warmed39 s.vm) (eT : T.heap = h) {vs : List Int32} (F : VA Z h a .boolean (vs.map Value.int)) {j x : Int32} (h0 : 0 ≤ j.toInt) (h1 : j.toInt < vs.length)
    {g : JFrame} (hg : g.method = m) {rest : List Value} (hs : g.stack = .int x :: .int j :: .ref a :: rest) (hd : decode c.code g.pc = .ok (.bastore, 1)) :
    ∃ T' h', Stand p l e R s m args below meth c T' (locs ++ [⟨a, j.toNatClampNeg⟩]) cells slots ∧ T'.heap = h' ∧ Wr h h' a j.toNatClampNeg (.int (nar .boolean x)) ∧ VA Z h' a .boolean ((vs.set j.toNatClampNeg (nar .boolean x)).map Value.int) ∧ ∀ target, Steps p.tables e below (T'.setTop { g with pc := g.pc + 1, stack := rest }) target → Steps p.tables e below (T.setTop g) target := by
  obtain ⟨cl, A, q1, q2, q3⟩ := F.inb h0 (by rw [List.length_map]; exact h1)
  obtain ⟨T', h', X', e', W, st⟩ := stZ X hx hZ eT A q1 hg hs hd
  exact ⟨T', h', X', e', W, by rw [List.map_set]; exact q3 _ _ W, st⟩
theorem newZ (X : Stand p l e R s m args below meth c T locs cells slots) (hx : p.tables.exec = Jvm.exec) (hZ : Z.Warmed39 s.vm) (w : (Cond.arrayClass .boolean).before a0 Z = true) (eT : T.heap = h) {g : JFrame} (hg : g.method = m) (hd : decode c.code g.pc = .ok (.newarray .boolean, 2)) {n : Int32} {rest : List Value} (hs : g.stack = .int n :: rest)
    (hn : 0 ≤ n.toInt) {cap : Nat} (hcap : n.toInt ≤ cap) (hb : cap * 8 ≤ 536870912) (hc : cells + 1 ≤ R.cells) (hl : slots + cap ≤ R.slots) :
    ∃ T' h', Stand p l e R s m args below meth c T' locs (cells + 1) (slots + cap) ∧ T'.heap = h' ∧ Ext h h' ∧ VA Z h' h.size .boolean ((List.replicate n.toInt.toNat (0 : Int32)).map Value.int) ∧
      ∀ target, Steps p.tables e below (T'.setTop { g with pc := g.pc + 2, stack := .ref h.size :: rest }) target → Steps p.tables e below (T.setTop g) target := by
  have q : ¬ n < 0 := by rw [Int32.lt_iff_toInt_lt]; have k0 : (0 : Int32).toInt = 0 := rfl; omega
  have en : n.toNatClampNeg = n.toInt.toNat := rfl
  obtain ⟨T', h', cA, X', e', E, A, st⟩ := newP X hx hZ (aty := .boolean) w eT hg hd hs q (cap := cap) (by rw [en]; omega) hb hc hl
  have V1 : VA Z h' h.size .boolean (List.replicate n.toNatClampNeg (Value.int (0 : Int32))) := VA.new A q
  rw [en] at V1
  refine ⟨T', h', X', e', E, ?_, st⟩
  rw [List.map_replicate]
  exact V1
end Steps2
end New
end Jvm.RoadKit
namespace Jvm.Pilot.@@N@@
open Jvm Jvm.ClassFile Sem Op Lib Jvm.Free Jvm.Stand Jvm.LawKit Jvm.RoadKit Bundle Jvm.Pilot.@@N@@.Jvm.D
theorem d2_0 : decode prog_10_method_1_code 0 = .ok (.aload_n 0, 1) := by decide +kernel
theorem d2_1 : decode prog_10_method_1_code 1 = .ok (.invokespecial 1, 3) := by decide +kernel
theorem d2_4 : decode prog_10_method_1_code 4 = .ok (.aload_n 0, 1) := by decide +kernel
theorem d2_5 : decode prog_10_method_1_code 5 = .ok (.bipush 8, 2) := by decide +kernel
theorem d2_7 : decode prog_10_method_1_code 7 = .ok (.newarray .long, 2) := by decide +kernel
theorem d2_9 : decode prog_10_method_1_code 9 = .ok (.putfield 9, 3) := by decide +kernel
theorem d2_12 : decode prog_10_method_1_code 12 = .ok (.aload_n 0, 1) := by decide +kernel
theorem d2_13 : decode prog_10_method_1_code 13 = .ok (.bipush 8, 2) := by decide +kernel
theorem d2_15 : decode prog_10_method_1_code 15 = .ok (.newarray .boolean, 2) := by decide +kernel
theorem d2_17 : decode prog_10_method_1_code 17 = .ok (.putfield 13, 3) := by decide +kernel
theorem d2_20 : decode prog_10_method_1_code 20 = .ok (.aload_n 0, 1) := by decide +kernel
theorem d2_21 : decode prog_10_method_1_code 21 = .ok (.lload_n 1, 1) := by decide +kernel
theorem d2_22 : decode prog_10_method_1_code 22 = .ok (.putfield 17, 3) := by decide +kernel
theorem d2_25 : decode prog_10_method_1_code 25 = .ok (.return_, 1) := by decide +kernel
theorem pn_0 : plainName "com/example/talthybius/talthybius/AwaitedPings" = true := by first | (simp [plainName, overriddenIn]; done) | decide +kernel
theorem ef_iniA (m : MethodId) (x0 : Addr) (x1 : Int64) : entryFrame m #[(.ref x0), (.long x1)] 3 = mkF m 0 #[.val (.ref x0), .val (.long x1), .second] [] := by first | (simp [entryFrame, mkF, argsToLocals, Value.category]; done) | rfl
def QiniA (Z : State) (a : Addr) (p1 : Int64) (u : Int64) (o0 : Int32) (k0 : Int32) (h0 : Heap) (n0 : Nat) (v : Option Value) (h : Heap) (L : List Loc) : Prop := ∃ (aS : Addr), ∃ (aA : Addr), v = none ∧ Fr n0 L ∧ Keep h0 h [a] ∧ h0.size ≤ aS ∧ h0.size ≤ aA ∧ aS ≠ aA ∧ Fld Z h a "com/example/talthybius/talthybius/AwaitedPings" "timeoutNanos" "J" (.long p1) ∧ Fld Z h a "com/example/talthybius/talthybius/AwaitedPings" "sentAt" "[J" (.ref aS) ∧ Fld Z h a "com/example/talthybius/talthybius/AwaitedPings" "answered" "[Z" (.ref aA) ∧ Fld Z h a "com/example/talthybius/talthybius/AwaitedPings" "oldest" "I" (.int o0) ∧ Fld Z h a "com/example/talthybius/talthybius/AwaitedPings" "count" "I" (.int k0) ∧ VA Z h aS .long ([(0 : Int64), (0 : Int64), (0 : Int64), (0 : Int64), (0 : Int64), (0 : Int64), (0 : Int64), (0 : Int64)].map Value.long) ∧ VA Z h aA .boolean ([(0 : Int32), (0 : Int32), (0 : Int32), (0 : Int32), (0 : Int32), (0 : Int32), (0 : Int32), (0 : Int32)].map Value.int)
set_option maxRecDepth 65536 in
set_option maxHeartbeats 40000000 in
theorem rm_iniA (l : Launch) (Z : State) (a0 : Array Value) (hw : ∀ d ∈ tables_1, d.before a0 Z = true) (ws : List Jvm.Cond) (a : Addr) (p1 : Int64) (u : Int64) (o0 : Int32) (k0 : Int32) (h0 : Heap) (n0 : Nat) (Z0 : n0 ≤ h0.size) (F0 : Exa Z h0 a "com/example/talthybius/talthybius/AwaitedPings") (F1 : Fld Z h0 a "com/example/talthybius/talthybius/AwaitedPings" "timeoutNanos" "J" (.long u)) (F2 : Fld Z h0 a "com/example/talthybius/talthybius/AwaitedPings" "sentAt" "[J" .null) (F3 : Fld Z h0 a "com/example/talthybius/talthybius/AwaitedPings" "answered" "[Z" .null) (F4 : Fld Z h0 a "com/example/talthybius/talthybius/AwaitedPings" "oldest" "I" (.int o0)) (F5 : Fld Z h0 a "com/example/talthybius/talthybius/AwaitedPings" "count" "I" (.int k0)) (g_a : n0 ≤ a) :
    MetFree l (⟨"com/example/talthybius/talthybius/AwaitedPings", "<init>", "(J)V"⟩ : MethodName) (head1 (Jvm.Cond.code (⟨"com/example/talthybius/talthybius/AwaitedPings", "<init>", "(J)V"⟩ : MethodName) prog_10_method_1_code 3 none :: ws) ({ frames := 1, cells := 2, slots := 16, locals := 12 } : Room)) (fun A_ U => A_ = #[(.ref a), (.long p1)] ∧ Z.Warmed39 U.vm ∧ U.heap = h0) (fun _ _ _ _ _ => True) (fun _ U o U' => ∃ v L, o = .returned v ∧ QiniA Z a p1 u o0 k0 h0 n0 v U'.heap L ∧ FrameEnd U o U' L ({ frames := 1, cells := 2, slots := 16, locals := 12 } : Room).cells ({ frames := 1, cells := 2, slots := 16, locals := 12 } : Room).slots) := by
  refine MetFree.of_bodySF (plainFor_of_name pn_0) hisR ?_
  intro p e s m args below meth c s₁ Bd hml0 hP hK
  obtain ⟨rfl, hZ, hh⟩ := hP
  have hx := Bd.exec
  have hby := Bd.bytes
  have hml : c.maxLocals = 3 := hml0
  have hown : s.vm.findClass "com/example/talthybius/talthybius/AwaitedPings" = some m.cls := findClass_of_methodNamed Bd.named
  have hnm := (name_of_methodNamed Bd.named Bd.method).1
  have X0 : Stand p l e ({ frames := 1, cells := 2, slots := 16, locals := 12 } : Room) s m #[(.ref a), (.long p1)] below meth c s₁ [] 0 0 := Stand.of_body Bd
  have e0 : s₁.heap = h0 := by rw [← hh, Bd.state]; rfl
  have N0 := Fr.nil n0
  suffices HGO : Go p e below s (QiniA Z a p1 u o0 k0 h0 n0) ({ frames := 1, cells := 2, slots := 16, locals := 12 } : Room).cells ({ frames := 1, cells := 2, slots := 16, locals := 12 } : Room).slots s₁ (mkF m 0 #[.val (.ref a), .val (.long p1), .second] []) from Go.cast (ef_iniA m a p1) HGO
  obtain ⟨T1, X1, e1, st1⟩ := initO X0 hx hZ hown (hw _ (List.mem_of_getElem? (i := 14) rfl)) (hw _ (List.mem_of_getElem? (i := 15) rfl)) (hw _ (List.mem_of_getElem? (i := 16) rfl)) e0 (g := (mkF m 1 #[.val (.ref a), .val (.long p1), .second] [(.ref a)])) rfl (by rw [hml]; rfl) rfl (hb hby d2_1) (by decide) (W := 0) (by show 2 * 0 + _ ≤ _; exact Nat.le_of_eq rfl) (by decide)
  obtain ⟨T2, h2, X2, e2, E2, A2, st2⟩ := newJ X1 hx hZ (hw _ (List.mem_of_getElem? (i := 1) rfl)) e1 (g := (mkF m 7 #[.val (.ref a), .val (.long p1), .second] [(.int (8 : Int32)), (.ref a)])) rfl (hb hby d2_7) rfl (by decide) (cap := 8) (by decide) (by decide) (Nat.le_trans (Nat.add_le_add_right (Nat.le_refl 0) 1) (by decide)) (Nat.le_trans (Nat.add_le_add_right (Nat.le_refl 0) 8) (by decide))
  obtain ⟨b2, g2⟩ : ∃ z, z = h0.size := ⟨_, rfl⟩
  rw [← g2] at A2 st2
  have ne_a_b2 : a ≠ b2 := Nat.ne_of_lt (Nat.lt_of_lt_of_le F0.lt (Nat.le_of_eq g2.symm))
  have G3 : Exa Z h2 a "com/example/talthybius/talthybius/AwaitedPings" := F0.ext E2
  have G4 : Fld Z h2 a "com/example/talthybius/talthybius/AwaitedPings" "timeoutNanos" "J" (.long u) := F1.ext E2
  have G5 : Fld Z h2 a "com/example/talthybius/talthybius/AwaitedPings" "sentAt" "[J" .null := F2.ext E2
  have G6 : Fld Z h2 a "com/example/talthybius/talthybius/AwaitedPings" "answered" "[Z" .null := F3.ext E2
  have G7 : Fld Z h2 a "com/example/talthybius/talthybius/AwaitedPings" "oldest" "I" (.int o0) := F4.ext E2
  have G8 : Fld Z h2 a "com/example/talthybius/talthybius/AwaitedPings" "count" "I" (.int k0) := F5.ext E2
  have g_b2 : n0 ≤ b2 := Nat.le_trans Z0 (Nat.le_of_eq g2.symm)
  have sz_b2 : h0.size ≤ b2 := Nat.le_trans (Keep.refl h0 [a]).1 (Nat.le_of_eq g2.symm)
  have K2 : Keep h0 h2 [a] := Keep.ext (Keep.refl h0 [a]) E2
  have Z2 : n0 ≤ h2.size := Nat.le_trans Z0 K2.1
  have G9 : VA Z h2 b2 .long ([(0 : Int64), (0 : Int64), (0 : Int64), (0 : Int64), (0 : Int64), (0 : Int64), (0 : Int64), (0 : Int64)].map Value.long) := A2
  obtain ⟨T10, h10, X10, e10, W10, st10⟩ := putF X2 hx hZ hown (host := "") (Or.inl (hw _ (List.mem_of_getElem? (i := 17) rfl))) Via.refl e2 G5 G3 (Or.inl (hw _ (List.mem_of_getElem? (i := 18) rfl))) (hw _ (List.mem_of_getElem? (i := 9) rfl)) (ty := (.array .long)) (by decide) rfl rfl (g := (mkF m 9 #[.val (.ref a), .val (.long p1), .second] [(.ref b2), (.ref a)])) rfl rfl (hb hby d2_9)
  have G11 : Exa Z h10 a "com/example/talthybius/talthybius/AwaitedPings" := G3.wr W10
  have G12 : Fld Z h10 a "com/example/talthybius/talthybius/AwaitedPings" "timeoutNanos" "J" (.long u) := G4.other W10 (Or.inr (slot_ne (Or.inr (hw _ (List.mem_of_getElem? (i := 23) rfl))) (Or.inl (hw _ (List.mem_of_getElem? (i := 18) rfl))) (by decide) (t := .long) (t' := (.array .long)) (by decide) (by decide)))
  have G13 : Fld Z h10 a "com/example/talthybius/talthybius/AwaitedPings" "sentAt" "[J" (.ref b2) := G5.same W10
  have G14 : Fld Z h10 a "com/example/talthybius/talthybius/AwaitedPings" "answered" "[Z" .null := G6.other W10 (Or.inr (slot_ne (Or.inl (hw _ (List.mem_of_getElem? (i := 21) rfl))) (Or.inl (hw _ (List.mem_of_getElem? (i := 18) rfl))) (by decide) (t := (.array .boolean)) (t' := (.array .long)) (by decide) (by decide)))
  have G15 : Fld Z h10 a "com/example/talthybius/talthybius/AwaitedPings" "oldest" "I" (.int o0) := G7.other W10 (Or.inr (slot_ne (Or.inl (hw _ (List.mem_of_getElem? (i := 40) rfl))) (Or.inl (hw _ (List.mem_of_getElem? (i := 18) rfl))) (by decide) (t := .int) (t' := (.array .long)) (by decide) (by decide)))
  have G16 : Fld Z h10 a "com/example/talthybius/talthybius/AwaitedPings" "count" "I" (.int k0) := G8.other W10 (Or.inr (slot_ne (Or.inl (hw _ (List.mem_of_getElem? (i := 34) rfl))) (Or.inl (hw _ (List.mem_of_getElem? (i := 18) rfl))) (by decide) (t := .int) (t' := (.array .long)) (by decide) (by decide)))
  have G17 : VA Z h10 b2 .long ([(0 : Int64), (0 : Int64), (0 : Int64), (0 : Int64), (0 : Int64), (0 : Int64), (0 : Int64), (0 : Int64)].map Value.long) := G9.other W10 (Ne.symm ne_a_b2)
  have N10 := Fr.snoc X10 N0 g_a
  have K10 : Keep h0 h10 [a] := Keep.wr K2 W10 (Or.inl (List.mem_of_getElem? (i := 0) rfl))
  have Z10 : n0 ≤ h10.size := Nat.le_trans Z0 K10.1
  obtain ⟨T18, h18, X18, e18, E18, A18, st18⟩ := newZ X10 hx hZ (hw _ (List.mem_of_getElem? (i := 19) rfl)) e10 (g := (mkF m 15 #[.val (.ref a), .val (.long p1), .second] [(.int (8 : Int32)), (.ref a)])) rfl (hb hby d2_15) rfl (by decide) (cap := 8) (by decide) (by decide) (Nat.le_trans (Nat.add_le_add_right (Nat.add_le_add_right (Nat.le_refl 0) 1) 1) (by decide)) (Nat.le_trans (Nat.add_le_add_right (Nat.add_le_add_right (Nat.le_refl 0) 8) 8) (by decide))
  obtain ⟨b18, g18⟩ : ∃ z, z = h10.size := ⟨_, rfl⟩
  rw [← g18] at A18 st18
  have ne_a_b18 : a ≠ b18 := Nat.ne_of_lt (Nat.lt_of_lt_of_le G11.lt (Nat.le_of_eq g18.symm))
  have ne_b2_b18 : b2 ≠ b18 := Nat.ne_of_lt (Nat.lt_of_lt_of_le G17.lt (Nat.le_of_eq g18.symm))
  have G19 : Exa Z h18 a "com/example/talthybius/talthybius/AwaitedPings" := G11.ext E18
  have G20 : Fld Z h18 a "com/example/talthybius/talthybius/AwaitedPings" "timeoutNanos" "J" (.long u) := G12.ext E18
  have G21 : Fld Z h18 a "com/example/talthybius/talthybius/AwaitedPings" "sentAt" "[J" (.ref b2) := G13.ext E18
  have G22 : Fld Z h18 a "com/example/talthybius/talthybius/AwaitedPings" "answered" "[Z" .null := G14.ext E18
  have G23 : Fld Z h18 a "com/example/talthybius/talthybius/AwaitedPings" "oldest" "I" (.int o0) := G15.ext E18
  have G24 : Fld Z h18 a "com/example/talthybius/talthybius/AwaitedPings" "count" "I" (.int k0) := G16.ext E18
  have G25 : VA Z h18 b2 .long ([(0 : Int64), (0 : Int64), (0 : Int64), (0 : Int64), (0 : Int64), (0 : Int64), (0 : Int64), (0 : Int64)].map Value.long) := G17.ext E18
  have g_b18 : n0 ≤ b18 := Nat.le_trans Z10 (Nat.le_of_eq g18.symm)
  have sz_b18 : h0.size ≤ b18 := Nat.le_trans K10.1 (Nat.le_of_eq g18.symm)
  have K18 : Keep h0 h18 [a] := Keep.ext K10 E18
  have Z18 : n0 ≤ h18.size := Nat.le_trans Z0 K18.1
  have G26 : VA Z h18 b18 .boolean ([(0 : Int32), (0 : Int32), (0 : Int32), (0 : Int32), (0 : Int32), (0 : Int32), (0 : Int32), (0 : Int32)].map Value.int) := A18
  obtain ⟨T27, h27, X27, e27, W27, st27⟩ := putF X18 hx hZ hown (host := "") (Or.inl (hw _ (List.mem_of_getElem? (i := 20) rfl))) Via.refl e18 G22 G19 (Or.inl (hw _ (List.mem_of_getElem? (i := 21) rfl))) (hw _ (List.mem_of_getElem? (i := 9) rfl)) (ty := (.array .boolean)) (by decide) rfl rfl (g := (mkF m 17 #[.val (.ref a), .val (.long p1), .second] [(.ref b18), (.ref a)])) rfl rfl (hb hby d2_17)
  have G28 : Exa Z h27 a "com/example/talthybius/talthybius/AwaitedPings" := G19.wr W27
  have G29 : Fld Z h27 a "com/example/talthybius/talthybius/AwaitedPings" "timeoutNanos" "J" (.long u) := G20.other W27 (Or.inr (slot_ne (Or.inr (hw _ (List.mem_of_getElem? (i := 23) rfl))) (Or.inl (hw _ (List.mem_of_getElem? (i := 21) rfl))) (by decide) (t := .long) (t' := (.array .boolean)) (by decide) (by decide)))
  have G30 : Fld Z h27 a "com/example/talthybius/talthybius/AwaitedPings" "sentAt" "[J" (.ref b2) := G21.other W27 (Or.inr (slot_ne (Or.inl (hw _ (List.mem_of_getElem? (i := 18) rfl))) (Or.inl (hw _ (List.mem_of_getElem? (i := 21) rfl))) (by decide) (t := (.array .long)) (t' := (.array .boolean)) (by decide) (by decide)))
  have G31 : Fld Z h27 a "com/example/talthybius/talthybius/AwaitedPings" "answered" "[Z" (.ref b18) := G22.same W27
  have G32 : Fld Z h27 a "com/example/talthybius/talthybius/AwaitedPings" "oldest" "I" (.int o0) := G23.other W27 (Or.inr (slot_ne (Or.inl (hw _ (List.mem_of_getElem? (i := 40) rfl))) (Or.inl (hw _ (List.mem_of_getElem? (i := 21) rfl))) (by decide) (t := .int) (t' := (.array .boolean)) (by decide) (by decide)))
  have G33 : Fld Z h27 a "com/example/talthybius/talthybius/AwaitedPings" "count" "I" (.int k0) := G24.other W27 (Or.inr (slot_ne (Or.inl (hw _ (List.mem_of_getElem? (i := 34) rfl))) (Or.inl (hw _ (List.mem_of_getElem? (i := 21) rfl))) (by decide) (t := .int) (t' := (.array .boolean)) (by decide) (by decide)))
  have G34 : VA Z h27 b2 .long ([(0 : Int64), (0 : Int64), (0 : Int64), (0 : Int64), (0 : Int64), (0 : Int64), (0 : Int64), (0 : Int64)].map Value.long) := G25.other W27 (Ne.symm ne_a_b2)
  have G35 : VA Z h27 b18 .boolean ([(0 : Int32), (0 : Int32), (0 : Int32), (0 : Int32), (0 : Int32), (0 : Int32), (0 : Int32), (0 : Int32)].map Value.int) := G26.other W27 (Ne.symm ne_a_b18)
  have N27 := Fr.snoc X27 N10 g_a
  have K27 : Keep h0 h27 [a] := Keep.wr K18 W27 (Or.inl (List.mem_of_getElem? (i := 0) rfl))
  have Z27 : n0 ≤ h27.size := Nat.le_trans Z0 K27.1
  obtain ⟨T36, h36, X36, e36, W36, st36⟩ := putF X27 hx hZ hown (host := "") (Or.inl (hw _ (List.mem_of_getElem? (i := 22) rfl))) Via.refl e27 G29 G28 (Or.inr ⟨(hw _ (List.mem_of_getElem? (i := 23) rfl)), rfl, hnm⟩) (hw _ (List.mem_of_getElem? (i := 9) rfl)) (ty := .long) (by decide) rfl rfl (g := (mkF m 22 #[.val (.ref a), .val (.long p1), .second] [(.long p1), (.ref a)])) rfl rfl (hb hby d2_22)
  have G37 : Exa Z h36 a "com/example/talthybius/talthybius/AwaitedPings" := G28.wr W36
  have G38 : Fld Z h36 a "com/example/talthybius/talthybius/AwaitedPings" "timeoutNanos" "J" (.long p1) := G29.same W36
  have G39 : Fld Z h36 a "com/example/talthybius/talthybius/AwaitedPings" "sentAt" "[J" (.ref b2) := G30.other W36 (Or.inr (slot_ne (Or.inl (hw _ (List.mem_of_getElem? (i := 18) rfl))) (Or.inr (hw _ (List.mem_of_getElem? (i := 23) rfl))) (by decide) (t := (.array .long)) (t' := .long) (by decide) (by decide)))
  have G40 : Fld Z h36 a "com/example/talthybius/talthybius/AwaitedPings" "answered" "[Z" (.ref b18) := G31.other W36 (Or.inr (slot_ne (Or.inl (hw _ (List.mem_of_getElem? (i := 21) rfl))) (Or.inr (hw _ (List.mem_of_getElem? (i := 23) rfl))) (by decide) (t := (.array .boolean)) (t' := .long) (by decide) (by decide)))
  have G41 : Fld Z h36 a "com/example/talthybius/talthybius/AwaitedPings" "oldest" "I" (.int o0) := G32.other W36 (Or.inr (slot_ne (Or.inl (hw _ (List.mem_of_getElem? (i := 40) rfl))) (Or.inr (hw _ (List.mem_of_getElem? (i := 23) rfl))) (by decide) (t := .int) (t' := .long) (by decide) (by decide)))
  have G42 : Fld Z h36 a "com/example/talthybius/talthybius/AwaitedPings" "count" "I" (.int k0) := G33.other W36 (Or.inr (slot_ne (Or.inl (hw _ (List.mem_of_getElem? (i := 34) rfl))) (Or.inr (hw _ (List.mem_of_getElem? (i := 23) rfl))) (by decide) (t := .int) (t' := .long) (by decide) (by decide)))
  have G43 : VA Z h36 b2 .long ([(0 : Int64), (0 : Int64), (0 : Int64), (0 : Int64), (0 : Int64), (0 : Int64), (0 : Int64), (0 : Int64)].map Value.long) := G34.other W36 (Ne.symm ne_a_b2)
  have G44 : VA Z h36 b18 .boolean ([(0 : Int32), (0 : Int32), (0 : Int32), (0 : Int32), (0 : Int32), (0 : Int32), (0 : Int32), (0 : Int32)].map Value.int) := G35.other W36 (Ne.symm ne_a_b18)
  have N36 := Fr.snoc X36 N27 g_a
  have K36 : Keep h0 h36 [a] := Keep.wr K27 W36 (Or.inl (List.mem_of_getElem? (i := 0) rfl))
  have Z36 : n0 ≤ h36.size := Nat.le_trans Z0 K36.1
  refine Go.step (T' := T36) (f' := (mkF m 25 #[.val (.ref a), .val (.long p1), .second] [])) (fun t kt => ?_) ?_
  · show Steps p.tables e below (s₁.setTop (mkF m 0 #[.val (.ref a), .val (.long p1), .second] [])) _
    refine XS.aloadN X0.here hx rfl (hb hby d2_0) rfl rfl ?_
    show Steps p.tables e below (s₁.setTop (mkF m 1 #[.val (.ref a), .val (.long p1), .second] [(.ref a)])) _
    refine st1 _ ?_
    show Steps p.tables e below (T1.setTop (mkF m 4 #[.val (.ref a), .val (.long p1), .second] [])) _
    refine XS.aloadN X1.here hx rfl (hb hby d2_4) rfl rfl ?_
    show Steps p.tables e below (T1.setTop (mkF m 5 #[.val (.ref a), .val (.long p1), .second] [(.ref a)])) _
    refine XS.bipush X1.here hx rfl (hb hby d2_5) ?_
    show Steps p.tables e below (T1.setTop (mkF m 7 #[.val (.ref a), .val (.long p1), .second] [(.int (8 : Int32)), (.ref a)])) _
    refine st2 _ ?_
    show Steps p.tables e below (T2.setTop (mkF m 9 #[.val (.ref a), .val (.long p1), .second] [(.ref b2), (.ref a)])) _
    refine st10 _ ?_
    show Steps p.tables e below (T10.setTop (mkF m 12 #[.val (.ref a), .val (.long p1), .second] [])) _
    refine XS.aloadN X10.here hx rfl (hb hby d2_12) rfl rfl ?_
    show Steps p.tables e below (T10.setTop (mkF m 13 #[.val (.ref a), .val (.long p1), .second] [(.ref a)])) _
    refine XS.bipush X10.here hx rfl (hb hby d2_13) ?_
    show Steps p.tables e below (T10.setTop (mkF m 15 #[.val (.ref a), .val (.long p1), .second] [(.int (8 : Int32)), (.ref a)])) _
    refine st18 _ ?_
    show Steps p.tables e below (T18.setTop (mkF m 17 #[.val (.ref a), .val (.long p1), .second] [(.ref b18), (.ref a)])) _
    refine st27 _ ?_
    show Steps p.tables e below (T27.setTop (mkF m 20 #[.val (.ref a), .val (.long p1), .second] [])) _
    refine XS.aloadN X27.here hx rfl (hb hby d2_20) rfl rfl ?_
    show Steps p.tables e below (T27.setTop (mkF m 21 #[.val (.ref a), .val (.long p1), .second] [(.ref a)])) _
    refine XS.lloadN X27.here hx rfl (hb hby d2_21) rfl ?_
    show Steps p.tables e below (T27.setTop (mkF m 22 #[.val (.ref a), .val (.long p1), .second] [(.long p1), (.ref a)])) _
    refine st36 _ ?_
    exact kt
  refine Go.fin X36 (v := none) (fun _ => rfl) Bd.notSynchronized ?_ (Nat.le_trans (Nat.add_le_add_right (Nat.add_le_add_right (Nat.le_refl 0) 1) 1) (by decide)) (Nat.le_trans (Nat.add_le_add_right (Nat.add_le_add_right (Nat.le_refl 0) 8) 8) (by decide)) (fun fs hr => X36.returnOut hx Bd.returns (hb hby d2_25) hr)
  · show QiniA Z a p1 u o0 k0 h0 n0 _ T36.heap _
    rw [e36]
    exact ⟨b2, b18, rfl, N36, K36, sz_b2, sz_b18, ne_b2_b18, G38, G39, G40, G41, G42, G43, G44⟩
theorem d6_0 : decode prog_10_method_7_code 0 = .ok (.aload_n 0, 1) := by decide +kernel
theorem d6_1 : decode prog_10_method_7_code 1 = .ok (.getfield 40, 3) := by decide +kernel
theorem d6_4 : decode prog_10_method_7_code 4 = .ok (.iload_n 1, 1) := by decide +kernel
theorem d6_5 : decode prog_10_method_7_code 5 = .ok (.iadd, 1) := by decide +kernel
theorem d6_6 : decode prog_10_method_7_code 6 = .ok (.istore_n 2, 1) := by decide +kernel
theorem d6_7 : decode prog_10_method_7_code 7 = .ok (.iload_n 2, 1) := by decide +kernel
theorem d6_8 : decode prog_10_method_7_code 8 = .ok (.aload_n 0, 1) := by decide +kernel
theorem d6_9 : decode prog_10_method_7_code 9 = .ok (.getfield 9, 3) := by decide +kernel
theorem d6_12 : decode prog_10_method_7_code 12 = .ok (.arraylength, 1) := by decide +kernel
theorem d6_13 : decode prog_10_method_7_code 13 = .ok (.if_icmp .ge 7, 3) := by decide +kernel
theorem d6_16 : decode prog_10_method_7_code 16 = .ok (.iload_n 2, 1) := by decide +kernel
theorem d6_17 : decode prog_10_method_7_code 17 = .ok (.goto 10, 3) := by decide +kernel
theorem d6_20 : decode prog_10_method_7_code 20 = .ok (.iload_n 2, 1) := by decide +kernel
theorem d6_21 : decode prog_10_method_7_code 21 = .ok (.aload_n 0, 1) := by decide +kernel
theorem d6_22 : decode prog_10_method_7_code 22 = .ok (.getfield 9, 3) := by decide +kernel
theorem d6_25 : decode prog_10_method_7_code 25 = .ok (.arraylength, 1) := by decide +kernel
theorem d6_26 : decode prog_10_method_7_code 26 = .ok (.isub, 1) := by decide +kernel
theorem d6_27 : decode prog_10_method_7_code 27 = .ok (.ireturn, 1) := by decide +kernel
theorem ef_plaF (m : MethodId) (x0 : Addr) (x1 : Int32) : entryFrame m #[(.ref x0), (.int x1)] 3 = mkF m 0 #[.val (.ref x0), .val (.int x1), .unset] [] := by first | (simp [entryFrame, mkF, argsToLocals, Value.category]; done) | rfl
def plaF (k : Int32) (old : Int32) (sl : List Int64) : Int32 := (if (old + k) < (sl.length.toInt32) then (old + k) else ((old + k) - (sl.length.toInt32)))
def QplaF (Z : State) (a : Addr) (k : Int32) (aS : Addr) (old : Int32) (sl : List Int64) (RES : Int32) (h0 : Heap) (n0 : Nat) (v : Option Value) (h : Heap) (L : List Loc) : Prop := v = some (.int RES) ∧ Fr n0 L ∧ h = h0
set_option maxRecDepth 65536 in
set_option maxHeartbeats 40000000 in
theorem rm_plaF (l : Launch) (Z : State) (a0 : Array Value) (hw : ∀ d ∈ tables_1, d.before a0 Z = true) (ws : List Jvm.Cond) (a : Addr) (k : Int32) (aS : Addr) (old : Int32) (sl : List Int64) (h0 : Heap) (n0 : Nat) (Z0 : n0 ≤ h0.size) (F0 : Fld Z h0 a "com/example/talthybius/talthybius/AwaitedPings" "sentAt" "[J" (.ref aS)) (F1 : Fld Z h0 a "com/example/talthybius/talthybius/AwaitedPings" "oldest" "I" (.int old)) (F2 : VA Z h0 aS .long (sl.map Value.long)) :
    MetFree l (⟨"com/example/talthybius/talthybius/AwaitedPings", "placeOf", "(I)I"⟩ : MethodName) (head1 (Jvm.Cond.code (⟨"com/example/talthybius/talthybius/AwaitedPings", "placeOf", "(I)I"⟩ : MethodName) prog_10_method_7_code 3 (some .int) :: ws) ({ frames := 0, cells := 0, slots := 0, locals := 0 } : Room)) (fun A_ U => A_ = #[(.ref a), (.int k)] ∧ Z.Warmed39 U.vm ∧ U.heap = h0) (fun _ _ _ _ _ => True) (fun _ U o U' => ∃ v L, o = .returned v ∧ QplaF Z a k aS old sl (plaF k old sl) h0 n0 v U'.heap L ∧ FrameEnd U o U' L ({ frames := 0, cells := 0, slots := 0, locals := 0 } : Room).cells ({ frames := 0, cells := 0, slots := 0, locals := 0 } : Room).slots) := by
  refine MetFree.of_bodySF (plainFor_of_name pn_0) hisR ?_
  intro p e s m args below meth c s₁ Bd hml0 hP hK
  obtain ⟨rfl, hZ, hh⟩ := hP
  have hx := Bd.exec
  have hby := Bd.bytes
  have hml : c.maxLocals = 3 := hml0
  have hown : s.vm.findClass "com/example/talthybius/talthybius/AwaitedPings" = some m.cls := findClass_of_methodNamed Bd.named
  have hnm := (name_of_methodNamed Bd.named Bd.method).1
  have X0 : Stand p l e ({ frames := 0, cells := 0, slots := 0, locals := 0 } : Room) s m #[(.ref a), (.int k)] below meth c s₁ [] 0 0 := Stand.of_body Bd
  have e0 : s₁.heap = h0 := by rw [← hh, Bd.state]; rfl
  have N0 := Fr.nil n0
  obtain ⟨RES, hf⟩ : ∃ z, z = plaF k old sl := ⟨_, rfl⟩
  rw [← hf]
  rw [plaF] at hf
  suffices HGO : Go p e below s (QplaF Z a k aS old sl RES h0 n0) ({ frames := 0, cells := 0, slots := 0, locals := 0 } : Room).cells ({ frames := 0, cells := 0, slots := 0, locals := 0 } : Room).slots s₁ (mkF m 0 #[.val (.ref a), .val (.int k), .unset] []) from Go.cast (ef_plaF m a k) HGO
  obtain ⟨T1, X1, e1, st1⟩ := getF X0 hx hZ hown (host := "") (Or.inl (hw _ (List.mem_of_getElem? (i := 39) rfl))) Via.refl e0 F1 (g := (mkF m 1 #[.val (.ref a), .val (.int k), .unset] [(.ref a)])) rfl rfl (hb hby d6_1)
  obtain ⟨T2, X2, e2, st2⟩ := getF X1 hx hZ hown (host := "") (Or.inl (hw _ (List.mem_of_getElem? (i := 17) rfl))) Via.refl e1 F0 (g := (mkF m 9 #[.val (.ref a), .val (.int k), .val (.int (old + k))] [(.ref a), (.int (old + k))])) rfl rfl (hb hby d6_9)
  have ln3 : ((sl.map Value.long).length : Int) = ((sl.length.toInt32)).toInt := (by have q := F2.len; rw [List.length_map] at q; rw [len_toInt q, List.length_map])
  refine Go.step (T' := T2) (f' := (mkF m 13 #[.val (.ref a), .val (.int k), .val (.int (old + k))] [(.int (sl.length.toInt32)), (.int (old + k))])) (fun t kt => ?_) ?_
  · show Steps p.tables e below (s₁.setTop (mkF m 0 #[.val (.ref a), .val (.int k), .unset] [])) _
    refine XS.aloadN X0.here hx rfl (hb hby d6_0) rfl rfl ?_
    show Steps p.tables e below (s₁.setTop (mkF m 1 #[.val (.ref a), .val (.int k), .unset] [(.ref a)])) _
    refine st1 _ ?_
    show Steps p.tables e below (T1.setTop (mkF m 4 #[.val (.ref a), .val (.int k), .unset] [(.int old)])) _
    refine XS.iloadN X1.here hx rfl (hb hby d6_4) rfl ?_
    show Steps p.tables e below (T1.setTop (mkF m 5 #[.val (.ref a), .val (.int k), .unset] [(.int k), (.int old)])) _
    refine XS.iadd X1.here hx rfl (hb hby d6_5) rfl ?_
    show Steps p.tables e below (T1.setTop (mkF m 6 #[.val (.ref a), .val (.int k), .unset] [(.int (old + k))])) _
    refine XS.istoreN X1.here hx rfl (hb hby d6_6) rfl (l' := #[.val (.ref a), .val (.int k), .val (.int (old + k))]) rfl ?_
    show Steps p.tables e below (T1.setTop (mkF m 7 #[.val (.ref a), .val (.int k), .val (.int (old + k))] [])) _
    refine XS.iloadN X1.here hx rfl (hb hby d6_7) rfl ?_
    show Steps p.tables e below (T1.setTop (mkF m 8 #[.val (.ref a), .val (.int k), .val (.int (old + k))] [(.int (old + k))])) _
    refine XS.aloadN X1.here hx rfl (hb hby d6_8) rfl rfl ?_
    show Steps p.tables e below (T1.setTop (mkF m 9 #[.val (.ref a), .val (.int k), .val (.int (old + k))] [(.ref a), (.int (old + k))])) _
    refine st2 _ ?_
    show Steps p.tables e below (T2.setTop (mkF m 12 #[.val (.ref a), .val (.int k), .val (.int (old + k))] [(.ref aS), (.int (old + k))])) _
    refine lenA X2 hx hZ e2 F2 (n := (sl.length.toInt32)) ln3 (g := (mkF m 12 #[.val (.ref a), .val (.int k), .val (.int (old + k))] [(.ref aS), (.int (old + k))])) rfl rfl (hb hby d6_12) _ ?_
    exact kt
  by_cases hc4 : (old + k) < (sl.length.toInt32)
  · rw [if_pos hc4] at hf
    refine Go.step (T' := T2) (f' := (mkF m 16 #[.val (.ref a), .val (.int k), .val (.int (old + k))] [])) (fun t kt => ?_) ?_
    · show Steps p.tables e below (T2.setTop (mkF m 13 #[.val (.ref a), .val (.int k), .val (.int (old + k))] [(.int (sl.length.toInt32)), (.int (old + k))])) _
      refine XS.icmpNo X2.here hx rfl (hb hby d6_13) rfl (tlt hc4).2.1 ?_
      exact kt
    refine Go.step (T' := T2) (f' := (mkF m 27 #[.val (.ref a), .val (.int k), .val (.int (old + k))] [(.int (old + k))])) (fun t kt => ?_) ?_
    · show Steps p.tables e below (T2.setTop (mkF m 16 #[.val (.ref a), .val (.int k), .val (.int (old + k))] [])) _
      refine XS.iloadN X2.here hx rfl (hb hby d6_16) rfl ?_
      show Steps p.tables e below (T2.setTop (mkF m 17 #[.val (.ref a), .val (.int k), .val (.int (old + k))] [(.int (old + k))])) _
      refine XS.goto X2.here hx rfl (pc0 := 17) (pc' := 27) rfl (hb hby d6_17) (by decide) (by decide) ?_
      exact kt
    refine Go.fin X2 (v := some (.int (old + k))) (fun h => by rw [Bd.returns] at h; cases h) Bd.notSynchronized ?_ (Nat.le_trans (Nat.le_refl 0) (by decide)) (Nat.le_trans (Nat.le_refl 0) (by decide)) (fun fs hr => retI X2 hx Bd.returns (hb hby d6_27) hr)
    · exact ⟨by rw [hf], N0, e2⟩
  · rw [if_neg hc4] at hf
    refine Go.step (T' := T2) (f' := (mkF m 20 #[.val (.ref a), .val (.int k), .val (.int (old + k))] [])) (fun t kt => ?_) ?_
    · show Steps p.tables e below (T2.setTop (mkF m 13 #[.val (.ref a), .val (.int k), .val (.int (old + k))] [(.int (sl.length.toInt32)), (.int (old + k))])) _
      refine XS.icmpYes X2.here hx rfl (pc0 := 13) (pc' := 20) rfl (hb hby d6_13) rfl (flt hc4).2.1 (by decide) (by decide) ?_
      exact kt
    obtain ⟨T5, X5, e5, st5⟩ := getF X2 hx hZ hown (host := "") (Or.inl (hw _ (List.mem_of_getElem? (i := 17) rfl))) Via.refl e2 F0 (g := (mkF m 22 #[.val (.ref a), .val (.int k), .val (.int (old + k))] [(.ref a), (.int (old + k))])) rfl rfl (hb hby d6_22)
    have ln6 : ((sl.map Value.long).length : Int) = ((sl.length.toInt32)).toInt := (by have q := F2.len; rw [List.length_map] at q; rw [len_toInt q, List.length_map])
    refine Go.step (T' := T5) (f' := (mkF m 27 #[.val (.ref a), .val (.int k), .val (.int (old + k))] [(.int ((old + k) - (sl.length.toInt32)))])) (fun t kt => ?_) ?_
    · show Steps p.tables e below (T2.setTop (mkF m 20 #[.val (.ref a), .val (.int k), .val (.int (old + k))] [])) _
      refine XS.iloadN X2.here hx rfl (hb hby d6_20) rfl ?_
      show Steps p.tables e below (T2.setTop (mkF m 21 #[.val (.ref a), .val (.int k), .val (.int (old + k))] [(.int (old + k))])) _
      refine XS.aloadN X2.here hx rfl (hb hby d6_21) rfl rfl ?_
      show Steps p.tables e below (T2.setTop (mkF m 22 #[.val (.ref a), .val (.int k), .val (.int (old + k))] [(.ref a), (.int (old + k))])) _
      refine st5 _ ?_
      show Steps p.tables e below (T5.setTop (mkF m 25 #[.val (.ref a), .val (.int k), .val (.int (old + k))] [(.ref aS), (.int (old + k))])) _
      refine lenA X5 hx hZ e5 F2 (n := (sl.length.toInt32)) ln6 (g := (mkF m 25 #[.val (.ref a), .val (.int k), .val (.int (old + k))] [(.ref aS), (.int (old + k))])) rfl rfl (hb hby d6_25) _ ?_
      show Steps p.tables e below (T5.setTop (mkF m 26 #[.val (.ref a), .val (.int k), .val (.int (old + k))] [(.int (sl.length.toInt32)), (.int (old + k))])) _
      refine XS.isub X5.here hx rfl (hb hby d6_26) rfl ?_
      exact kt
    refine Go.fin X5 (v := some (.int ((old + k) - (sl.length.toInt32)))) (fun h => by rw [Bd.returns] at h; cases h) Bd.notSynchronized ?_ (Nat.le_trans (Nat.le_refl 0) (by decide)) (Nat.le_trans (Nat.le_refl 0) (by decide)) (fun fs hr => retI X5 hx Bd.returns (hb hby d6_27) hr)
    · exact ⟨by rw [hf], N0, e5⟩
def own_AP (N : Nat) (sl : List Int64) (al : List Int32) (old cnt : Int32) (q : List (Int64 × Int32)) : Prop :=
  sl.length = N ∧ al.length = N ∧ (N = 8 ∨ N = 16) ∧ 0 ≤ old.toInt ∧ old.toInt < N ∧ cnt.toInt = q.length ∧ q.length ≤ N ∧ (∀ e ∈ q, e.2 = (0 : Int32) ∨ e.2 = (1 : Int32)) ∧
  ∀ (i : Nat) (h : i < q.length), sl.getD ((old.toInt.toNat + i) % N) 0 = (q[i]).1 ∧ al.getD ((old.toInt.toNat + i) % N) 0 = (q[i]).2
def own_dr (now tmo : Int64) (q : List (Int64 × Int32)) : List (Int64 × Int32) := q.dropWhile (fun e => decide (tmo < now - e.1))
def own_srt (q : List (Int64 × Int32)) : Prop := ∀ (i j : Nat) (h : i < j) (hj : j < q.length), (q[i]).1.toInt < (q[j]).1.toInt
def own_mk (ec : Int64) (q : List (Int64 × Int32)) : List (Int64 × Int32) := q.map (fun e => if e.1 = ec then (e.1, (1 : Int32)) else e)
def own_an (ec : Int64) (q : List (Int64 × Int32)) : Int32 := if q.any (fun e => decide (e.1 = ec) && decide (e.2 = (0 : Int32))) then 1 else 0
def own_FR (q : List (Int64 × Int32)) (tm : Int64) (r : Int32) : Prop := (r = -1 ∧ ∀ (i : Nat) (h : i < q.length), (q[i]).1 ≠ tm) ∨ (0 ≤ r.toInt ∧ ∃ h : r.toInt.toNat < q.length, (q[r.toInt.toNat]).1 = tm)
def own_FD (q : List (Int64 × Int32)) (tm : Int64) (x3 x4 x5 : Int32) : Prop :=
  (x5 = -1 ∧ 0 ≤ x3.toInt ∧ x4.toInt < q.length ∧ x3.toInt ≤ x4.toInt + 1 ∧ (∀ (i : Nat) (h : i < q.length), (i : Int) < x3.toInt → (q[i]).1.toInt < tm.toInt) ∧ (∀ (i : Nat) (h : i < q.length), x4.toInt < (i : Int) → tm.toInt < (q[i]).1.toInt)) ∨
  (0 ≤ x5.toInt ∧ ∃ h : x5.toInt.toNat < q.length, (q[x5.toInt.toNat]).1 = tm)
def own_FM (x3 x4 x5 : Int32) : Nat := if x5 = -1 then (x4.toInt - x3.toInt + 1).toNat + 1 else 0
def own_GI (q : List (Int64 × Int32)) (x3 : Int32) (m1 : List Int64) (m2 : List Int32) : Prop := 0 ≤ x3.toInt ∧ x3.toInt ≤ 8 ∧ m1.length = 16 ∧ m2.length = 16 ∧ ∀ (i : Nat) (h : i < q.length), (i : Int) < x3.toInt → m1.getD i 0 = (q[i]).1 ∧ m2.getD i 0 = (q[i]).2
theorem own_cl {j : Int32} (h0 : 0 ≤ j.toInt) : j.toNatClampNeg = j.toInt.toNat := by have := own_nat h0; omega
theorem own_pl {N : Nat} {sl : List Int64} {al : List Int32} {old cnt : Int32} {q : List (Int64 × Int32)} (h : own_AP N sl al old cnt q) {k : Int32} (h0 : 0 ≤ k.toInt) (h1 : k.toInt ≤ N) : (plaF k old sl).toInt = (((old.toInt.toNat + k.toInt.toNat) % N : Nat) : Int) ∧ (plaF k old sl).toNatClampNeg = (old.toInt.toNat + k.toInt.toNat) % N := by
  obtain ⟨l1, l2, hN, o0, o1, -⟩ := h
  have e : (old + k).toInt = old.toInt + k.toInt := own_add (by omega) (by omega)
  have el : sl.length.toInt32.toInt = N := by rw [len_toInt (by omega), l1]
  have key : (plaF k old sl).toInt = (((old.toInt.toNat + k.toInt.toNat) % N : Nat) : Int) := by
    unfold plaF
    split
    · rename_i hlt
      rw [Int32.lt_iff_toInt_lt, e, el] at hlt
      rw [e]
      rcases hN with rfl | rfl <;> omega
    · rename_i hlt
      rw [Int32.lt_iff_toInt_lt, e, el] at hlt
      rw [own_sub (by omega) (by omega), e, el]
      rcases hN with rfl | rfl <;> omega
  refine ⟨key, ?_⟩
  rw [own_cl (by rw [key]; omega), key]; omega
theorem own_f0 {N : Nat} {sl : List Int64} {al : List Int32} {old cnt : Int32} {q : List (Int64 × Int32)} (h : own_AP N sl al old cnt q) : 0 ≤ old.toInt ∧ old.toInt < (sl.length : Int) := by
  obtain ⟨l1, l2, hN, o0, o1, -⟩ := h
  omega
theorem own_hd {N : Nat} {sl : List Int64} {al : List Int32} {old cnt : Int32} {e : Int64 × Int32} {q : List (Int64 × Int32)} (h : own_AP N sl al old cnt (e :: q)) : sl.getD old.toNatClampNeg (0 : Int64) = e.1 := by
  obtain ⟨l1, l2, hN, o0, o1, -, -, -, H⟩ := h
  have := (H 0 (by simp)).1
  rw [own_cl o0]
  rw [Nat.add_zero, Nat.mod_eq_of_lt (by omega)] at this
  exact this
theorem own_f1 {N : Nat} {sl : List Int64} {al : List Int32} {o1 c1 : Int32} {q1 : List (Int64 × Int32)} {now tmo : Int64} (h : own_AP N sl al o1 c1 q1) (h1 : (0 : Int32) < c1) (h2 : tmo < (now - (sl.getD o1.toNatClampNeg (0 : Int64)))) :
    q1.tail.length < q1.length ∧ own_AP N sl al (plaF (1 : Int32) o1 sl) (c1 - (1 : Int32)) q1.tail ∧ own_dr now tmo q1.tail = own_dr now tmo q1 := by
  have k0 : (0 : Int32).toInt = 0 := rfl
  have k1 : (1 : Int32).toInt = 1 := rfl
  rw [Int32.lt_iff_toInt_lt, k0] at h1
  have rc := rng32 c1
  match q1, h with
  | [], h => obtain ⟨-, -, -, -, -, c, -⟩ := h; simp at c; omega
  | e :: t, h =>
    have hd := own_hd h
    have hp := own_pl h (k := 1) (by decide) (by obtain ⟨-, -, hN, -⟩ := h; rw [k1]; omega)
    obtain ⟨l1, l2, hN, a0, a1, c, ql, B, H⟩ := h
    rw [k1] at hp
    simp only [List.length_cons] at c ql
    refine ⟨by simp, ⟨l1, l2, hN, by rw [hp.1]; omega, by rw [hp.1]; have := Nat.mod_lt (o1.toInt.toNat + Int.toNat 1) (show 0 < N by omega); omega, ?_, by simp; omega, fun x hx => B x (List.mem_cons_of_mem _ hx), ?_⟩, ?_⟩
    · rw [own_sub (by omega) (by omega), k1, c]; simp
    · intro i hi
      have := H (i + 1) (by simp at hi ⊢; omega)
      rw [hp.1]
      simp only [List.tail_cons, List.getElem_cons_succ] at this ⊢
      have e1 : ((((o1.toInt.toNat + Int.toNat 1) % N : Nat) : Int).toNat + i) % N = (o1.toInt.toNat + (i + 1)) % N := by
        rcases hN with rfl | rfl <;> omega
      rw [e1]; exact this
    · unfold own_dr
      rw [List.tail_cons, List.dropWhile_cons, if_pos (by rw [hd] at h2; exact decide_eq_true h2)]
theorem own_f2 {N : Nat} {sl : List Int64} {al : List Int32} {o1 c1 : Int32} {q1 : List (Int64 × Int32)} {now tmo : Int64} (h : own_AP N sl al o1 c1 q1) (h1 : ¬ ((0 : Int32) < c1)) : own_AP N sl al o1 c1 (own_dr now tmo q1) := by
  have k0 : (0 : Int32).toInt = 0 := rfl
  rw [Int32.lt_iff_toInt_lt, k0] at h1
  match q1, h with
  | [], h => exact h
  | e :: t, h => obtain ⟨-, -, -, -, -, c, -⟩ := h; simp at c; omega
theorem own_f3 {N : Nat} {sl : List Int64} {al : List Int32} {o1 c1 : Int32} {q1 : List (Int64 × Int32)} {now tmo : Int64} (h : own_AP N sl al o1 c1 q1) (h1 : (0 : Int32) < c1) (h2 : ¬ (tmo < (now - (sl.getD o1.toNatClampNeg (0 : Int64))))) : own_AP N sl al o1 c1 (own_dr now tmo q1) := by
  match q1, h with
  | [], h => exact h
  | e :: t, h =>
    have hd := own_hd h
    have : own_dr now tmo (e :: t) = e :: t := by
      unfold own_dr
      rw [List.dropWhile_cons, if_neg (by rw [hd] at h2; simpa using h2)]
    rw [this]; exact h
theorem own_d0 {N : Nat} {sl : List Int64} {al : List Int32} {old cnt : Int32} {q : List (Int64 × Int32)} {tm : Int64} (h : own_AP N sl al old cnt q) : own_FD q tm (0 : Int32) (cnt - (1 : Int32)) (-1 : Int32) := by
  obtain ⟨l1, l2, hN, a0, a1, c, ql, B, H⟩ := h
  have k0 : (0 : Int32).toInt = 0 := rfl
  have k1 : (1 : Int32).toInt = 1 := rfl
  have e : (cnt - (1 : Int32)).toInt = q.length - 1 := by rw [own_sub (by omega) (by omega), k1, c]
  exact Or.inl ⟨rfl, by decide, by omega, by omega, fun i hi h => by omega, fun i hi h => by omega⟩
theorem own_mid {x3 x4 : Int32} (h0 : 0 ≤ x3.toInt) (h1 : x3.toInt ≤ x4.toInt) (h2 : x4.toInt < 17) : (((x3 + x4).toUInt32 >>> ((1 : Int32) &&& 31).toUInt32).toInt32).toInt = (x3.toInt + x4.toInt) / 2 := by
  have e : (x3 + x4).toInt = x3.toInt + x4.toInt := own_add (by omega) (by omega)
  have q := c_iushr (x3 + x4) 1 1 (by decide) (by decide)
  rw [q, e]; omega
theorem own_FDl {q : List (Int64 × Int32)} {tm : Int64} {x3 x4 x5 : Int32} (hi : own_FD q tm x3 x4 x5) (h5 : x5 < (0 : Int32)) : x5 = -1 ∧ 0 ≤ x3.toInt ∧ x4.toInt < q.length ∧ x3.toInt ≤ x4.toInt + 1 ∧ (∀ (i : Nat) (h : i < q.length), (i : Int) < x3.toInt → (q[i]).1.toInt < tm.toInt) ∧ (∀ (i : Nat) (h : i < q.length), x4.toInt < (i : Int) → tm.toInt < (q[i]).1.toInt) := by
  rcases hi with hi | hi
  · exact hi
  · rw [Int32.lt_iff_toInt_lt] at h5
    have k0 : (0 : Int32).toInt = 0 := rfl
    omega
theorem own_at {N : Nat} {sl : List Int64} {al : List Int32} {old cnt : Int32} {q : List (Int64 × Int32)} (h : own_AP N sl al old cnt q) {k : Int32} (h0 : 0 ≤ k.toInt) (h1 : k.toInt.toNat < q.length) : sl.getD (plaF k old sl).toNatClampNeg (0 : Int64) = (q[k.toInt.toNat]).1 ∧ al.getD (plaF k old sl).toNatClampNeg (0 : Int32) = (q[k.toInt.toNat]).2 := by
  have ql : q.length ≤ N := by obtain ⟨-, -, -, -, -, -, ql, -⟩ := h; exact ql
  have hp := own_pl h h0 (by omega)
  obtain ⟨l1, l2, hN, a0, a1, c, ql, B, H⟩ := h
  rw [hp.2]
  exact H _ h1
theorem own_ib {N : Nat} {sl : List Int64} {al : List Int32} {old cnt : Int32} {q : List (Int64 × Int32)} (h : own_AP N sl al old cnt q) {k : Int32} (h0 : 0 ≤ k.toInt) (h1 : k.toInt ≤ N) : (0 ≤ (plaF k old sl).toInt ∧ (plaF k old sl).toInt < (sl.length : Int)) ∧ (0 ≤ (plaF k old sl).toInt ∧ (plaF k old sl).toInt < (al.length : Int)) := by
  have hp := own_pl h h0 h1
  obtain ⟨l1, l2, hN, -⟩ := h
  have := Nat.mod_lt (old.toInt.toNat + k.toInt.toNat) (show 0 < N by omega)
  rw [hp.1, l1, l2]; omega
theorem own_dI {N : Nat} {sl : List Int64} {al : List Int32} {old cnt : Int32} {q : List (Int64 × Int32)} {tm : Int64} {x3 x4 x5 : Int32} (h : own_AP N sl al old cnt q) (hi : own_FD q tm x3 x4 x5) (h5 : x5 < (0 : Int32)) (h34 : ¬ x4 < x3) : 0 ≤ (plaF (((x3 + x4).toUInt32 >>> ((1 : Int32) &&& 31).toUInt32).toInt32) old sl).toInt ∧ (plaF (((x3 + x4).toUInt32 >>> ((1 : Int32) &&& 31).toUInt32).toInt32) old sl).toInt < (sl.length : Int) := by
  have hd := own_FDl hi h5
  rw [Int32.lt_iff_toInt_lt] at h34
  have ql : q.length ≤ N ∧ (N = 8 ∨ N = 16) := by obtain ⟨-, -, hN, -, -, -, ql, -⟩ := h; exact ⟨ql, hN⟩
  have m := own_mid (x3 := x3) (x4 := x4) hd.2.1 (by omega) (by omega)
  exact (own_ib h (by rw [m]; omega) (by rw [m]; omega)).1
theorem own_midV {N : Nat} {sl : List Int64} {al : List Int32} {old cnt : Int32} {q : List (Int64 × Int32)} {tm : Int64} {x3 x4 x5 : Int32} (h : own_AP N sl al old cnt q) (hi : own_FD q tm x3 x4 x5) (h5 : x5 < (0 : Int32)) (h34 : ¬ x4 < x3) : ∃ (m : Nat) (hm : m < q.length), m < 16 ∧ (((x3 + x4).toUInt32 >>> ((1 : Int32) &&& 31).toUInt32).toInt32).toInt = m ∧ x3.toInt ≤ m ∧ m ≤ x4.toInt ∧ sl.getD (plaF (((x3 + x4).toUInt32 >>> ((1 : Int32) &&& 31).toUInt32).toInt32) old sl).toNatClampNeg (0 : Int64) = (q[m]).1 := by
  have hd := own_FDl hi h5
  rw [Int32.lt_iff_toInt_lt] at h34
  have ql : q.length ≤ N ∧ (N = 8 ∨ N = 16) := by obtain ⟨-, -, hN, -, -, -, ql, -⟩ := h; exact ⟨ql, hN⟩
  have m := own_mid (x3 := x3) (x4 := x4) hd.2.1 (by omega) (by omega)
  have a := (own_at h (k := (((x3 + x4).toUInt32 >>> ((1 : Int32) &&& 31).toUInt32).toInt32)) (by rw [m]; omega) (by rw [m]; omega)).1
  refine ⟨((((x3 + x4).toUInt32 >>> ((1 : Int32) &&& 31).toUInt32).toInt32).toInt).toNat, by rw [m]; omega, by rw [m]; omega, by rw [m]; omega, by rw [m]; omega, by rw [m]; omega, a⟩
theorem own_dL {N : Nat} {sl : List Int64} {al : List Int32} {old cnt : Int32} {q : List (Int64 × Int32)} {tm : Int64} {x3 x4 x5 : Int32} (h : own_AP N sl al old cnt q) (hS : own_srt q) (hi : own_FD q tm x3 x4 x5) (h5 : x5 < (0 : Int32)) (h34 : ¬ x4 < x3) (hc : (sl.getD (plaF (((x3 + x4).toUInt32 >>> ((1 : Int32) &&& 31).toUInt32).toInt32) old sl).toNatClampNeg (0 : Int64)) < tm) :
    own_FM ((((x3 + x4).toUInt32 >>> ((1 : Int32) &&& 31).toUInt32).toInt32) + (1 : Int32)) x4 x5 < own_FM x3 x4 x5 ∧ own_FD q tm ((((x3 + x4).toUInt32 >>> ((1 : Int32) &&& 31).toUInt32).toInt32) + (1 : Int32)) x4 x5 := by
  obtain ⟨m, hm, m16, e1, e2, e3, e4⟩ := own_midV h hi h5 h34
  have hd := own_FDl hi h5
  have r4 := rng32 x4
  have k1 : (1 : Int32).toInt = 1 := rfl
  have ea : ((((x3 + x4).toUInt32 >>> ((1 : Int32) &&& 31).toUInt32).toInt32) + (1 : Int32)).toInt = m + 1 := by rw [own_add (by omega) (by omega), e1, k1]
  rw [e4, Int64.lt_iff_toInt_lt] at hc
  refine ⟨?_, Or.inl ⟨hd.1, by omega, hd.2.2.1, by omega, fun i hi' hlt => ?_, hd.2.2.2.2.2⟩⟩
  · unfold own_FM; rw [if_pos hd.1, if_pos hd.1, ea]; omega
  · by_cases g : i = m
    · subst g; exact hc
    · have := hS i m (by omega) hm; omega
theorem own_dH {N : Nat} {sl : List Int64} {al : List Int32} {old cnt : Int32} {q : List (Int64 × Int32)} {tm : Int64} {x3 x4 x5 : Int32} (h : own_AP N sl al old cnt q) (hS : own_srt q) (hi : own_FD q tm x3 x4 x5) (h5 : x5 < (0 : Int32)) (h34 : ¬ x4 < x3) (hc : tm < (sl.getD (plaF (((x3 + x4).toUInt32 >>> ((1 : Int32) &&& 31).toUInt32).toInt32) old sl).toNatClampNeg (0 : Int64))) :
    own_FM x3 ((((x3 + x4).toUInt32 >>> ((1 : Int32) &&& 31).toUInt32).toInt32) - (1 : Int32)) x5 < own_FM x3 x4 x5 ∧ own_FD q tm x3 ((((x3 + x4).toUInt32 >>> ((1 : Int32) &&& 31).toUInt32).toInt32) - (1 : Int32)) x5 := by
  obtain ⟨m, hm, m16, e1, e2, e3, e4⟩ := own_midV h hi h5 h34
  have hd := own_FDl hi h5
  have r4 := rng32 x4
  have k1 : (1 : Int32).toInt = 1 := rfl
  have ea : ((((x3 + x4).toUInt32 >>> ((1 : Int32) &&& 31).toUInt32).toInt32) - (1 : Int32)).toInt = m - 1 := by rw [own_sub (by omega) (by omega), e1, k1]
  rw [e4, Int64.lt_iff_toInt_lt] at hc
  refine ⟨?_, Or.inl ⟨hd.1, hd.2.1, by omega, by omega, hd.2.2.2.2.1, fun i hi' hlt => ?_⟩⟩
  · unfold own_FM; rw [if_pos hd.1, if_pos hd.1, ea]; omega
  · by_cases g : i = m
    · subst g; exact hc
    · have := hS m i (by omega) hi'; omega
theorem own_dE {N : Nat} {sl : List Int64} {al : List Int32} {old cnt : Int32} {q : List (Int64 × Int32)} {tm : Int64} {x3 x4 x5 : Int32} (h : own_AP N sl al old cnt q) (hS : own_srt q) (hi : own_FD q tm x3 x4 x5) (h5 : x5 < (0 : Int32)) (h34 : ¬ x4 < x3) (hc : ¬ (sl.getD (plaF (((x3 + x4).toUInt32 >>> ((1 : Int32) &&& 31).toUInt32).toInt32) old sl).toNatClampNeg (0 : Int64)) < tm) (hc2 : ¬ tm < (sl.getD (plaF (((x3 + x4).toUInt32 >>> ((1 : Int32) &&& 31).toUInt32).toInt32) old sl).toNatClampNeg (0 : Int64))) :
    own_FM x3 x4 (((x3 + x4).toUInt32 >>> ((1 : Int32) &&& 31).toUInt32).toInt32) < own_FM x3 x4 x5 ∧ own_FD q tm x3 x4 (((x3 + x4).toUInt32 >>> ((1 : Int32) &&& 31).toUInt32).toInt32) := by
  obtain ⟨m, hm, m16, e1, e2, e3, e4⟩ := own_midV h hi h5 h34
  have hd := own_FDl hi h5
  rw [e4, Int64.lt_iff_toInt_lt] at hc hc2
  have km : (-1 : Int32).toInt = -1 := by decide
  refine ⟨?_, Or.inr ⟨by omega, ?_⟩⟩
  · unfold own_FM
    rw [if_pos hd.1, if_neg (fun q => by rw [q] at e1; omega)]
    exact Nat.succ_pos _
  · have e5 : ((((x3 + x4).toUInt32 >>> ((1 : Int32) &&& 31).toUInt32).toInt32).toInt).toNat = m := by omega
    refine ⟨by omega, ?_⟩
    simp only [e5]
    exact Int64.toInt_inj.mp (by omega)
theorem own_dR {N : Nat} {sl : List Int64} {al : List Int32} {old cnt : Int32} {q : List (Int64 × Int32)} {tm : Int64} {x3 x4 x5 : Int32} (h : own_AP N sl al old cnt q) (hi : own_FD q tm x3 x4 x5) (hc : ¬ x5 < (0 : Int32) ∨ x4 < x3) : own_FR q tm x5 := by
  rcases hi with hi | hi
  · refine Or.inl ⟨hi.1, fun i hl e => ?_⟩
    rcases hc with hc | hc
    · exact hc (by rw [hi.1]; decide)
    · rw [Int32.lt_iff_toInt_lt] at hc
      obtain ⟨-, h1, h2, h3, h4, h5⟩ := hi
      by_cases g : (i : Int) < x3.toInt
      · have := h4 i hl g; rw [e] at this; omega
      · have := h5 i hl (by omega); rw [e] at this; omega
  · exact Or.inr hi
theorem own_dsub {now tmo : Int64} {q : List (Int64 × Int32)} : own_dr now tmo q = q.drop (q.length - (own_dr now tmo q).length) := by
  unfold own_dr
  have := List.dropWhile_suffix (fun e : Int64 × Int32 => decide (tmo < now - e.1)) (l := q)
  exact (List.suffix_iff_eq_drop.mp this)
theorem own_sdr {now tmo : Int64} {q : List (Int64 × Int32)} (h : own_srt q) : own_srt (own_dr now tmo q) := by
  rw [own_dsub]
  generalize q.length - (own_dr now tmo q).length = d
  intro i j hij hj
  rw [List.length_drop] at hj
  rw [List.getElem_drop, List.getElem_drop]
  exact h _ _ (by omega) _
theorem own_aI {N : Nat} {sl : List Int64} {al : List Int32} {old cnt : Int32} {q : List (Int64 × Int32)} {ec : Int64} {r : Int32} (h : own_AP N sl al old cnt q) (hR : own_FR q ec r) (hr : ¬ r < (0 : Int32)) : 0 ≤ (plaF r old sl).toInt ∧ (plaF r old sl).toInt < (al.length : Int) := by
  have ql : q.length ≤ N := by obtain ⟨-, -, -, -, -, -, ql, -⟩ := h; exact ql
  rcases hR with ⟨e, -⟩ | ⟨r0, r1, -⟩
  · exact absurd (by rw [e]; decide) hr
  · exact (own_ib h r0 (by omega)).2
theorem own_mk_id {ec : Int64} {q : List (Int64 × Int32)} (h : ∀ (i : Nat) (hi : i < q.length), (q[i]).1 = ec → (q[i]).2 = (1 : Int32)) : own_mk ec q = q := by
  apply List.ext_getElem
  · simp [own_mk]
  · intro i h1 h2
    simp only [own_mk, List.getElem_map]
    split
    · rename_i e
      have := h i h2 e
      exact Prod.ext rfl this.symm
    · rfl
theorem own_a1 {N : Nat} {sl : List Int64} {al : List Int32} {old cnt : Int32} {q : List (Int64 × Int32)} {ec : Int64} {r : Int32} (h : own_AP N sl al old cnt q) (hR : own_FR q ec r) (hr : r < (0 : Int32)) : own_AP N sl al old cnt (own_mk ec q) ∧ (0 : Int32) = own_an ec q := by
  rcases hR with ⟨-, hn⟩ | ⟨r0, -⟩
  · refine ⟨by rw [own_mk_id (fun i hi e => absurd e (hn i hi))]; exact h, ?_⟩
    unfold own_an
    rw [if_neg]
    intro hx
    obtain ⟨x, hx1, hx2⟩ := List.any_eq_true.mp hx
    obtain ⟨i, hi, rfl⟩ := List.getElem_of_mem hx1
    simp only [Bool.and_eq_true, decide_eq_true_eq] at hx2
    exact hn i hi hx2.1
  · rw [Int32.lt_iff_toInt_lt] at hr
    have k0 : (0 : Int32).toInt = 0 := rfl
    omega
theorem own_uniq {q : List (Int64 × Int32)} (hS : own_srt q) {i j : Nat} (hi : i < q.length) (hj : j < q.length) (e : (q[i]).1 = (q[j]).1) : i = j := by
  rcases Nat.lt_trichotomy i j with g | g | g
  · have := hS i j g hj; rw [e] at this; omega
  · exact g
  · have := hS j i g hi; rw [e] at this; omega
theorem own_a2 {N : Nat} {sl : List Int64} {al : List Int32} {old cnt : Int32} {q : List (Int64 × Int32)} {ec : Int64} {r : Int32} (hS : own_srt q) (h : own_AP N sl al old cnt q) (hR : own_FR q ec r) (hr : ¬ r < (0 : Int32)) (hv : ¬ (al.getD (plaF r old sl).toNatClampNeg (0 : Int32)) = (0 : Int32)) : own_AP N sl al old cnt (own_mk ec q) ∧ (0 : Int32) = own_an ec q := by
  rcases hR with ⟨e, -⟩ | ⟨r0, r1, re⟩
  · exact absurd (by rw [e]; decide) hr
  · have ha := (own_at h r0 r1).2
    rw [ha] at hv
    have B : ∀ e ∈ q, e.2 = (0 : Int32) ∨ e.2 = (1 : Int32) := by obtain ⟨-, -, -, -, -, -, -, B, -⟩ := h; exact B
    have h1 : (q[r.toInt.toNat]).2 = (1 : Int32) := (B _ (List.getElem_mem _)).resolve_left hv
    have hall : ∀ (i : Nat) (hi : i < q.length), (q[i]).1 = ec → (q[i]).2 = (1 : Int32) := fun i hi e => by
      have := own_uniq hS hi r1 (e.trans re.symm)
      subst this; exact h1
    refine ⟨by rw [own_mk_id hall]; exact h, ?_⟩
    unfold own_an
    rw [if_neg]
    intro hx
    obtain ⟨x, hx1, hx2⟩ := List.any_eq_true.mp hx
    obtain ⟨i, hi, rfl⟩ := List.getElem_of_mem hx1
    simp only [Bool.and_eq_true, decide_eq_true_eq] at hx2
    have := hall i hi hx2.1
    rw [hx2.2] at this
    exact absurd this (by decide)
theorem own_a3 {N : Nat} {sl : List Int64} {al : List Int32} {old cnt : Int32} {q : List (Int64 × Int32)} {ec : Int64} {r : Int32} (hS : own_srt q) (h : own_AP N sl al old cnt q) (hR : own_FR q ec r) (hr : ¬ r < (0 : Int32)) (hv : (al.getD (plaF r old sl).toNatClampNeg (0 : Int32)) = (0 : Int32)) : own_AP N sl (al.set (plaF r old sl).toNatClampNeg (1 : Int32)) old cnt (own_mk ec q) ∧ (1 : Int32) = own_an ec q := by
  rcases hR with ⟨e, -⟩ | ⟨r0, r1, re⟩
  · exact absurd (by rw [e]; decide) hr
  · have ha := (own_at h r0 r1).2
    have ql : q.length ≤ N := by obtain ⟨-, -, -, -, -, -, ql, -⟩ := h; exact ql
    have hp := own_pl h r0 (by omega)
    rw [hv] at ha
    obtain ⟨l1, l2, hN, a0, a1, c, ql, B, H⟩ := h
    refine ⟨⟨l1, by rw [List.length_set]; exact l2, hN, a0, a1, by simpa [own_mk] using c, by simpa [own_mk] using ql, ?_, ?_⟩, ?_⟩
    · intro e he
      simp only [own_mk, List.mem_map] at he
      obtain ⟨x, hx, rfl⟩ := he
      split
      · exact Or.inr rfl
      · exact B x hx
    · intro i hi
      simp only [own_mk, List.length_map] at hi
      have hh := H i hi
      simp only [own_mk, List.getElem_map]
      rw [hp.2]
      by_cases g : i = r.toInt.toNat
      · subst g
        rw [if_pos re]
        refine ⟨hh.1, ?_⟩
        rw [List.getD_eq_getElem?_getD, List.getElem?_set_self (by rw [l2]; exact Nat.mod_lt _ (by omega))]; rfl
      · have ne : ¬ (q[i]).1 = ec := fun e => g (own_uniq hS hi r1 (e.trans re.symm))
        rw [if_neg ne]
        refine ⟨hh.1, ?_⟩
        rw [List.getD_eq_getElem?_getD, List.getElem?_set_ne (by rcases hN with rfl | rfl <;> omega), ← List.getD_eq_getElem?_getD]; exact hh.2
    · unfold own_an
      rw [if_pos]
      apply List.any_eq_true.mpr
      refine ⟨q[r.toInt.toNat], List.getElem_mem _, ?_⟩
      simp only [Bool.and_eq_true, decide_eq_true_eq]
      exact ⟨re, ha.symm⟩
theorem own_s0 {N : Nat} {sl : List Int64} {al : List Int32} {o1 c1 : Int32} {q : List (Int64 × Int32)} (h : own_AP N sl al o1 c1 q) (hl : q.length < N) : ¬ (c1 = (sl.length.toInt32)) := fun e => by
  obtain ⟨l1, l2, hN, a0, a1, c, ql, B, H⟩ := h
  rw [e, len_toInt (by omega), l1] at c
  omega
theorem own_s4 {sl : List Int64} {al : List Int32} {o1 c1 : Int32} {q : List (Int64 × Int32)} (h : own_AP 8 sl al o1 c1 q) (hl : q.length = 8) : c1 = (sl.length.toInt32) := by
  obtain ⟨l1, l2, hN, a0, a1, c, ql, B, H⟩ := h
  apply Int32.toInt_inj.mp
  rw [len_toInt (by omega), l1, c, hl]
theorem own_s1 {N : Nat} {sl : List Int64} {al : List Int32} {o1 c1 : Int32} {q : List (Int64 × Int32)} (h : own_AP N sl al o1 c1 q) (hl : q.length < N) : 0 ≤ (plaF c1 o1 sl).toInt ∧ (plaF c1 o1 sl).toInt < (sl.length : Int) := by
  have c : c1.toInt = q.length := by obtain ⟨-, -, -, -, -, c, -⟩ := h; exact c
  exact (own_ib h (by omega) (by omega)).1
theorem own_s2 {N : Nat} {sl : List Int64} {al : List Int32} {o1 c1 : Int32} {q : List (Int64 × Int32)} (h : own_AP N sl al o1 c1 q) (hl : q.length < N) : 0 ≤ (plaF c1 o1 sl).toInt ∧ (plaF c1 o1 sl).toInt < (al.length : Int) := by
  have c : c1.toInt = q.length := by obtain ⟨-, -, -, -, -, c, -⟩ := h; exact c
  exact (own_ib h (by omega) (by omega)).2
theorem own_s3 {N : Nat} {sl : List Int64} {al : List Int32} {o1 c1 : Int32} {q : List (Int64 × Int32)} {tm : Int64} (h : own_AP N sl al o1 c1 q) (hl : q.length < N) : own_AP N (sl.set (plaF c1 o1 sl).toNatClampNeg tm) (al.set (plaF c1 o1 sl).toNatClampNeg (0 : Int32)) o1 (c1 + (1 : Int32)) (q ++ [(tm, (0 : Int32))]) := by
  have c : c1.toInt = q.length := by obtain ⟨-, -, -, -, -, c, -⟩ := h; exact c
  have hp := own_pl h (k := c1) (by omega) (by omega)
  obtain ⟨l1, l2, hN, a0, a1, -, ql, B, H⟩ := h
  have k1 : (1 : Int32).toInt = 1 := rfl
  have cn : c1.toInt.toNat = q.length := by omega
  refine ⟨by rw [List.length_set]; exact l1, by rw [List.length_set]; exact l2, hN, a0, a1, ?_, by simp; omega, ?_, ?_⟩
  · rw [own_add (by omega) (by omega), k1, c]; simp
  · intro e he
    rcases List.mem_append.mp he with he | he
    · exact B e he
    · rw [List.mem_singleton.mp he]; exact Or.inl rfl
  · intro i hi
    rw [hp.2, cn]
    by_cases g : i < q.length
    · have hh := H i g
      rw [List.getElem_append_left g]
      constructor
      · rw [List.getD_eq_getElem?_getD, List.getElem?_set_ne (by rcases hN with rfl | rfl <;> omega), ← List.getD_eq_getElem?_getD]; exact hh.1
      · rw [List.getD_eq_getElem?_getD, List.getElem?_set_ne (by rcases hN with rfl | rfl <;> omega), ← List.getD_eq_getElem?_getD]; exact hh.2
    · have e : i = q.length := by simp at hi; omega
      subst e
      rw [List.getElem_append_right (Nat.le_refl _)]
      have hm := Nat.mod_lt (o1.toInt.toNat + q.length) (show 0 < N by omega)
      constructor
      · rw [List.getD_eq_getElem?_getD, List.getElem?_set_self (by rw [l1]; exact hm)]; simp
      · rw [List.getD_eq_getElem?_getD, List.getElem?_set_self (by rw [l2]; exact hm)]; simp
theorem own_g0 {sl : List Int64} {al : List Int32} {old cnt : Int32} {q : List (Int64 × Int32)} (h : own_AP 8 sl al old cnt q) : ((sl.length.toInt32) * (2 : Int32)).toInt = 16 := by
  obtain ⟨l1, -⟩ := h
  rw [l1]; decide
theorem own_g1 {sl : List Int64} {al : List Int32} {old cnt : Int32} {q : List (Int64 × Int32)} (h : own_AP 8 sl al old cnt q) : own_GI q (0 : Int32) (List.replicate ((sl.length.toInt32) * (2 : Int32)).toInt.toNat (0 : Int64)) (List.replicate ((sl.length.toInt32) * (2 : Int32)).toInt.toNat (0 : Int32)) := by
  rw [own_g0 h]
  have k0 : (0 : Int32).toInt = 0 := rfl
  exact ⟨by decide, by decide, by simp, by simp, fun i hi hl => by omega⟩
theorem own_gx {sl : List Int64} {al : List Int32} {old cnt : Int32} {q : List (Int64 × Int32)} {x3 : Int32} {m1 : List Int64} {m2 : List Int32} (h : own_AP 8 sl al old cnt q) (h8 : q.length = 8) (hi : own_GI q x3 m1 m2) (hc : x3 < cnt) : 0 ≤ x3.toInt ∧ x3.toInt < 8 := by
  obtain ⟨-, -, -, -, -, c, -⟩ := h
  rw [Int32.lt_iff_toInt_lt, c, h8] at hc
  exact ⟨hi.1, by omega⟩
theorem own_g3 {sl : List Int64} {al : List Int32} {old cnt : Int32} {q : List (Int64 × Int32)} {x3 : Int32} {m1 : List Int64} {m2 : List Int32} (h : own_AP 8 sl al old cnt q) (h8 : q.length = 8) (hi : own_GI q x3 m1 m2) (hc : x3 < cnt) : (0 ≤ (plaF x3 old sl).toInt ∧ (plaF x3 old sl).toInt < (sl.length : Int)) ∧ (0 ≤ (plaF x3 old sl).toInt ∧ (plaF x3 old sl).toInt < (al.length : Int)) := by
  have g := own_gx h h8 hi hc
  exact own_ib h g.1 (by omega)
theorem own_g4 {sl : List Int64} {al : List Int32} {old cnt : Int32} {q : List (Int64 × Int32)} {x3 : Int32} {m1 : List Int64} {m2 : List Int32} (h : own_AP 8 sl al old cnt q) (h8 : q.length = 8) (hi : own_GI q x3 m1 m2) (hc : x3 < cnt) : (0 ≤ x3.toInt ∧ x3.toInt < (m1.length : Int)) ∧ (0 ≤ x3.toInt ∧ x3.toInt < (m2.length : Int)) := by
  have g := own_gx h h8 hi hc
  obtain ⟨-, -, e1, e2, -⟩ := hi
  omega
theorem own_nb {x : Int32} (h : x = (0 : Int32) ∨ x = (1 : Int32)) : nar .boolean x = x := by rcases h with rfl | rfl <;> rfl
theorem own_g2 {sl : List Int64} {al : List Int32} {old cnt : Int32} {q : List (Int64 × Int32)} {x3 : Int32} {m1 : List Int64} {m2 : List Int32} (h : own_AP 8 sl al old cnt q) (h8 : q.length = 8) (hi : own_GI q x3 m1 m2) (hc : x3 < cnt) :
    8 - (x3 + (1 : Int32)).toInt.toNat < 8 - x3.toInt.toNat ∧ own_GI q (x3 + (1 : Int32)) (m1.set x3.toNatClampNeg (sl.getD (plaF x3 old sl).toNatClampNeg (0 : Int64))) (m2.set x3.toNatClampNeg (nar .boolean (al.getD (plaF x3 old sl).toNatClampNeg (0 : Int32)))) := by
  have g := own_gx h h8 hi hc
  have ha := own_at h g.1 (by omega)
  have B : ∀ e ∈ q, e.2 = (0 : Int32) ∨ e.2 = (1 : Int32) := by obtain ⟨-, -, -, -, -, -, -, B, -⟩ := h; exact B
  obtain ⟨i0, i1, i2, i3, i4⟩ := hi
  have k1 : (1 : Int32).toInt = 1 := rfl
  have e : (x3 + (1 : Int32)).toInt = x3.toInt + 1 := by rw [own_add (by omega) (by omega), k1]
  rw [ha.1, ha.2, own_nb (B _ (List.getElem_mem _)), own_cl g.1]
  refine ⟨by omega, by omega, by omega, by rw [List.length_set]; exact i2, by rw [List.length_set]; exact i3, fun i hi hl => ?_⟩
  by_cases gg : i = x3.toInt.toNat
  · subst gg
    constructor
    · rw [List.getD_eq_getElem?_getD, List.getElem?_set_self (by omega)]; rfl
    · rw [List.getD_eq_getElem?_getD, List.getElem?_set_self (by omega)]; rfl
  · have hh := i4 i hi (by omega)
    constructor
    · rw [List.getD_eq_getElem?_getD, List.getElem?_set_ne (by omega), ← List.getD_eq_getElem?_getD]; exact hh.1
    · rw [List.getD_eq_getElem?_getD, List.getElem?_set_ne (by omega), ← List.getD_eq_getElem?_getD]; exact hh.2
theorem own_g5 {sl : List Int64} {al : List Int32} {old cnt : Int32} {q : List (Int64 × Int32)} {x3 : Int32} {m1 : List Int64} {m2 : List Int32} (h : own_AP 8 sl al old cnt q) (h8 : q.length = 8) (hi : own_GI q x3 m1 m2) (hc : ¬ x3 < cnt) : own_AP 16 m1 m2 (0 : Int32) cnt q := by
  obtain ⟨-, -, -, -, -, c, -, B, -⟩ := h
  obtain ⟨i0, i1, i2, i3, i4⟩ := hi
  rw [Int32.lt_iff_toInt_lt, c] at hc
  have k0 : (0 : Int32).toInt = 0 := rfl
  refine ⟨i2, i3, Or.inr rfl, by decide, by decide, c, by omega, B, fun i hi => ?_⟩
  have := i4 i hi (by omega)
  rw [k0]
  have e : ((0 : Int).toNat + i) % 16 = i := by simp; omega
  rw [e]; exact this
theorem pd_0 : parseMethodDescriptor "(I)I" = some ⟨[.int], some .int⟩ := by decide +kernel
theorem d5_0 : decode prog_10_method_5_code 0 = .ok (.aload_n 0, 1) := by decide +kernel
theorem d5_1 : decode prog_10_method_5_code 1 = .ok (.getfield 25, 3) := by decide +kernel
theorem d5_4 : decode prog_10_method_5_code 4 = .ok (.ifCond .le 44, 3) := by decide +kernel
theorem d5_7 : decode prog_10_method_5_code 7 = .ok (.lload_n 1, 1) := by decide +kernel
theorem d5_8 : decode prog_10_method_5_code 8 = .ok (.aload_n 0, 1) := by decide +kernel
theorem d5_9 : decode prog_10_method_5_code 9 = .ok (.getfield 9, 3) := by decide +kernel
theorem d5_12 : decode prog_10_method_5_code 12 = .ok (.aload_n 0, 1) := by decide +kernel
theorem d5_13 : decode prog_10_method_5_code 13 = .ok (.getfield 40, 3) := by decide +kernel
theorem d5_16 : decode prog_10_method_5_code 16 = .ok (.laload, 1) := by decide +kernel
theorem d5_17 : decode prog_10_method_5_code 17 = .ok (.lsub, 1) := by decide +kernel
theorem d5_18 : decode prog_10_method_5_code 18 = .ok (.aload_n 0, 1) := by decide +kernel
theorem d5_19 : decode prog_10_method_5_code 19 = .ok (.getfield 17, 3) := by decide +kernel
theorem d5_22 : decode prog_10_method_5_code 22 = .ok (.lcmp, 1) := by decide +kernel
theorem d5_23 : decode prog_10_method_5_code 23 = .ok (.ifCond .le 25, 3) := by decide +kernel
theorem d5_26 : decode prog_10_method_5_code 26 = .ok (.aload_n 0, 1) := by decide +kernel
theorem d5_27 : decode prog_10_method_5_code 27 = .ok (.aload_n 0, 1) := by decide +kernel
theorem d5_28 : decode prog_10_method_5_code 28 = .ok (.iconst 1, 1) := by decide +kernel
theorem d5_29 : decode prog_10_method_5_code 29 = .ok (.invokevirtual 32, 3) := by decide +kernel
theorem d5_32 : decode prog_10_method_5_code 32 = .ok (.putfield 40, 3) := by decide +kernel
theorem d5_35 : decode prog_10_method_5_code 35 = .ok (.aload_n 0, 1) := by decide +kernel
theorem d5_36 : decode prog_10_method_5_code 36 = .ok (.dup, 1) := by decide +kernel
theorem d5_37 : decode prog_10_method_5_code 37 = .ok (.getfield 25, 3) := by decide +kernel
theorem d5_40 : decode prog_10_method_5_code 40 = .ok (.iconst 1, 1) := by decide +kernel
theorem d5_41 : decode prog_10_method_5_code 41 = .ok (.isub, 1) := by decide +kernel
theorem d5_42 : decode prog_10_method_5_code 42 = .ok (.putfield 25, 3) := by decide +kernel
theorem d5_45 : decode prog_10_method_5_code 45 = .ok (.goto (-45), 3) := by decide +kernel
theorem d5_48 : decode prog_10_method_5_code 48 = .ok (.return_, 1) := by decide +kernel
theorem ef_fgtA (m : MethodId) (x0 : Addr) (x1 : Int64) : entryFrame m #[(.ref x0), (.long x1)] 3 = mkF m 0 #[.val (.ref x0), .val (.long x1), .second] [] := by first | (simp [entryFrame, mkF, argsToLocals, Value.category]; done) | rfl
def QfgtA (Z : State) (a : Addr) (now : Int64) (aS : Addr) (aA : Addr) (tmo : Int64) (old : Int32) (cnt : Int32) (sl : List Int64) (al : List Int32) (NN : Nat) (q : List (Int64 × Int32)) (h0 : Heap) (n0 : Nat) (v : Option Value) (h : Heap) (L : List Loc) : Prop := ∃ (o1 : Int32), ∃ (c1 : Int32), v = none ∧ Fr n0 L ∧ Keep h0 h [a] ∧ Fld Z h a "com/example/talthybius/talthybius/AwaitedPings" "timeoutNanos" "J" (.long tmo) ∧ Fld Z h a "com/example/talthybius/talthybius/AwaitedPings" "sentAt" "[J" (.ref aS) ∧ Fld Z h a "com/example/talthybius/talthybius/AwaitedPings" "answered" "[Z" (.ref aA) ∧ Fld Z h a "com/example/talthybius/talthybius/AwaitedPings" "oldest" "I" (.int o1) ∧ Fld Z h a "com/example/talthybius/talthybius/AwaitedPings" "count" "I" (.int c1) ∧ (own_AP NN sl al o1 c1 (own_dr now tmo q))
set_option maxRecDepth 65536 in
set_option maxHeartbeats 40000000 in
theorem rm_fgtA (l : Launch) (Z : State) (a0 : Array Value) (hw : ∀ d ∈ tables_1, d.before a0 Z = true) (ws : List Jvm.Cond) (a : Addr) (now : Int64) (aS : Addr) (aA : Addr) (tmo : Int64) (old : Int32) (cnt : Int32) (sl : List Int64) (al : List Int32) (NN : Nat) (q : List (Int64 × Int32)) (h0 : Heap) (n0 : Nat) (Z0 : n0 ≤ h0.size) (F0 : Exa Z h0 a "com/example/talthybius/talthybius/AwaitedPings") (F1 : Fld Z h0 a "com/example/talthybius/talthybius/AwaitedPings" "timeoutNanos" "J" (.long tmo)) (F2 : Fld Z h0 a "com/example/talthybius/talthybius/AwaitedPings" "sentAt" "[J" (.ref aS)) (F3 : Fld Z h0 a "com/example/talthybius/talthybius/AwaitedPings" "answered" "[Z" (.ref aA)) (F4 : Fld Z h0 a "com/example/talthybius/talthybius/AwaitedPings" "oldest" "I" (.int old)) (F5 : Fld Z h0 a "com/example/talthybius/talthybius/AwaitedPings" "count" "I" (.int cnt)) (F6 : VA Z h0 aS .long (sl.map Value.long)) (F7 : VA Z h0 aA .boolean (al.map Value.int)) (g_a : n0 ≤ a) (ne_a_aS : a ≠ aS) (ne_a_aA : a ≠ aA) (ne_aS_aA : aS ≠ aA) (hA : own_AP NN sl al old cnt q) :
    MetFree l (⟨"com/example/talthybius/talthybius/AwaitedPings", "forget", "(J)V"⟩ : MethodName) (head1 (Jvm.Cond.code (⟨"com/example/talthybius/talthybius/AwaitedPings", "forget", "(J)V"⟩ : MethodName) prog_10_method_5_code 3 none :: ws) ({ frames := 1, cells := 0, slots := 0, locals := 15 } : Room)) (fun A_ U => A_ = #[(.ref a), (.long now)] ∧ Z.Warmed39 U.vm ∧ U.heap = h0) (fun _ _ _ _ _ => True) (fun _ U o U' => ∃ v L, o = .returned v ∧ QfgtA Z a now aS aA tmo old cnt sl al NN q h0 n0 v U'.heap L ∧ FrameEnd U o U' L ({ frames := 1, cells := 0, slots := 0, locals := 15 } : Room).cells ({ frames := 1, cells := 0, slots := 0, locals := 15 } : Room).slots) := by
  refine MetFree.of_bodySF (plainFor_of_name pn_0) hisR ?_
  intro p e s m args below meth c s₁ Bd hml0 hP hK
  obtain ⟨rfl, hZ, hh⟩ := hP
  have hx := Bd.exec
  have hby := Bd.bytes
  have hml : c.maxLocals = 3 := hml0
  have hown : s.vm.findClass "com/example/talthybius/talthybius/AwaitedPings" = some m.cls := findClass_of_methodNamed Bd.named
  have hnm := (name_of_methodNamed Bd.named Bd.method).1
  have X0 : Stand p l e ({ frames := 1, cells := 0, slots := 0, locals := 15 } : Room) s m #[(.ref a), (.long now)] below meth c s₁ [] 0 0 := Stand.of_body Bd
  have e0 : s₁.heap = h0 := by rw [← hh, Bd.state]; rfl
  have N0 := Fr.nil n0
  suffices HGO : Go p e below s (QfgtA Z a now aS aA tmo old cnt sl al NN q h0 n0) ({ frames := 1, cells := 0, slots := 0, locals := 15 } : Room).cells ({ frames := 1, cells := 0, slots := 0, locals := 15 } : Room).slots s₁ (mkF m 0 #[.val (.ref a), .val (.long now), .second] []) from Go.cast (ef_fgtA m a now) HGO
  have S0 : ∀ (N_ : Nat) (T : State) (locs : List Loc) (cells slots : Nat) (X : Stand p l e ({ frames := 1, cells := 0, slots := 0, locals := 15 } : Room) s m #[(.ref a), (.long now)] below meth c T locs cells slots) (hcl : cells ≤ 0) (hsl : slots ≤ 0) (h : Heap) (eT : T.heap = h) (N : Fr n0 locs)   (o1 : Int32) (c1 : Int32) (q1 : List (Int64 × Int32)) (K : Keep h0 h [a]) (fc0 : Exa Z h a "com/example/talthybius/talthybius/AwaitedPings") (fc1 : Fld Z h a "com/example/talthybius/talthybius/AwaitedPings" "timeoutNanos" "J" (.long tmo)) (fc2 : Fld Z h a "com/example/talthybius/talthybius/AwaitedPings" "sentAt" "[J" (.ref aS)) (fc3 : Fld Z h a "com/example/talthybius/talthybius/AwaitedPings" "answered" "[Z" (.ref aA)) (fc4 : Fld Z h a "com/example/talthybius/talthybius/AwaitedPings" "oldest" "I" (.int o1)) (fc5 : Fld Z h a "com/example/talthybius/talthybius/AwaitedPings" "count" "I" (.int c1)) (fc6 : VA Z h aS .long (sl.map Value.long)) (fc7 : VA Z h aA .boolean (al.map Value.int)) (hB : own_AP NN sl al o1 c1 q1) (hq : own_dr now tmo q1 = own_dr now tmo q) (hN_ : q1.length = N_), Go p e below s (QfgtA Z a now aS aA tmo old cnt sl al NN q h0 n0) ({ frames := 1, cells := 0, slots := 0, locals := 15 } : Room).cells ({ frames := 1, cells := 0, slots := 0, locals := 15 } : Room).slots T (mkF m 0 #[.val (.ref a), .val (.long now), .second] []) := by
    intro N_; induction N_ using Nat.strongRecOn with | _ N_ IH => ?_
    intro T locs cells slots X hcl hsl h eT N o1 c1 q1 K fc0 fc1 fc2 fc3 fc4 fc5 fc6 fc7 hB hq hN_
    subst hN_
    have Zh : n0 ≤ h.size := Nat.le_trans Z0 K.1
    obtain ⟨T1, X1, e1, st1⟩ := getF X hx hZ hown (host := "") (Or.inl (hw _ (List.mem_of_getElem? (i := 33) rfl))) Via.refl eT fc5 (g := (mkF m 1 #[.val (.ref a), .val (.long now), .second] [(.ref a)])) rfl rfl (hb hby d5_1)
    refine Go.step (T' := T1) (f' := (mkF m 4 #[.val (.ref a), .val (.long now), .second] [(.int c1)])) (fun t kt => ?_) ?_
    · show Steps p.tables e below (T.setTop (mkF m 0 #[.val (.ref a), .val (.long now), .second] [])) _
      refine XS.aloadN X.here hx rfl (hb hby d5_0) rfl rfl ?_
      show Steps p.tables e below (T.setTop (mkF m 1 #[.val (.ref a), .val (.long now), .second] [(.ref a)])) _
      refine st1 _ ?_
      exact kt
    by_cases hc2 : (0 : Int32) < c1
    · have _ := hc2
      refine Go.step (T' := T1) (f' := (mkF m 7 #[.val (.ref a), .val (.long now), .second] [])) (fun t kt => ?_) ?_
      · show Steps p.tables e below (T1.setTop (mkF m 4 #[.val (.ref a), .val (.long now), .second] [(.int c1)])) _
        refine XS.ifNo X1.here hx rfl (hb hby d5_4) rfl ((if0 _ _).trans (tlt hc2).2.2.2) ?_
        exact kt
      obtain ⟨T3, X3, e3, st3⟩ := getF X1 hx hZ hown (host := "") (Or.inl (hw _ (List.mem_of_getElem? (i := 17) rfl))) Via.refl e1 fc2 (g := (mkF m 9 #[.val (.ref a), .val (.long now), .second] [(.ref a), (.long now)])) rfl rfl (hb hby d5_9)
      obtain ⟨T4, X4, e4, st4⟩ := getF X3 hx hZ hown (host := "") (Or.inl (hw _ (List.mem_of_getElem? (i := 39) rfl))) Via.refl e3 fc4 (g := (mkF m 13 #[.val (.ref a), .val (.long now), .second] [(.ref a), (.ref aS), (.long now)])) rfl rfl (hb hby d5_13)
      have ix5 : 0 ≤ (o1).toInt ∧ (o1).toInt < ((sl).length : Int) := own_f0 hB
      obtain ⟨T6, X6, e6, st6⟩ := getF X4 hx hZ hown (host := "") (Or.inl (hw _ (List.mem_of_getElem? (i := 22) rfl))) Via.refl e4 fc1 (g := (mkF m 19 #[.val (.ref a), .val (.long now), .second] [(.ref a), (.long (now - (sl.getD o1.toNatClampNeg (0 : Int64))))])) rfl rfl (hb hby d5_19)
      refine Go.step (T' := T6) (f' := (mkF m 23 #[.val (.ref a), .val (.long now), .second] [(.int (lcmpW (now - (sl.getD o1.toNatClampNeg (0 : Int64))) tmo))])) (fun t kt => ?_) ?_
      · show Steps p.tables e below (T1.setTop (mkF m 7 #[.val (.ref a), .val (.long now), .second] [])) _
        refine XS.lloadN X1.here hx rfl (hb hby d5_7) rfl ?_
        show Steps p.tables e below (T1.setTop (mkF m 8 #[.val (.ref a), .val (.long now), .second] [(.long now)])) _
        refine XS.aloadN X1.here hx rfl (hb hby d5_8) rfl rfl ?_
        show Steps p.tables e below (T1.setTop (mkF m 9 #[.val (.ref a), .val (.long now), .second] [(.ref a), (.long now)])) _
        refine st3 _ ?_
        show Steps p.tables e below (T3.setTop (mkF m 12 #[.val (.ref a), .val (.long now), .second] [(.ref aS), (.long now)])) _
        refine XS.aloadN X3.here hx rfl (hb hby d5_12) rfl rfl ?_
        show Steps p.tables e below (T3.setTop (mkF m 13 #[.val (.ref a), .val (.long now), .second] [(.ref a), (.ref aS), (.long now)])) _
        refine st4 _ ?_
        show Steps p.tables e below (T4.setTop (mkF m 16 #[.val (.ref a), .val (.long now), .second] [(.int o1), (.ref aS), (.long now)])) _
        refine ldJ X4 hx hZ e4 fc6 ix5.1 ix5.2 (g := (mkF m 16 #[.val (.ref a), .val (.long now), .second] [(.int o1), (.ref aS), (.long now)])) rfl rfl (hb hby d5_16) _ ?_
        show Steps p.tables e below (T4.setTop (mkF m 17 #[.val (.ref a), .val (.long now), .second] [(.long (sl.getD o1.toNatClampNeg (0 : Int64))), (.long now)])) _
        refine XS.lsub X4.here hx rfl (hb hby d5_17) rfl ?_
        show Steps p.tables e below (T4.setTop (mkF m 18 #[.val (.ref a), .val (.long now), .second] [(.long (now - (sl.getD o1.toNatClampNeg (0 : Int64))))])) _
        refine XS.aloadN X4.here hx rfl (hb hby d5_18) rfl rfl ?_
        show Steps p.tables e below (T4.setTop (mkF m 19 #[.val (.ref a), .val (.long now), .second] [(.ref a), (.long (now - (sl.getD o1.toNatClampNeg (0 : Int64))))])) _
        refine st6 _ ?_
        show Steps p.tables e below (T6.setTop (mkF m 22 #[.val (.ref a), .val (.long now), .second] [(.long tmo), (.long (now - (sl.getD o1.toNatClampNeg (0 : Int64))))])) _
        refine XS.lcmp X6.here hx rfl (hb hby d5_22) rfl ?_
        exact kt
      by_cases hc7 : tmo < (now - (sl.getD o1.toNatClampNeg (0 : Int64)))
      · have _ := hc7
        refine Go.step (T' := T6) (f' := (mkF m 26 #[.val (.ref a), .val (.long now), .second] [])) (fun t kt => ?_) ?_
        · show Steps p.tables e below (T6.setTop (mkF m 23 #[.val (.ref a), .val (.long now), .second] [(.int (lcmpW (now - (sl.getD o1.toNatClampNeg (0 : Int64))) tmo))])) _
          refine XS.ifNo X6.here hx rfl (hb hby d5_23) rfl ((if0 _ _).trans (tlt ((lw_gt _ _).mpr hc7)).2.2.2) ?_
          exact kt
        obtain ⟨cq8, q8, q8'⟩ := (fc0 : Exa Z h a "com/example/talthybius/talthybius/AwaitedPings").cell
        obtain ⟨_, _, ⟨T8, L8, k8, n8⟩, -, X8, ⟨Lc8, hQ8, l8, y8, z8⟩, st8⟩ := X6.privateBack hx (y := (⟨"com/example/talthybius/talthybius/AwaitedPings", "placeOf", "(I)I"⟩ : MethodName)) hown (mvT hZ (hw _ (List.mem_of_getElem? (i := 35) rfl))) (mvT hZ (hw _ (List.mem_of_getElem? (i := 36) rfl))) (own_psel (mvT hZ (hw _ (List.mem_of_getElem? (i := 9) rfl))) (Cond.privateMethod_at (mvP hZ (hw _ (List.mem_of_getElem? (i := 37) rfl)) (args := #[]))) (mvT hZ (hw _ (List.mem_of_getElem? (i := 36) rfl))) (by decide)) (Cond.privateMethod_at (mvP hZ (hw _ (List.mem_of_getElem? (i := 37) rfl)) (args := #[]))) (mvT hZ (hw _ (List.mem_of_getElem? (i := 38) rfl))) (by decide) (backOf (W := 1) (rm_plaF l Z a0 hw [] a (1 : Int32) aS o1 sl h n0 Zh fc2 fc4 fc6 ) hZ (hw _ (List.mem_of_getElem? (i := 38) rfl)) (hw _ (List.mem_of_getElem? (i := 10) rfl)) (by decide) (by decide)) (g := (mkF m 29 #[.val (.ref a), .val (.long now), .second] [(.int (1 : Int32)), (.ref a), (.ref a)])) rfl (by rw [hml]; rfl) (Steps.refl _) (a := a) (by rw [e6]; exact q8) q8' (argsL := [(.int (1 : Int32))]) (rest := [(.ref a)]) (lenOf pd_0 rfl) rfl (by show 2 * 0 + _ ≤ _; exact Nat.le_of_eq rfl) (hb hby d5_29) (fun _ _ => ⟨rfl, e6, (Nat.le_trans (Nat.add_le_add_right hcl 0) (by decide)), (Nat.le_trans (Nat.add_le_add_right hsl 0) (by decide))⟩)
        dsimp only [Pt.U, Pt.locs, Pt.cells, Pt.slots] at X8 l8 y8 z8 st8 hQ8
        subst l8 y8 z8
        obtain ⟨rfl, N8q, e8⟩ := hQ8
        have N8 := Fr.app N N8q
        obtain ⟨T9, h9, X9, e9, W9, st9⟩ := putF X8 hx hZ hown (host := "") (Or.inl (hw _ (List.mem_of_getElem? (i := 39) rfl))) Via.refl e8 fc4 fc0 (Or.inl (hw _ (List.mem_of_getElem? (i := 40) rfl))) (hw _ (List.mem_of_getElem? (i := 9) rfl)) (ty := .int) (by decide) rfl rfl (g := (mkF m 32 #[.val (.ref a), .val (.long now), .second] [(.int (plaF (1 : Int32) o1 sl)), (.ref a)])) rfl rfl (hb hby d5_32)
        have G10 : Exa Z h9 a "com/example/talthybius/talthybius/AwaitedPings" := fc0.wr W9
        have G11 : Fld Z h9 a "com/example/talthybius/talthybius/AwaitedPings" "timeoutNanos" "J" (.long tmo) := fc1.other W9 (Or.inr (slot_ne (Or.inr (hw _ (List.mem_of_getElem? (i := 23) rfl))) (Or.inl (hw _ (List.mem_of_getElem? (i := 40) rfl))) (by decide) (t := .long) (t' := .int) (by decide) (by decide)))
        have G12 : Fld Z h9 a "com/example/talthybius/talthybius/AwaitedPings" "sentAt" "[J" (.ref aS) := fc2.other W9 (Or.inr (slot_ne (Or.inl (hw _ (List.mem_of_getElem? (i := 18) rfl))) (Or.inl (hw _ (List.mem_of_getElem? (i := 40) rfl))) (by decide) (t := (.array .long)) (t' := .int) (by decide) (by decide)))
        have G13 : Fld Z h9 a "com/example/talthybius/talthybius/AwaitedPings" "answered" "[Z" (.ref aA) := fc3.other W9 (Or.inr (slot_ne (Or.inl (hw _ (List.mem_of_getElem? (i := 21) rfl))) (Or.inl (hw _ (List.mem_of_getElem? (i := 40) rfl))) (by decide) (t := (.array .boolean)) (t' := .int) (by decide) (by decide)))
        have G14 : Fld Z h9 a "com/example/talthybius/talthybius/AwaitedPings" "oldest" "I" (.int (plaF (1 : Int32) o1 sl)) := fc4.same W9
        have G15 : Fld Z h9 a "com/example/talthybius/talthybius/AwaitedPings" "count" "I" (.int c1) := fc5.other W9 (Or.inr (slot_ne (Or.inl (hw _ (List.mem_of_getElem? (i := 34) rfl))) (Or.inl (hw _ (List.mem_of_getElem? (i := 40) rfl))) (by decide) (t := .int) (t' := .int) (by decide) (by decide)))
        have G16 : VA Z h9 aS .long (sl.map Value.long) := fc6.other W9 (Ne.symm ne_a_aS)
        have G17 : VA Z h9 aA .boolean (al.map Value.int) := fc7.other W9 (Ne.symm ne_a_aA)
        have N9 := Fr.snoc X9 N8 g_a
        have K9 : Keep h0 h9 [a] := Keep.wr K W9 (Or.inl (List.mem_of_getElem? (i := 0) rfl))
        have Z9 : n0 ≤ h9.size := Nat.le_trans Z0 K9.1
        obtain ⟨T18, X18, e18, st18⟩ := getF X9 hx hZ hown (host := "") (Or.inl (hw _ (List.mem_of_getElem? (i := 33) rfl))) Via.refl e9 G15 (g := (mkF m 37 #[.val (.ref a), .val (.long now), .second] [(.ref a), (.ref a)])) rfl rfl (hb hby d5_37)
        obtain ⟨T19, h19, X19, e19, W19, st19⟩ := putF X18 hx hZ hown (host := "") (Or.inl (hw _ (List.mem_of_getElem? (i := 33) rfl))) Via.refl e18 G15 G10 (Or.inl (hw _ (List.mem_of_getElem? (i := 34) rfl))) (hw _ (List.mem_of_getElem? (i := 9) rfl)) (ty := .int) (by decide) rfl rfl (g := (mkF m 42 #[.val (.ref a), .val (.long now), .second] [(.int (c1 - (1 : Int32))), (.ref a)])) rfl rfl (hb hby d5_42)
        have G20 : Exa Z h19 a "com/example/talthybius/talthybius/AwaitedPings" := G10.wr W19
        have G21 : Fld Z h19 a "com/example/talthybius/talthybius/AwaitedPings" "timeoutNanos" "J" (.long tmo) := G11.other W19 (Or.inr (slot_ne (Or.inr (hw _ (List.mem_of_getElem? (i := 23) rfl))) (Or.inl (hw _ (List.mem_of_getElem? (i := 34) rfl))) (by decide) (t := .long) (t' := .int) (by decide) (by decide)))
        have G22 : Fld Z h19 a "com/example/talthybius/talthybius/AwaitedPings" "sentAt" "[J" (.ref aS) := G12.other W19 (Or.inr (slot_ne (Or.inl (hw _ (List.mem_of_getElem? (i := 18) rfl))) (Or.inl (hw _ (List.mem_of_getElem? (i := 34) rfl))) (by decide) (t := (.array .long)) (t' := .int) (by decide) (by decide)))
        have G23 : Fld Z h19 a "com/example/talthybius/talthybius/AwaitedPings" "answered" "[Z" (.ref aA) := G13.other W19 (Or.inr (slot_ne (Or.inl (hw _ (List.mem_of_getElem? (i := 21) rfl))) (Or.inl (hw _ (List.mem_of_getElem? (i := 34) rfl))) (by decide) (t := (.array .boolean)) (t' := .int) (by decide) (by decide)))
        have G24 : Fld Z h19 a "com/example/talthybius/talthybius/AwaitedPings" "oldest" "I" (.int (plaF (1 : Int32) o1 sl)) := G14.other W19 (Or.inr (slot_ne (Or.inl (hw _ (List.mem_of_getElem? (i := 40) rfl))) (Or.inl (hw _ (List.mem_of_getElem? (i := 34) rfl))) (by decide) (t := .int) (t' := .int) (by decide) (by decide)))
        have G25 : Fld Z h19 a "com/example/talthybius/talthybius/AwaitedPings" "count" "I" (.int (c1 - (1 : Int32))) := G15.same W19
        have G26 : VA Z h19 aS .long (sl.map Value.long) := G16.other W19 (Ne.symm ne_a_aS)
        have G27 : VA Z h19 aA .boolean (al.map Value.int) := G17.other W19 (Ne.symm ne_a_aA)
        have N19 := Fr.snoc X19 N9 g_a
        have K19 : Keep h0 h19 [a] := Keep.wr K9 W19 (Or.inl (List.mem_of_getElem? (i := 0) rfl))
        have Z19 : n0 ≤ h19.size := Nat.le_trans Z0 K19.1
        refine Go.step (T' := T19) (f' := (mkF m 0 #[.val (.ref a), .val (.long now), .second] [])) (fun t kt => ?_) ?_
        · show Steps p.tables e below (T6.setTop (mkF m 26 #[.val (.ref a), .val (.long now), .second] [])) _
          refine XS.aloadN X6.here hx rfl (hb hby d5_26) rfl rfl ?_
          show Steps p.tables e below (T6.setTop (mkF m 27 #[.val (.ref a), .val (.long now), .second] [(.ref a)])) _
          refine XS.aloadN X6.here hx rfl (hb hby d5_27) rfl rfl ?_
          show Steps p.tables e below (T6.setTop (mkF m 28 #[.val (.ref a), .val (.long now), .second] [(.ref a), (.ref a)])) _
          refine XS.iconst X6.here hx rfl (hb hby d5_28) ?_
          show Steps p.tables e below (T6.setTop (mkF m 29 #[.val (.ref a), .val (.long now), .second] [(.int (1 : Int32)), (.ref a), (.ref a)])) _
          refine st8.trans ?_
          show Steps p.tables e below (T8.setTop (mkF m 32 #[.val (.ref a), .val (.long now), .second] [(.int (plaF (1 : Int32) o1 sl)), (.ref a)])) _
          refine st9 _ ?_
          show Steps p.tables e below (T9.setTop (mkF m 35 #[.val (.ref a), .val (.long now), .second] [])) _
          refine XS.aloadN X9.here hx rfl (hb hby d5_35) rfl rfl ?_
          show Steps p.tables e below (T9.setTop (mkF m 36 #[.val (.ref a), .val (.long now), .second] [(.ref a)])) _
          refine XS.dup X9.here hx rfl (hb hby d5_36) rfl rfl ?_
          show Steps p.tables e below (T9.setTop (mkF m 37 #[.val (.ref a), .val (.long now), .second] [(.ref a), (.ref a)])) _
          refine st18 _ ?_
          show Steps p.tables e below (T18.setTop (mkF m 40 #[.val (.ref a), .val (.long now), .second] [(.int c1), (.ref a)])) _
          refine XS.iconst X18.here hx rfl (hb hby d5_40) ?_
          show Steps p.tables e below (T18.setTop (mkF m 41 #[.val (.ref a), .val (.long now), .second] [(.int (1 : Int32)), (.int c1), (.ref a)])) _
          refine XS.isub X18.here hx rfl (hb hby d5_41) rfl ?_
          show Steps p.tables e below (T18.setTop (mkF m 42 #[.val (.ref a), .val (.long now), .second] [(.int (c1 - (1 : Int32))), (.ref a)])) _
          refine st19 _ ?_
          show Steps p.tables e below (T19.setTop (mkF m 45 #[.val (.ref a), .val (.long now), .second] [])) _
          refine XS.goto X19.here hx rfl (pc0 := 45) (pc' := 0) rfl (hb hby d5_45) (by decide) (by decide) ?_
          exact kt
        exact IH _ ((own_f1 hB (by assumption) (by assumption)).1) _ _ _ _ X19 (Nat.le_trans (Nat.add_le_add_right hcl 0) (by decide)) (Nat.le_trans (Nat.add_le_add_right hsl 0) (by decide)) h19 e19 N19 (plaF (1 : Int32) o1 sl) (c1 - (1 : Int32)) q1.tail K19 G20 G21 G22 G23 G24 G25 G26 G27 (own_f1 hB (by assumption) (by assumption)).2.1 ((own_f1 hB (by assumption) (by assumption)).2.2.trans hq) rfl
      · have _ := hc7
        refine Go.step (T' := T6) (f' := (mkF m 48 #[.val (.ref a), .val (.long now), .second] [])) (fun t kt => ?_) ?_
        · show Steps p.tables e below (T6.setTop (mkF m 23 #[.val (.ref a), .val (.long now), .second] [(.int (lcmpW (now - (sl.getD o1.toNatClampNeg (0 : Int64))) tmo))])) _
          refine XS.ifYes X6.here hx rfl (pc0 := 23) (pc' := 48) rfl (hb hby d5_23) rfl ((if0 _ _).trans (flt (fun q => hc7 ((lw_gt _ _).mp q))).2.2.2) (by decide) (by decide) ?_
          exact kt
        refine Go.fin X6 (v := none) (fun _ => rfl) Bd.notSynchronized ?_ (Nat.le_trans hcl (by decide)) (Nat.le_trans hsl (by decide)) (fun fs hr => X6.returnOut hx Bd.returns (hb hby d5_48) hr)
        · show QfgtA Z a now aS aA tmo old cnt sl al NN q h0 n0 _ T6.heap _
          rw [e6]
          exact ⟨o1, c1, rfl, N, K, fc1, fc2, fc3, fc4, fc5, (hq ▸ own_f3 hB (by assumption) (by assumption))⟩
    · have _ := hc2
      refine Go.step (T' := T1) (f' := (mkF m 48 #[.val (.ref a), .val (.long now), .second] [])) (fun t kt => ?_) ?_
      · show Steps p.tables e below (T1.setTop (mkF m 4 #[.val (.ref a), .val (.long now), .second] [(.int c1)])) _
        refine XS.ifYes X1.here hx rfl (pc0 := 4) (pc' := 48) rfl (hb hby d5_4) rfl ((if0 _ _).trans (flt hc2).2.2.2) (by decide) (by decide) ?_
        exact kt
      refine Go.fin X1 (v := none) (fun _ => rfl) Bd.notSynchronized ?_ (Nat.le_trans hcl (by decide)) (Nat.le_trans hsl (by decide)) (fun fs hr => X1.returnOut hx Bd.returns (hb hby d5_48) hr)
      · show QfgtA Z a now aS aA tmo old cnt sl al NN q h0 n0 _ T1.heap _
        rw [e1]
        exact ⟨o1, c1, rfl, N, K, fc1, fc2, fc3, fc4, fc5, (hq ▸ own_f2 hB (by assumption))⟩
  exact S0 _ _ _ _ _ X0 (Nat.le_trans (Nat.le_refl 0) (by decide)) (Nat.le_trans (Nat.le_refl 0) (by decide)) h0 e0 N0 old cnt q (Keep.refl h0 [a]) F0 F1 F2 F3 F4 F5 F6 F7 hA rfl rfl
theorem d10_0 : decode prog_10_method_6_code 0 = .ok (.iconst 0, 1) := by decide +kernel
theorem d10_1 : decode prog_10_method_6_code 1 = .ok (.istore_n 3, 1) := by decide +kernel
theorem d10_2 : decode prog_10_method_6_code 2 = .ok (.aload_n 0, 1) := by decide +kernel
theorem d10_3 : decode prog_10_method_6_code 3 = .ok (.getfield 25, 3) := by decide +kernel
theorem d10_6 : decode prog_10_method_6_code 6 = .ok (.iconst 1, 1) := by decide +kernel
theorem d10_7 : decode prog_10_method_6_code 7 = .ok (.isub, 1) := by decide +kernel
theorem d10_8 : decode prog_10_method_6_code 8 = .ok (.istore 4, 2) := by decide +kernel
theorem d10_10 : decode prog_10_method_6_code 10 = .ok (.iconst (-1), 1) := by decide +kernel
theorem d10_11 : decode prog_10_method_6_code 11 = .ok (.istore 5, 2) := by decide +kernel
theorem d10_13 : decode prog_10_method_6_code 13 = .ok (.iload 5, 2) := by decide +kernel
theorem d10_15 : decode prog_10_method_6_code 15 = .ok (.ifCond .ge 68, 3) := by decide +kernel
theorem d10_18 : decode prog_10_method_6_code 18 = .ok (.iload_n 3, 1) := by decide +kernel
theorem d10_19 : decode prog_10_method_6_code 19 = .ok (.iload 4, 2) := by decide +kernel
theorem d10_21 : decode prog_10_method_6_code 21 = .ok (.if_icmp .gt 62, 3) := by decide +kernel
theorem d10_24 : decode prog_10_method_6_code 24 = .ok (.iload_n 3, 1) := by decide +kernel
theorem d10_25 : decode prog_10_method_6_code 25 = .ok (.iload 4, 2) := by decide +kernel
theorem d10_27 : decode prog_10_method_6_code 27 = .ok (.iadd, 1) := by decide +kernel
theorem d10_28 : decode prog_10_method_6_code 28 = .ok (.iconst 1, 1) := by decide +kernel
theorem d10_29 : decode prog_10_method_6_code 29 = .ok (.iushr, 1) := by decide +kernel
theorem d10_30 : decode prog_10_method_6_code 30 = .ok (.istore 6, 2) := by decide +kernel
theorem d10_32 : decode prog_10_method_6_code 32 = .ok (.aload_n 0, 1) := by decide +kernel
theorem d10_33 : decode prog_10_method_6_code 33 = .ok (.getfield 9, 3) := by decide +kernel
theorem d10_36 : decode prog_10_method_6_code 36 = .ok (.aload_n 0, 1) := by decide +kernel
theorem d10_37 : decode prog_10_method_6_code 37 = .ok (.iload 6, 2) := by decide +kernel
theorem d10_39 : decode prog_10_method_6_code 39 = .ok (.invokevirtual 32, 3) := by decide +kernel
theorem d10_42 : decode prog_10_method_6_code 42 = .ok (.laload, 1) := by decide +kernel
theorem d10_43 : decode prog_10_method_6_code 43 = .ok (.lstore 7, 2) := by decide +kernel
theorem d10_45 : decode prog_10_method_6_code 45 = .ok (.lload 7, 2) := by decide +kernel
theorem d10_47 : decode prog_10_method_6_code 47 = .ok (.lload_n 1, 1) := by decide +kernel
theorem d10_48 : decode prog_10_method_6_code 48 = .ok (.lcmp, 1) := by decide +kernel
theorem d10_49 : decode prog_10_method_6_code 49 = .ok (.ifCond .ge 11, 3) := by decide +kernel
theorem d10_52 : decode prog_10_method_6_code 52 = .ok (.iload 6, 2) := by decide +kernel
theorem d10_54 : decode prog_10_method_6_code 54 = .ok (.iconst 1, 1) := by decide +kernel
theorem d10_55 : decode prog_10_method_6_code 55 = .ok (.iadd, 1) := by decide +kernel
theorem d10_56 : decode prog_10_method_6_code 56 = .ok (.istore_n 3, 1) := by decide +kernel
theorem d10_57 : decode prog_10_method_6_code 57 = .ok (.goto 23, 3) := by decide +kernel
theorem d10_60 : decode prog_10_method_6_code 60 = .ok (.lload 7, 2) := by decide +kernel
theorem d10_62 : decode prog_10_method_6_code 62 = .ok (.lload_n 1, 1) := by decide +kernel
theorem d10_63 : decode prog_10_method_6_code 63 = .ok (.lcmp, 1) := by decide +kernel
theorem d10_64 : decode prog_10_method_6_code 64 = .ok (.ifCond .le 12, 3) := by decide +kernel
theorem d10_67 : decode prog_10_method_6_code 67 = .ok (.iload 6, 2) := by decide +kernel
theorem d10_69 : decode prog_10_method_6_code 69 = .ok (.iconst 1, 1) := by decide +kernel
theorem d10_70 : decode prog_10_method_6_code 70 = .ok (.isub, 1) := by decide +kernel
theorem d10_71 : decode prog_10_method_6_code 71 = .ok (.istore 4, 2) := by decide +kernel
theorem d10_73 : decode prog_10_method_6_code 73 = .ok (.goto 7, 3) := by decide +kernel
theorem d10_76 : decode prog_10_method_6_code 76 = .ok (.iload 6, 2) := by decide +kernel
theorem d10_78 : decode prog_10_method_6_code 78 = .ok (.istore 5, 2) := by decide +kernel
theorem d10_80 : decode prog_10_method_6_code 80 = .ok (.goto (-67), 3) := by decide +kernel
theorem d10_83 : decode prog_10_method_6_code 83 = .ok (.iload 5, 2) := by decide +kernel
theorem d10_85 : decode prog_10_method_6_code 85 = .ok (.ireturn, 1) := by decide +kernel
theorem ef_finA (m : MethodId) (x0 : Addr) (x1 : Int64) : entryFrame m #[(.ref x0), (.long x1)] 9 = mkF m 0 #[.val (.ref x0), .val (.long x1), .second, .unset, .unset, .unset, .unset, .unset, .unset] [] := by first | (simp [entryFrame, mkF, argsToLocals, Value.category]; done) | rfl
def QfinA (Z : State) (a : Addr) (tm : Int64) (aS : Addr) (aA : Addr) (tmo : Int64) (old : Int32) (cnt : Int32) (sl : List Int64) (al : List Int32) (NN : Nat) (q : List (Int64 × Int32)) (h0 : Heap) (n0 : Nat) (v : Option Value) (h : Heap) (L : List Loc) : Prop := ∃ (r : Int32), v = some (.int r) ∧ Fr n0 L ∧ h = h0 ∧ (own_FR q tm r)
set_option maxRecDepth 65536 in
set_option maxHeartbeats 40000000 in
theorem rm_finA (l : Launch) (Z : State) (a0 : Array Value) (hw : ∀ d ∈ tables_1, d.before a0 Z = true) (ws : List Jvm.Cond) (a : Addr) (tm : Int64) (aS : Addr) (aA : Addr) (tmo : Int64) (old : Int32) (cnt : Int32) (sl : List Int64) (al : List Int32) (NN : Nat) (q : List (Int64 × Int32)) (h0 : Heap) (n0 : Nat) (Z0 : n0 ≤ h0.size) (F0 : Exa Z h0 a "com/example/talthybius/talthybius/AwaitedPings") (F1 : Fld Z h0 a "com/example/talthybius/talthybius/AwaitedPings" "timeoutNanos" "J" (.long tmo)) (F2 : Fld Z h0 a "com/example/talthybius/talthybius/AwaitedPings" "sentAt" "[J" (.ref aS)) (F3 : Fld Z h0 a "com/example/talthybius/talthybius/AwaitedPings" "answered" "[Z" (.ref aA)) (F4 : Fld Z h0 a "com/example/talthybius/talthybius/AwaitedPings" "oldest" "I" (.int old)) (F5 : Fld Z h0 a "com/example/talthybius/talthybius/AwaitedPings" "count" "I" (.int cnt)) (F6 : VA Z h0 aS .long (sl.map Value.long)) (F7 : VA Z h0 aA .boolean (al.map Value.int)) (hA : own_AP NN sl al old cnt q) (hS : own_srt q) :
    MetFree l (⟨"com/example/talthybius/talthybius/AwaitedPings", "find", "(J)I"⟩ : MethodName) (head1 (Jvm.Cond.code (⟨"com/example/talthybius/talthybius/AwaitedPings", "find", "(J)I"⟩ : MethodName) prog_10_method_6_code 9 (some .int) :: ws) ({ frames := 1, cells := 0, slots := 0, locals := 15 } : Room)) (fun A_ U => A_ = #[(.ref a), (.long tm)] ∧ Z.Warmed39 U.vm ∧ U.heap = h0) (fun _ _ _ _ _ => True) (fun _ U o U' => ∃ v L, o = .returned v ∧ QfinA Z a tm aS aA tmo old cnt sl al NN q h0 n0 v U'.heap L ∧ FrameEnd U o U' L ({ frames := 1, cells := 0, slots := 0, locals := 15 } : Room).cells ({ frames := 1, cells := 0, slots := 0, locals := 15 } : Room).slots) := by
  refine MetFree.of_bodySF (plainFor_of_name pn_0) hisR ?_
  intro p e s m args below meth c s₁ Bd hml0 hP hK
  obtain ⟨rfl, hZ, hh⟩ := hP
  have hx := Bd.exec
  have hby := Bd.bytes
  have hml : c.maxLocals = 9 := hml0
  have hown : s.vm.findClass "com/example/talthybius/talthybius/AwaitedPings" = some m.cls := findClass_of_methodNamed Bd.named
  have hnm := (name_of_methodNamed Bd.named Bd.method).1
  have X0 : Stand p l e ({ frames := 1, cells := 0, slots := 0, locals := 15 } : Room) s m #[(.ref a), (.long tm)] below meth c s₁ [] 0 0 := Stand.of_body Bd
  have e0 : s₁.heap = h0 := by rw [← hh, Bd.state]; rfl
  have N0 := Fr.nil n0
  suffices HGO : Go p e below s (QfinA Z a tm aS aA tmo old cnt sl al NN q h0 n0) ({ frames := 1, cells := 0, slots := 0, locals := 15 } : Room).cells ({ frames := 1, cells := 0, slots := 0, locals := 15 } : Room).slots s₁ (mkF m 0 #[.val (.ref a), .val (.long tm), .second, .unset, .unset, .unset, .unset, .unset, .unset] []) from Go.cast (ef_finA m a tm) HGO
  have S13 : ∀ (N_ : Nat) (T : State) (locs : List Loc) (cells slots : Nat) (X : Stand p l e ({ frames := 1, cells := 0, slots := 0, locals := 15 } : Room) s m #[(.ref a), (.long tm)] below meth c T locs cells slots) (hcl : cells ≤ 0) (hsl : slots ≤ 0) (eT : T.heap = h0) (N : Fr n0 locs) (x3 : Int32) (x4 : Int32) (x5 : Int32) (s6 : Slot) (s7 : Slot) (s8 : Slot) (One_s6 : One s6) (Two_s7 : (s7 = .unset ∧ s8 = .unset) ∨ ∃ w : Int64, s7 = .val (.long w) ∧ s8 = .second) (hi : own_FD q tm x3 x4 x5) (hN_ : own_FM x3 x4 x5 = N_), Go p e below s (QfinA Z a tm aS aA tmo old cnt sl al NN q h0 n0) ({ frames := 1, cells := 0, slots := 0, locals := 15 } : Room).cells ({ frames := 1, cells := 0, slots := 0, locals := 15 } : Room).slots T (mkF m 13 #[.val (.ref a), .val (.long tm), .second, .val (.int x3), .val (.int x4), .val (.int x5), s6, s7, s8] []) := by
    intro N_; induction N_ using Nat.strongRecOn with | _ N_ IH => ?_
    intro T locs cells slots X hcl hsl eT N x3 x4 x5 s6 s7 s8 One_s6 Two_s7 hi hN_
    subst hN_
    refine Go.step (T' := T) (f' := (mkF m 15 #[.val (.ref a), .val (.long tm), .second, .val (.int x3), .val (.int x4), .val (.int x5), s6, s7, s8] [(.int x5)])) (fun t kt => ?_) ?_
    · show Steps p.tables e below (T.setTop (mkF m 13 #[.val (.ref a), .val (.long tm), .second, .val (.int x3), .val (.int x4), .val (.int x5), s6, s7, s8] [])) _
      refine XS.iload X.here hx rfl (hb hby d10_13) rfl ?_
      exact kt
    by_cases hc1 : x5 < (0 : Int32)
    · have _ := hc1
      refine Go.step (T' := T) (f' := (mkF m 18 #[.val (.ref a), .val (.long tm), .second, .val (.int x3), .val (.int x4), .val (.int x5), s6, s7, s8] [])) (fun t kt => ?_) ?_
      · show Steps p.tables e below (T.setTop (mkF m 15 #[.val (.ref a), .val (.long tm), .second, .val (.int x3), .val (.int x4), .val (.int x5), s6, s7, s8] [(.int x5)])) _
        refine XS.ifNo X.here hx rfl (hb hby d10_15) rfl ((if0 _ _).trans (tlt hc1).2.1) ?_
        exact kt
      refine Go.step (T' := T) (f' := (mkF m 21 #[.val (.ref a), .val (.long tm), .second, .val (.int x3), .val (.int x4), .val (.int x5), s6, s7, s8] [(.int x4), (.int x3)])) (fun t kt => ?_) ?_
      · show Steps p.tables e below (T.setTop (mkF m 18 #[.val (.ref a), .val (.long tm), .second, .val (.int x3), .val (.int x4), .val (.int x5), s6, s7, s8] [])) _
        refine XS.iloadN X.here hx rfl (hb hby d10_18) rfl ?_
        show Steps p.tables e below (T.setTop (mkF m 19 #[.val (.ref a), .val (.long tm), .second, .val (.int x3), .val (.int x4), .val (.int x5), s6, s7, s8] [(.int x3)])) _
        refine XS.iload X.here hx rfl (hb hby d10_19) rfl ?_
        exact kt
      by_cases hc2 : x4 < x3
      · have _ := hc2
        refine Go.step (T' := T) (f' := (mkF m 83 #[.val (.ref a), .val (.long tm), .second, .val (.int x3), .val (.int x4), .val (.int x5), s6, s7, s8] [])) (fun t kt => ?_) ?_
        · show Steps p.tables e below (T.setTop (mkF m 21 #[.val (.ref a), .val (.long tm), .second, .val (.int x3), .val (.int x4), .val (.int x5), s6, s7, s8] [(.int x4), (.int x3)])) _
          refine XS.icmpYes X.here hx rfl (pc0 := 21) (pc' := 83) rfl (hb hby d10_21) rfl (tlt hc2).2.2.1 (by decide) (by decide) ?_
          exact kt
        refine Go.step (T' := T) (f' := (mkF m 85 #[.val (.ref a), .val (.long tm), .second, .val (.int x3), .val (.int x4), .val (.int x5), s6, s7, s8] [(.int x5)])) (fun t kt => ?_) ?_
        · show Steps p.tables e below (T.setTop (mkF m 83 #[.val (.ref a), .val (.long tm), .second, .val (.int x3), .val (.int x4), .val (.int x5), s6, s7, s8] [])) _
          refine XS.iload X.here hx rfl (hb hby d10_83) rfl ?_
          exact kt
        refine Go.fin X (v := some (.int x5)) (fun h => by rw [Bd.returns] at h; cases h) Bd.notSynchronized ?_ (Nat.le_trans hcl (by decide)) (Nat.le_trans hsl (by decide)) (fun fs hr => retI X hx Bd.returns (hb hby d10_85) hr)
        · show QfinA Z a tm aS aA tmo old cnt sl al NN q h0 n0 _ T.heap _
          exact ⟨x5, rfl, N, eT, own_dR hA hi (by first | exact Or.inl (by assumption) | exact Or.inr (by assumption))⟩
      · have _ := hc2
        refine Go.step (T' := T) (f' := (mkF m 24 #[.val (.ref a), .val (.long tm), .second, .val (.int x3), .val (.int x4), .val (.int x5), s6, s7, s8] [])) (fun t kt => ?_) ?_
        · show Steps p.tables e below (T.setTop (mkF m 21 #[.val (.ref a), .val (.long tm), .second, .val (.int x3), .val (.int x4), .val (.int x5), s6, s7, s8] [(.int x4), (.int x3)])) _
          refine XS.icmpNo X.here hx rfl (hb hby d10_21) rfl (flt hc2).2.2.1 ?_
          exact kt
        obtain ⟨T3, X3, e3, st3⟩ := getF X hx hZ hown (host := "") (Or.inl (hw _ (List.mem_of_getElem? (i := 17) rfl))) Via.refl eT F2 (g := (mkF m 33 #[.val (.ref a), .val (.long tm), .second, .val (.int x3), .val (.int x4), .val (.int x5), .val (.int (((x3 + x4).toUInt32 >>> ((1 : Int32) &&& 31).toUInt32).toInt32)), s7, s8] [(.ref a)])) rfl rfl (hb hby d10_33)
        obtain ⟨cq4, q4, q4'⟩ := (F0 : Exa Z h0 a "com/example/talthybius/talthybius/AwaitedPings").cell
        obtain ⟨_, _, ⟨T4, L4, k4, n4⟩, -, X4, ⟨Lc4, hQ4, l4, y4, z4⟩, st4⟩ := X3.privateBack hx (y := (⟨"com/example/talthybius/talthybius/AwaitedPings", "placeOf", "(I)I"⟩ : MethodName)) hown (mvT hZ (hw _ (List.mem_of_getElem? (i := 35) rfl))) (mvT hZ (hw _ (List.mem_of_getElem? (i := 36) rfl))) (own_psel (mvT hZ (hw _ (List.mem_of_getElem? (i := 9) rfl))) (Cond.privateMethod_at (mvP hZ (hw _ (List.mem_of_getElem? (i := 37) rfl)) (args := #[]))) (mvT hZ (hw _ (List.mem_of_getElem? (i := 36) rfl))) (by decide)) (Cond.privateMethod_at (mvP hZ (hw _ (List.mem_of_getElem? (i := 37) rfl)) (args := #[]))) (mvT hZ (hw _ (List.mem_of_getElem? (i := 38) rfl))) (by decide) (backOf (W := 1) (rm_plaF l Z a0 hw [] a (((x3 + x4).toUInt32 >>> ((1 : Int32) &&& 31).toUInt32).toInt32) aS old sl h0 n0 Z0 F2 F4 F6 ) hZ (hw _ (List.mem_of_getElem? (i := 38) rfl)) (hw _ (List.mem_of_getElem? (i := 10) rfl)) (by decide) (by decide)) (g := (mkF m 39 #[.val (.ref a), .val (.long tm), .second, .val (.int x3), .val (.int x4), .val (.int x5), .val (.int (((x3 + x4).toUInt32 >>> ((1 : Int32) &&& 31).toUInt32).toInt32)), s7, s8] [(.int (((x3 + x4).toUInt32 >>> ((1 : Int32) &&& 31).toUInt32).toInt32)), (.ref a), (.ref aS)])) rfl (by rw [hml]; rfl) (Steps.refl _) (a := a) (by rw [e3]; exact q4) q4' (argsL := [(.int (((x3 + x4).toUInt32 >>> ((1 : Int32) &&& 31).toUInt32).toInt32))]) (rest := [(.ref aS)]) (lenOf pd_0 rfl) rfl (by show 2 * 0 + _ ≤ _; exact Nat.le_of_eq rfl) (hb hby d10_39) (fun _ _ => ⟨rfl, e3, (Nat.le_trans (Nat.add_le_add_right hcl 0) (by decide)), (Nat.le_trans (Nat.add_le_add_right hsl 0) (by decide))⟩)
        dsimp only [Pt.U, Pt.locs, Pt.cells, Pt.slots] at X4 l4 y4 z4 st4 hQ4
        subst l4 y4 z4
        obtain ⟨rfl, N4q, e4⟩ := hQ4
        have N4 := Fr.app N N4q
        have ix5 : 0 ≤ ((plaF (((x3 + x4).toUInt32 >>> ((1 : Int32) &&& 31).toUInt32).toInt32) old sl)).toInt ∧ ((plaF (((x3 + x4).toUInt32 >>> ((1 : Int32) &&& 31).toUInt32).toInt32) old sl)).toInt < ((sl).length : Int) := own_dI hA hi (by assumption) (by assumption)
        refine Go.step (T' := T4) (f' := (mkF m 49 #[.val (.ref a), .val (.long tm), .second, .val (.int x3), .val (.int x4), .val (.int x5), .val (.int (((x3 + x4).toUInt32 >>> ((1 : Int32) &&& 31).toUInt32).toInt32)), .val (.long (sl.getD (plaF (((x3 + x4).toUInt32 >>> ((1 : Int32) &&& 31).toUInt32).toInt32) old sl).toNatClampNeg (0 : Int64))), .second] [(.int (lcmpW (sl.getD (plaF (((x3 + x4).toUInt32 >>> ((1 : Int32) &&& 31).toUInt32).toInt32) old sl).toNatClampNeg (0 : Int64)) tm))])) (fun t kt => ?_) ?_
        · show Steps p.tables e below (T.setTop (mkF m 24 #[.val (.ref a), .val (.long tm), .second, .val (.int x3), .val (.int x4), .val (.int x5), s6, s7, s8] [])) _
          refine XS.iloadN X.here hx rfl (hb hby d10_24) rfl ?_
          show Steps p.tables e below (T.setTop (mkF m 25 #[.val (.ref a), .val (.long tm), .second, .val (.int x3), .val (.int x4), .val (.int x5), s6, s7, s8] [(.int x3)])) _
          refine XS.iload X.here hx rfl (hb hby d10_25) rfl ?_
          show Steps p.tables e below (T.setTop (mkF m 27 #[.val (.ref a), .val (.long tm), .second, .val (.int x3), .val (.int x4), .val (.int x5), s6, s7, s8] [(.int x4), (.int x3)])) _
          refine XS.iadd X.here hx rfl (hb hby d10_27) rfl ?_
          show Steps p.tables e below (T.setTop (mkF m 28 #[.val (.ref a), .val (.long tm), .second, .val (.int x3), .val (.int x4), .val (.int x5), s6, s7, s8] [(.int (x3 + x4))])) _
          refine XS.iconst X.here hx rfl (hb hby d10_28) ?_
          show Steps p.tables e below (T.setTop (mkF m 29 #[.val (.ref a), .val (.long tm), .second, .val (.int x3), .val (.int x4), .val (.int x5), s6, s7, s8] [(.int (1 : Int32)), (.int (x3 + x4))])) _
          refine XS.iushr X.here hx rfl (hb hby d10_29) rfl ?_
          show Steps p.tables e below (T.setTop (mkF m 30 #[.val (.ref a), .val (.long tm), .second, .val (.int x3), .val (.int x4), .val (.int x5), s6, s7, s8] [(.int (((x3 + x4).toUInt32 >>> ((1 : Int32) &&& 31).toUInt32).toInt32))])) _
          refine XS.istoreS X.here hx rfl (hb hby d10_30) rfl rfl One_s6 ?_
          show Steps p.tables e below (T.setTop (mkF m 32 #[.val (.ref a), .val (.long tm), .second, .val (.int x3), .val (.int x4), .val (.int x5), .val (.int (((x3 + x4).toUInt32 >>> ((1 : Int32) &&& 31).toUInt32).toInt32)), s7, s8] [])) _
          refine XS.aloadN X.here hx rfl (hb hby d10_32) rfl rfl ?_
          show Steps p.tables e below (T.setTop (mkF m 33 #[.val (.ref a), .val (.long tm), .second, .val (.int x3), .val (.int x4), .val (.int x5), .val (.int (((x3 + x4).toUInt32 >>> ((1 : Int32) &&& 31).toUInt32).toInt32)), s7, s8] [(.ref a)])) _
          refine st3 _ ?_
          show Steps p.tables e below (T3.setTop (mkF m 36 #[.val (.ref a), .val (.long tm), .second, .val (.int x3), .val (.int x4), .val (.int x5), .val (.int (((x3 + x4).toUInt32 >>> ((1 : Int32) &&& 31).toUInt32).toInt32)), s7, s8] [(.ref aS)])) _
          refine XS.aloadN X3.here hx rfl (hb hby d10_36) rfl rfl ?_
          show Steps p.tables e below (T3.setTop (mkF m 37 #[.val (.ref a), .val (.long tm), .second, .val (.int x3), .val (.int x4), .val (.int x5), .val (.int (((x3 + x4).toUInt32 >>> ((1 : Int32) &&& 31).toUInt32).toInt32)), s7, s8] [(.ref a), (.ref aS)])) _
          refine XS.iload X3.here hx rfl (hb hby d10_37) rfl ?_
          show Steps p.tables e below (T3.setTop (mkF m 39 #[.val (.ref a), .val (.long tm), .second, .val (.int x3), .val (.int x4), .val (.int x5), .val (.int (((x3 + x4).toUInt32 >>> ((1 : Int32) &&& 31).toUInt32).toInt32)), s7, s8] [(.int (((x3 + x4).toUInt32 >>> ((1 : Int32) &&& 31).toUInt32).toInt32)), (.ref a), (.ref aS)])) _
          refine st4.trans ?_
          show Steps p.tables e below (T4.setTop (mkF m 42 #[.val (.ref a), .val (.long tm), .second, .val (.int x3), .val (.int x4), .val (.int x5), .val (.int (((x3 + x4).toUInt32 >>> ((1 : Int32) &&& 31).toUInt32).toInt32)), s7, s8] [(.int (plaF (((x3 + x4).toUInt32 >>> ((1 : Int32) &&& 31).toUInt32).toInt32) old sl)), (.ref aS)])) _
          refine ldJ X4 hx hZ e4 F6 ix5.1 ix5.2 (g := (mkF m 42 #[.val (.ref a), .val (.long tm), .second, .val (.int x3), .val (.int x4), .val (.int x5), .val (.int (((x3 + x4).toUInt32 >>> ((1 : Int32) &&& 31).toUInt32).toInt32)), s7, s8] [(.int (plaF (((x3 + x4).toUInt32 >>> ((1 : Int32) &&& 31).toUInt32).toInt32) old sl)), (.ref aS)])) rfl rfl (hb hby d10_42) _ ?_
          show Steps p.tables e below (T4.setTop (mkF m 43 #[.val (.ref a), .val (.long tm), .second, .val (.int x3), .val (.int x4), .val (.int x5), .val (.int (((x3 + x4).toUInt32 >>> ((1 : Int32) &&& 31).toUInt32).toInt32)), s7, s8] [(.long (sl.getD (plaF (((x3 + x4).toUInt32 >>> ((1 : Int32) &&& 31).toUInt32).toInt32) old sl).toNatClampNeg (0 : Int64)))])) _
          refine XS.lstore X4.here hx rfl (hb hby d10_43) rfl (l' := #[.val (.ref a), .val (.long tm), .second, .val (.int x3), .val (.int x4), .val (.int x5), .val (.int (((x3 + x4).toUInt32 >>> ((1 : Int32) &&& 31).toUInt32).toInt32)), .val (.long (sl.getD (plaF (((x3 + x4).toUInt32 >>> ((1 : Int32) &&& 31).toUInt32).toInt32) old sl).toNatClampNeg (0 : Int64))), .second]) (by rcases Two_s7 with ⟨q1, q2⟩ | ⟨w, q1, q2⟩ <;> (rw [q1, q2]; rfl)) ?_
          show Steps p.tables e below (T4.setTop (mkF m 45 #[.val (.ref a), .val (.long tm), .second, .val (.int x3), .val (.int x4), .val (.int x5), .val (.int (((x3 + x4).toUInt32 >>> ((1 : Int32) &&& 31).toUInt32).toInt32)), .val (.long (sl.getD (plaF (((x3 + x4).toUInt32 >>> ((1 : Int32) &&& 31).toUInt32).toInt32) old sl).toNatClampNeg (0 : Int64))), .second] [])) _
          refine XS.lload X4.here hx rfl (hb hby d10_45) rfl ?_
          show Steps p.tables e below (T4.setTop (mkF m 47 #[.val (.ref a), .val (.long tm), .second, .val (.int x3), .val (.int x4), .val (.int x5), .val (.int (((x3 + x4).toUInt32 >>> ((1 : Int32) &&& 31).toUInt32).toInt32)), .val (.long (sl.getD (plaF (((x3 + x4).toUInt32 >>> ((1 : Int32) &&& 31).toUInt32).toInt32) old sl).toNatClampNeg (0 : Int64))), .second] [(.long (sl.getD (plaF (((x3 + x4).toUInt32 >>> ((1 : Int32) &&& 31).toUInt32).toInt32) old sl).toNatClampNeg (0 : Int64)))])) _
          refine XS.lloadN X4.here hx rfl (hb hby d10_47) rfl ?_
          show Steps p.tables e below (T4.setTop (mkF m 48 #[.val (.ref a), .val (.long tm), .second, .val (.int x3), .val (.int x4), .val (.int x5), .val (.int (((x3 + x4).toUInt32 >>> ((1 : Int32) &&& 31).toUInt32).toInt32)), .val (.long (sl.getD (plaF (((x3 + x4).toUInt32 >>> ((1 : Int32) &&& 31).toUInt32).toInt32) old sl).toNatClampNeg (0 : Int64))), .second] [(.long tm), (.long (sl.getD (plaF (((x3 + x4).toUInt32 >>> ((1 : Int32) &&& 31).toUInt32).toInt32) old sl).toNatClampNeg (0 : Int64)))])) _
          refine XS.lcmp X4.here hx rfl (hb hby d10_48) rfl ?_
          exact kt
        by_cases hc6 : (sl.getD (plaF (((x3 + x4).toUInt32 >>> ((1 : Int32) &&& 31).toUInt32).toInt32) old sl).toNatClampNeg (0 : Int64)) < tm
        · have _ := hc6
          refine Go.step (T' := T4) (f' := (mkF m 52 #[.val (.ref a), .val (.long tm), .second, .val (.int x3), .val (.int x4), .val (.int x5), .val (.int (((x3 + x4).toUInt32 >>> ((1 : Int32) &&& 31).toUInt32).toInt32)), .val (.long (sl.getD (plaF (((x3 + x4).toUInt32 >>> ((1 : Int32) &&& 31).toUInt32).toInt32) old sl).toNatClampNeg (0 : Int64))), .second] [])) (fun t kt => ?_) ?_
          · show Steps p.tables e below (T4.setTop (mkF m 49 #[.val (.ref a), .val (.long tm), .second, .val (.int x3), .val (.int x4), .val (.int x5), .val (.int (((x3 + x4).toUInt32 >>> ((1 : Int32) &&& 31).toUInt32).toInt32)), .val (.long (sl.getD (plaF (((x3 + x4).toUInt32 >>> ((1 : Int32) &&& 31).toUInt32).toInt32) old sl).toNatClampNeg (0 : Int64))), .second] [(.int (lcmpW (sl.getD (plaF (((x3 + x4).toUInt32 >>> ((1 : Int32) &&& 31).toUInt32).toInt32) old sl).toNatClampNeg (0 : Int64)) tm))])) _
            refine XS.ifNo X4.here hx rfl (hb hby d10_49) rfl ((if0 _ _).trans (tlt ((lw_lt _ _).mpr hc6)).2.1) ?_
            exact kt
          refine Go.step (T' := T4) (f' := (mkF m 13 #[.val (.ref a), .val (.long tm), .second, .val (.int ((((x3 + x4).toUInt32 >>> ((1 : Int32) &&& 31).toUInt32).toInt32) + (1 : Int32))), .val (.int x4), .val (.int x5), .val (.int (((x3 + x4).toUInt32 >>> ((1 : Int32) &&& 31).toUInt32).toInt32)), .val (.long (sl.getD (plaF (((x3 + x4).toUInt32 >>> ((1 : Int32) &&& 31).toUInt32).toInt32) old sl).toNatClampNeg (0 : Int64))), .second] [])) (fun t kt => ?_) ?_
          · show Steps p.tables e below (T4.setTop (mkF m 52 #[.val (.ref a), .val (.long tm), .second, .val (.int x3), .val (.int x4), .val (.int x5), .val (.int (((x3 + x4).toUInt32 >>> ((1 : Int32) &&& 31).toUInt32).toInt32)), .val (.long (sl.getD (plaF (((x3 + x4).toUInt32 >>> ((1 : Int32) &&& 31).toUInt32).toInt32) old sl).toNatClampNeg (0 : Int64))), .second] [])) _
            refine XS.iload X4.here hx rfl (hb hby d10_52) rfl ?_
            show Steps p.tables e below (T4.setTop (mkF m 54 #[.val (.ref a), .val (.long tm), .second, .val (.int x3), .val (.int x4), .val (.int x5), .val (.int (((x3 + x4).toUInt32 >>> ((1 : Int32) &&& 31).toUInt32).toInt32)), .val (.long (sl.getD (plaF (((x3 + x4).toUInt32 >>> ((1 : Int32) &&& 31).toUInt32).toInt32) old sl).toNatClampNeg (0 : Int64))), .second] [(.int (((x3 + x4).toUInt32 >>> ((1 : Int32) &&& 31).toUInt32).toInt32))])) _
            refine XS.iconst X4.here hx rfl (hb hby d10_54) ?_
            show Steps p.tables e below (T4.setTop (mkF m 55 #[.val (.ref a), .val (.long tm), .second, .val (.int x3), .val (.int x4), .val (.int x5), .val (.int (((x3 + x4).toUInt32 >>> ((1 : Int32) &&& 31).toUInt32).toInt32)), .val (.long (sl.getD (plaF (((x3 + x4).toUInt32 >>> ((1 : Int32) &&& 31).toUInt32).toInt32) old sl).toNatClampNeg (0 : Int64))), .second] [(.int (1 : Int32)), (.int (((x3 + x4).toUInt32 >>> ((1 : Int32) &&& 31).toUInt32).toInt32))])) _
            refine XS.iadd X4.here hx rfl (hb hby d10_55) rfl ?_
            show Steps p.tables e below (T4.setTop (mkF m 56 #[.val (.ref a), .val (.long tm), .second, .val (.int x3), .val (.int x4), .val (.int x5), .val (.int (((x3 + x4).toUInt32 >>> ((1 : Int32) &&& 31).toUInt32).toInt32)), .val (.long (sl.getD (plaF (((x3 + x4).toUInt32 >>> ((1 : Int32) &&& 31).toUInt32).toInt32) old sl).toNatClampNeg (0 : Int64))), .second] [(.int ((((x3 + x4).toUInt32 >>> ((1 : Int32) &&& 31).toUInt32).toInt32) + (1 : Int32)))])) _
            refine XS.istoreN X4.here hx rfl (hb hby d10_56) rfl (l' := #[.val (.ref a), .val (.long tm), .second, .val (.int ((((x3 + x4).toUInt32 >>> ((1 : Int32) &&& 31).toUInt32).toInt32) + (1 : Int32))), .val (.int x4), .val (.int x5), .val (.int (((x3 + x4).toUInt32 >>> ((1 : Int32) &&& 31).toUInt32).toInt32)), .val (.long (sl.getD (plaF (((x3 + x4).toUInt32 >>> ((1 : Int32) &&& 31).toUInt32).toInt32) old sl).toNatClampNeg (0 : Int64))), .second]) rfl ?_
            show Steps p.tables e below (T4.setTop (mkF m 57 #[.val (.ref a), .val (.long tm), .second, .val (.int ((((x3 + x4).toUInt32 >>> ((1 : Int32) &&& 31).toUInt32).toInt32) + (1 : Int32))), .val (.int x4), .val (.int x5), .val (.int (((x3 + x4).toUInt32 >>> ((1 : Int32) &&& 31).toUInt32).toInt32)), .val (.long (sl.getD (plaF (((x3 + x4).toUInt32 >>> ((1 : Int32) &&& 31).toUInt32).toInt32) old sl).toNatClampNeg (0 : Int64))), .second] [])) _
            refine XS.goto X4.here hx rfl (pc0 := 57) (pc' := 80) rfl (hb hby d10_57) (by decide) (by decide) ?_
            show Steps p.tables e below (T4.setTop (mkF m 80 #[.val (.ref a), .val (.long tm), .second, .val (.int ((((x3 + x4).toUInt32 >>> ((1 : Int32) &&& 31).toUInt32).toInt32) + (1 : Int32))), .val (.int x4), .val (.int x5), .val (.int (((x3 + x4).toUInt32 >>> ((1 : Int32) &&& 31).toUInt32).toInt32)), .val (.long (sl.getD (plaF (((x3 + x4).toUInt32 >>> ((1 : Int32) &&& 31).toUInt32).toInt32) old sl).toNatClampNeg (0 : Int64))), .second] [])) _
            refine XS.goto X4.here hx rfl (pc0 := 80) (pc' := 13) rfl (hb hby d10_80) (by decide) (by decide) ?_
            exact kt
          have hz := own_dL hA hS hi (by assumption) (by assumption) (by assumption)
          exact IH _ (hz.1) _ _ _ _ X4 (Nat.le_trans (Nat.add_le_add_right hcl 0) (by decide)) (Nat.le_trans (Nat.add_le_add_right hsl 0) (by decide)) e4 N4 ((((x3 + x4).toUInt32 >>> ((1 : Int32) &&& 31).toUInt32).toInt32) + (1 : Int32)) x4 x5 (.val (.int (((x3 + x4).toUInt32 >>> ((1 : Int32) &&& 31).toUInt32).toInt32))) (.val (.long (sl.getD (plaF (((x3 + x4).toUInt32 >>> ((1 : Int32) &&& 31).toUInt32).toInt32) old sl).toNatClampNeg (0 : Int64)))) (.second) (One.val rfl) (Or.inr ⟨_, rfl, rfl⟩) hz.2 rfl
        · have _ := hc6
          refine Go.step (T' := T4) (f' := (mkF m 60 #[.val (.ref a), .val (.long tm), .second, .val (.int x3), .val (.int x4), .val (.int x5), .val (.int (((x3 + x4).toUInt32 >>> ((1 : Int32) &&& 31).toUInt32).toInt32)), .val (.long (sl.getD (plaF (((x3 + x4).toUInt32 >>> ((1 : Int32) &&& 31).toUInt32).toInt32) old sl).toNatClampNeg (0 : Int64))), .second] [])) (fun t kt => ?_) ?_
          · show Steps p.tables e below (T4.setTop (mkF m 49 #[.val (.ref a), .val (.long tm), .second, .val (.int x3), .val (.int x4), .val (.int x5), .val (.int (((x3 + x4).toUInt32 >>> ((1 : Int32) &&& 31).toUInt32).toInt32)), .val (.long (sl.getD (plaF (((x3 + x4).toUInt32 >>> ((1 : Int32) &&& 31).toUInt32).toInt32) old sl).toNatClampNeg (0 : Int64))), .second] [(.int (lcmpW (sl.getD (plaF (((x3 + x4).toUInt32 >>> ((1 : Int32) &&& 31).toUInt32).toInt32) old sl).toNatClampNeg (0 : Int64)) tm))])) _
            refine XS.ifYes X4.here hx rfl (pc0 := 49) (pc' := 60) rfl (hb hby d10_49) rfl ((if0 _ _).trans (flt (fun q => hc6 ((lw_lt _ _).mp q))).2.1) (by decide) (by decide) ?_
            exact kt
          refine Go.step (T' := T4) (f' := (mkF m 64 #[.val (.ref a), .val (.long tm), .second, .val (.int x3), .val (.int x4), .val (.int x5), .val (.int (((x3 + x4).toUInt32 >>> ((1 : Int32) &&& 31).toUInt32).toInt32)), .val (.long (sl.getD (plaF (((x3 + x4).toUInt32 >>> ((1 : Int32) &&& 31).toUInt32).toInt32) old sl).toNatClampNeg (0 : Int64))), .second] [(.int (lcmpW (sl.getD (plaF (((x3 + x4).toUInt32 >>> ((1 : Int32) &&& 31).toUInt32).toInt32) old sl).toNatClampNeg (0 : Int64)) tm))])) (fun t kt => ?_) ?_
          · show Steps p.tables e below (T4.setTop (mkF m 60 #[.val (.ref a), .val (.long tm), .second, .val (.int x3), .val (.int x4), .val (.int x5), .val (.int (((x3 + x4).toUInt32 >>> ((1 : Int32) &&& 31).toUInt32).toInt32)), .val (.long (sl.getD (plaF (((x3 + x4).toUInt32 >>> ((1 : Int32) &&& 31).toUInt32).toInt32) old sl).toNatClampNeg (0 : Int64))), .second] [])) _
            refine XS.lload X4.here hx rfl (hb hby d10_60) rfl ?_
            show Steps p.tables e below (T4.setTop (mkF m 62 #[.val (.ref a), .val (.long tm), .second, .val (.int x3), .val (.int x4), .val (.int x5), .val (.int (((x3 + x4).toUInt32 >>> ((1 : Int32) &&& 31).toUInt32).toInt32)), .val (.long (sl.getD (plaF (((x3 + x4).toUInt32 >>> ((1 : Int32) &&& 31).toUInt32).toInt32) old sl).toNatClampNeg (0 : Int64))), .second] [(.long (sl.getD (plaF (((x3 + x4).toUInt32 >>> ((1 : Int32) &&& 31).toUInt32).toInt32) old sl).toNatClampNeg (0 : Int64)))])) _
            refine XS.lloadN X4.here hx rfl (hb hby d10_62) rfl ?_
            show Steps p.tables e below (T4.setTop (mkF m 63 #[.val (.ref a), .val (.long tm), .second, .val (.int x3), .val (.int x4), .val (.int x5), .val (.int (((x3 + x4).toUInt32 >>> ((1 : Int32) &&& 31).toUInt32).toInt32)), .val (.long (sl.getD (plaF (((x3 + x4).toUInt32 >>> ((1 : Int32) &&& 31).toUInt32).toInt32) old sl).toNatClampNeg (0 : Int64))), .second] [(.long tm), (.long (sl.getD (plaF (((x3 + x4).toUInt32 >>> ((1 : Int32) &&& 31).toUInt32).toInt32) old sl).toNatClampNeg (0 : Int64)))])) _
            refine XS.lcmp X4.here hx rfl (hb hby d10_63) rfl ?_
            exact kt
          by_cases hc7 : tm < (sl.getD (plaF (((x3 + x4).toUInt32 >>> ((1 : Int32) &&& 31).toUInt32).toInt32) old sl).toNatClampNeg (0 : Int64))
          · have _ := hc7
            refine Go.step (T' := T4) (f' := (mkF m 67 #[.val (.ref a), .val (.long tm), .second, .val (.int x3), .val (.int x4), .val (.int x5), .val (.int (((x3 + x4).toUInt32 >>> ((1 : Int32) &&& 31).toUInt32).toInt32)), .val (.long (sl.getD (plaF (((x3 + x4).toUInt32 >>> ((1 : Int32) &&& 31).toUInt32).toInt32) old sl).toNatClampNeg (0 : Int64))), .second] [])) (fun t kt => ?_) ?_
            · show Steps p.tables e below (T4.setTop (mkF m 64 #[.val (.ref a), .val (.long tm), .second, .val (.int x3), .val (.int x4), .val (.int x5), .val (.int (((x3 + x4).toUInt32 >>> ((1 : Int32) &&& 31).toUInt32).toInt32)), .val (.long (sl.getD (plaF (((x3 + x4).toUInt32 >>> ((1 : Int32) &&& 31).toUInt32).toInt32) old sl).toNatClampNeg (0 : Int64))), .second] [(.int (lcmpW (sl.getD (plaF (((x3 + x4).toUInt32 >>> ((1 : Int32) &&& 31).toUInt32).toInt32) old sl).toNatClampNeg (0 : Int64)) tm))])) _
              refine XS.ifNo X4.here hx rfl (hb hby d10_64) rfl ((if0 _ _).trans (tlt ((lw_gt _ _).mpr hc7)).2.2.2) ?_
              exact kt
            refine Go.step (T' := T4) (f' := (mkF m 13 #[.val (.ref a), .val (.long tm), .second, .val (.int x3), .val (.int ((((x3 + x4).toUInt32 >>> ((1 : Int32) &&& 31).toUInt32).toInt32) - (1 : Int32))), .val (.int x5), .val (.int (((x3 + x4).toUInt32 >>> ((1 : Int32) &&& 31).toUInt32).toInt32)), .val (.long (sl.getD (plaF (((x3 + x4).toUInt32 >>> ((1 : Int32) &&& 31).toUInt32).toInt32) old sl).toNatClampNeg (0 : Int64))), .second] [])) (fun t kt => ?_) ?_
            · show Steps p.tables e below (T4.setTop (mkF m 67 #[.val (.ref a), .val (.long tm), .second, .val (.int x3), .val (.int x4), .val (.int x5), .val (.int (((x3 + x4).toUInt32 >>> ((1 : Int32) &&& 31).toUInt32).toInt32)), .val (.long (sl.getD (plaF (((x3 + x4).toUInt32 >>> ((1 : Int32) &&& 31).toUInt32).toInt32) old sl).toNatClampNeg (0 : Int64))), .second] [])) _
              refine XS.iload X4.here hx rfl (hb hby d10_67) rfl ?_
              show Steps p.tables e below (T4.setTop (mkF m 69 #[.val (.ref a), .val (.long tm), .second, .val (.int x3), .val (.int x4), .val (.int x5), .val (.int (((x3 + x4).toUInt32 >>> ((1 : Int32) &&& 31).toUInt32).toInt32)), .val (.long (sl.getD (plaF (((x3 + x4).toUInt32 >>> ((1 : Int32) &&& 31).toUInt32).toInt32) old sl).toNatClampNeg (0 : Int64))), .second] [(.int (((x3 + x4).toUInt32 >>> ((1 : Int32) &&& 31).toUInt32).toInt32))])) _
              refine XS.iconst X4.here hx rfl (hb hby d10_69) ?_
              show Steps p.tables e below (T4.setTop (mkF m 70 #[.val (.ref a), .val (.long tm), .second, .val (.int x3), .val (.int x4), .val (.int x5), .val (.int (((x3 + x4).toUInt32 >>> ((1 : Int32) &&& 31).toUInt32).toInt32)), .val (.long (sl.getD (plaF (((x3 + x4).toUInt32 >>> ((1 : Int32) &&& 31).toUInt32).toInt32) old sl).toNatClampNeg (0 : Int64))), .second] [(.int (1 : Int32)), (.int (((x3 + x4).toUInt32 >>> ((1 : Int32) &&& 31).toUInt32).toInt32))])) _
              refine XS.isub X4.here hx rfl (hb hby d10_70) rfl ?_
              show Steps p.tables e below (T4.setTop (mkF m 71 #[.val (.ref a), .val (.long tm), .second, .val (.int x3), .val (.int x4), .val (.int x5), .val (.int (((x3 + x4).toUInt32 >>> ((1 : Int32) &&& 31).toUInt32).toInt32)), .val (.long (sl.getD (plaF (((x3 + x4).toUInt32 >>> ((1 : Int32) &&& 31).toUInt32).toInt32) old sl).toNatClampNeg (0 : Int64))), .second] [(.int ((((x3 + x4).toUInt32 >>> ((1 : Int32) &&& 31).toUInt32).toInt32) - (1 : Int32)))])) _
              refine XS.istore X4.here hx rfl (hb hby d10_71) rfl (l' := #[.val (.ref a), .val (.long tm), .second, .val (.int x3), .val (.int ((((x3 + x4).toUInt32 >>> ((1 : Int32) &&& 31).toUInt32).toInt32) - (1 : Int32))), .val (.int x5), .val (.int (((x3 + x4).toUInt32 >>> ((1 : Int32) &&& 31).toUInt32).toInt32)), .val (.long (sl.getD (plaF (((x3 + x4).toUInt32 >>> ((1 : Int32) &&& 31).toUInt32).toInt32) old sl).toNatClampNeg (0 : Int64))), .second]) rfl ?_
              show Steps p.tables e below (T4.setTop (mkF m 73 #[.val (.ref a), .val (.long tm), .second, .val (.int x3), .val (.int ((((x3 + x4).toUInt32 >>> ((1 : Int32) &&& 31).toUInt32).toInt32) - (1 : Int32))), .val (.int x5), .val (.int (((x3 + x4).toUInt32 >>> ((1 : Int32) &&& 31).toUInt32).toInt32)), .val (.long (sl.getD (plaF (((x3 + x4).toUInt32 >>> ((1 : Int32) &&& 31).toUInt32).toInt32) old sl).toNatClampNeg (0 : Int64))), .second] [])) _
              refine XS.goto X4.here hx rfl (pc0 := 73) (pc' := 80) rfl (hb hby d10_73) (by decide) (by decide) ?_
              show Steps p.tables e below (T4.setTop (mkF m 80 #[.val (.ref a), .val (.long tm), .second, .val (.int x3), .val (.int ((((x3 + x4).toUInt32 >>> ((1 : Int32) &&& 31).toUInt32).toInt32) - (1 : Int32))), .val (.int x5), .val (.int (((x3 + x4).toUInt32 >>> ((1 : Int32) &&& 31).toUInt32).toInt32)), .val (.long (sl.getD (plaF (((x3 + x4).toUInt32 >>> ((1 : Int32) &&& 31).toUInt32).toInt32) old sl).toNatClampNeg (0 : Int64))), .second] [])) _
              refine XS.goto X4.here hx rfl (pc0 := 80) (pc' := 13) rfl (hb hby d10_80) (by decide) (by decide) ?_
              exact kt
            have hz := own_dH hA hS hi (by assumption) (by assumption) (by assumption)
            exact IH _ (hz.1) _ _ _ _ X4 (Nat.le_trans (Nat.add_le_add_right hcl 0) (by decide)) (Nat.le_trans (Nat.add_le_add_right hsl 0) (by decide)) e4 N4 x3 ((((x3 + x4).toUInt32 >>> ((1 : Int32) &&& 31).toUInt32).toInt32) - (1 : Int32)) x5 (.val (.int (((x3 + x4).toUInt32 >>> ((1 : Int32) &&& 31).toUInt32).toInt32))) (.val (.long (sl.getD (plaF (((x3 + x4).toUInt32 >>> ((1 : Int32) &&& 31).toUInt32).toInt32) old sl).toNatClampNeg (0 : Int64)))) (.second) (One.val rfl) (Or.inr ⟨_, rfl, rfl⟩) hz.2 rfl
          · have _ := hc7
            refine Go.step (T' := T4) (f' := (mkF m 76 #[.val (.ref a), .val (.long tm), .second, .val (.int x3), .val (.int x4), .val (.int x5), .val (.int (((x3 + x4).toUInt32 >>> ((1 : Int32) &&& 31).toUInt32).toInt32)), .val (.long (sl.getD (plaF (((x3 + x4).toUInt32 >>> ((1 : Int32) &&& 31).toUInt32).toInt32) old sl).toNatClampNeg (0 : Int64))), .second] [])) (fun t kt => ?_) ?_
            · show Steps p.tables e below (T4.setTop (mkF m 64 #[.val (.ref a), .val (.long tm), .second, .val (.int x3), .val (.int x4), .val (.int x5), .val (.int (((x3 + x4).toUInt32 >>> ((1 : Int32) &&& 31).toUInt32).toInt32)), .val (.long (sl.getD (plaF (((x3 + x4).toUInt32 >>> ((1 : Int32) &&& 31).toUInt32).toInt32) old sl).toNatClampNeg (0 : Int64))), .second] [(.int (lcmpW (sl.getD (plaF (((x3 + x4).toUInt32 >>> ((1 : Int32) &&& 31).toUInt32).toInt32) old sl).toNatClampNeg (0 : Int64)) tm))])) _
              refine XS.ifYes X4.here hx rfl (pc0 := 64) (pc' := 76) rfl (hb hby d10_64) rfl ((if0 _ _).trans (flt (fun q => hc7 ((lw_gt _ _).mp q))).2.2.2) (by decide) (by decide) ?_
              exact kt
            refine Go.step (T' := T4) (f' := (mkF m 13 #[.val (.ref a), .val (.long tm), .second, .val (.int x3), .val (.int x4), .val (.int (((x3 + x4).toUInt32 >>> ((1 : Int32) &&& 31).toUInt32).toInt32)), .val (.int (((x3 + x4).toUInt32 >>> ((1 : Int32) &&& 31).toUInt32).toInt32)), .val (.long (sl.getD (plaF (((x3 + x4).toUInt32 >>> ((1 : Int32) &&& 31).toUInt32).toInt32) old sl).toNatClampNeg (0 : Int64))), .second] [])) (fun t kt => ?_) ?_
            · show Steps p.tables e below (T4.setTop (mkF m 76 #[.val (.ref a), .val (.long tm), .second, .val (.int x3), .val (.int x4), .val (.int x5), .val (.int (((x3 + x4).toUInt32 >>> ((1 : Int32) &&& 31).toUInt32).toInt32)), .val (.long (sl.getD (plaF (((x3 + x4).toUInt32 >>> ((1 : Int32) &&& 31).toUInt32).toInt32) old sl).toNatClampNeg (0 : Int64))), .second] [])) _
              refine XS.iload X4.here hx rfl (hb hby d10_76) rfl ?_
              show Steps p.tables e below (T4.setTop (mkF m 78 #[.val (.ref a), .val (.long tm), .second, .val (.int x3), .val (.int x4), .val (.int x5), .val (.int (((x3 + x4).toUInt32 >>> ((1 : Int32) &&& 31).toUInt32).toInt32)), .val (.long (sl.getD (plaF (((x3 + x4).toUInt32 >>> ((1 : Int32) &&& 31).toUInt32).toInt32) old sl).toNatClampNeg (0 : Int64))), .second] [(.int (((x3 + x4).toUInt32 >>> ((1 : Int32) &&& 31).toUInt32).toInt32))])) _
              refine XS.istore X4.here hx rfl (hb hby d10_78) rfl (l' := #[.val (.ref a), .val (.long tm), .second, .val (.int x3), .val (.int x4), .val (.int (((x3 + x4).toUInt32 >>> ((1 : Int32) &&& 31).toUInt32).toInt32)), .val (.int (((x3 + x4).toUInt32 >>> ((1 : Int32) &&& 31).toUInt32).toInt32)), .val (.long (sl.getD (plaF (((x3 + x4).toUInt32 >>> ((1 : Int32) &&& 31).toUInt32).toInt32) old sl).toNatClampNeg (0 : Int64))), .second]) rfl ?_
              show Steps p.tables e below (T4.setTop (mkF m 80 #[.val (.ref a), .val (.long tm), .second, .val (.int x3), .val (.int x4), .val (.int (((x3 + x4).toUInt32 >>> ((1 : Int32) &&& 31).toUInt32).toInt32)), .val (.int (((x3 + x4).toUInt32 >>> ((1 : Int32) &&& 31).toUInt32).toInt32)), .val (.long (sl.getD (plaF (((x3 + x4).toUInt32 >>> ((1 : Int32) &&& 31).toUInt32).toInt32) old sl).toNatClampNeg (0 : Int64))), .second] [])) _
              refine XS.goto X4.here hx rfl (pc0 := 80) (pc' := 13) rfl (hb hby d10_80) (by decide) (by decide) ?_
              exact kt
            have hz := own_dE hA hS hi (by assumption) (by assumption) (by assumption) (by assumption)
            exact IH _ (hz.1) _ _ _ _ X4 (Nat.le_trans (Nat.add_le_add_right hcl 0) (by decide)) (Nat.le_trans (Nat.add_le_add_right hsl 0) (by decide)) e4 N4 x3 x4 (((x3 + x4).toUInt32 >>> ((1 : Int32) &&& 31).toUInt32).toInt32) (.val (.int (((x3 + x4).toUInt32 >>> ((1 : Int32) &&& 31).toUInt32).toInt32))) (.val (.long (sl.getD (plaF (((x3 + x4).toUInt32 >>> ((1 : Int32) &&& 31).toUInt32).toInt32) old sl).toNatClampNeg (0 : Int64)))) (.second) (One.val rfl) (Or.inr ⟨_, rfl, rfl⟩) hz.2 rfl
    · have _ := hc1
      refine Go.step (T' := T) (f' := (mkF m 83 #[.val (.ref a), .val (.long tm), .second, .val (.int x3), .val (.int x4), .val (.int x5), s6, s7, s8] [])) (fun t kt => ?_) ?_
      · show Steps p.tables e below (T.setTop (mkF m 15 #[.val (.ref a), .val (.long tm), .second, .val (.int x3), .val (.int x4), .val (.int x5), s6, s7, s8] [(.int x5)])) _
        refine XS.ifYes X.here hx rfl (pc0 := 15) (pc' := 83) rfl (hb hby d10_15) rfl ((if0 _ _).trans (flt hc1).2.1) (by decide) (by decide) ?_
        exact kt
      refine Go.step (T' := T) (f' := (mkF m 85 #[.val (.ref a), .val (.long tm), .second, .val (.int x3), .val (.int x4), .val (.int x5), s6, s7, s8] [(.int x5)])) (fun t kt => ?_) ?_
      · show Steps p.tables e below (T.setTop (mkF m 83 #[.val (.ref a), .val (.long tm), .second, .val (.int x3), .val (.int x4), .val (.int x5), s6, s7, s8] [])) _
        refine XS.iload X.here hx rfl (hb hby d10_83) rfl ?_
        exact kt
      refine Go.fin X (v := some (.int x5)) (fun h => by rw [Bd.returns] at h; cases h) Bd.notSynchronized ?_ (Nat.le_trans hcl (by decide)) (Nat.le_trans hsl (by decide)) (fun fs hr => retI X hx Bd.returns (hb hby d10_85) hr)
      · show QfinA Z a tm aS aA tmo old cnt sl al NN q h0 n0 _ T.heap _
        exact ⟨x5, rfl, N, eT, own_dR hA hi (by first | exact Or.inl (by assumption) | exact Or.inr (by assumption))⟩
  obtain ⟨T8, X8, e8, st8⟩ := getF X0 hx hZ hown (host := "") (Or.inl (hw _ (List.mem_of_getElem? (i := 33) rfl))) Via.refl e0 F5 (g := (mkF m 3 #[.val (.ref a), .val (.long tm), .second, .val (.int (0 : Int32)), .unset, .unset, .unset, .unset, .unset] [(.ref a)])) rfl rfl (hb hby d10_3)
  refine Go.step (T' := T8) (f' := (mkF m 13 #[.val (.ref a), .val (.long tm), .second, .val (.int (0 : Int32)), .val (.int (cnt - (1 : Int32))), .val (.int (-1 : Int32)), .unset, .unset, .unset] [])) (fun t kt => ?_) ?_
  · show Steps p.tables e below (s₁.setTop (mkF m 0 #[.val (.ref a), .val (.long tm), .second, .unset, .unset, .unset, .unset, .unset, .unset] [])) _
    refine XS.iconst X0.here hx rfl (hb hby d10_0) ?_
    show Steps p.tables e below (s₁.setTop (mkF m 1 #[.val (.ref a), .val (.long tm), .second, .unset, .unset, .unset, .unset, .unset, .unset] [(.int (0 : Int32))])) _
    refine XS.istoreN X0.here hx rfl (hb hby d10_1) rfl (l' := #[.val (.ref a), .val (.long tm), .second, .val (.int (0 : Int32)), .unset, .unset, .unset, .unset, .unset]) rfl ?_
    show Steps p.tables e below (s₁.setTop (mkF m 2 #[.val (.ref a), .val (.long tm), .second, .val (.int (0 : Int32)), .unset, .unset, .unset, .unset, .unset] [])) _
    refine XS.aloadN X0.here hx rfl (hb hby d10_2) rfl rfl ?_
    show Steps p.tables e below (s₁.setTop (mkF m 3 #[.val (.ref a), .val (.long tm), .second, .val (.int (0 : Int32)), .unset, .unset, .unset, .unset, .unset] [(.ref a)])) _
    refine st8 _ ?_
    show Steps p.tables e below (T8.setTop (mkF m 6 #[.val (.ref a), .val (.long tm), .second, .val (.int (0 : Int32)), .unset, .unset, .unset, .unset, .unset] [(.int cnt)])) _
    refine XS.iconst X8.here hx rfl (hb hby d10_6) ?_
    show Steps p.tables e below (T8.setTop (mkF m 7 #[.val (.ref a), .val (.long tm), .second, .val (.int (0 : Int32)), .unset, .unset, .unset, .unset, .unset] [(.int (1 : Int32)), (.int cnt)])) _
    refine XS.isub X8.here hx rfl (hb hby d10_7) rfl ?_
    show Steps p.tables e below (T8.setTop (mkF m 8 #[.val (.ref a), .val (.long tm), .second, .val (.int (0 : Int32)), .unset, .unset, .unset, .unset, .unset] [(.int (cnt - (1 : Int32)))])) _
    refine XS.istore X8.here hx rfl (hb hby d10_8) rfl (l' := #[.val (.ref a), .val (.long tm), .second, .val (.int (0 : Int32)), .val (.int (cnt - (1 : Int32))), .unset, .unset, .unset, .unset]) rfl ?_
    show Steps p.tables e below (T8.setTop (mkF m 10 #[.val (.ref a), .val (.long tm), .second, .val (.int (0 : Int32)), .val (.int (cnt - (1 : Int32))), .unset, .unset, .unset, .unset] [])) _
    refine XS.iconst X8.here hx rfl (hb hby d10_10) ?_
    show Steps p.tables e below (T8.setTop (mkF m 11 #[.val (.ref a), .val (.long tm), .second, .val (.int (0 : Int32)), .val (.int (cnt - (1 : Int32))), .unset, .unset, .unset, .unset] [(.int (-1 : Int32))])) _
    refine XS.istore X8.here hx rfl (hb hby d10_11) rfl (l' := #[.val (.ref a), .val (.long tm), .second, .val (.int (0 : Int32)), .val (.int (cnt - (1 : Int32))), .val (.int (-1 : Int32)), .unset, .unset, .unset]) rfl ?_
    exact kt
  exact S13 _ _ _ _ _ X8 (Nat.le_trans (Nat.le_refl 0) (by decide)) (Nat.le_trans (Nat.le_refl 0) (by decide)) e8 N0 (0 : Int32) (cnt - (1 : Int32)) (-1 : Int32) (.unset) (.unset) (.unset) (One.u) (Or.inl ⟨rfl, rfl⟩) (own_d0 hA) rfl
theorem pd_1 : parseMethodDescriptor "(J)V" = some ⟨[.long], none⟩ := by decide +kernel
theorem pd_2 : parseMethodDescriptor "(J)I" = some ⟨[.long], some .int⟩ := by decide +kernel
theorem d9_0 : decode prog_10_method_3_code 0 = .ok (.aload_n 0, 1) := by decide +kernel
theorem d9_1 : decode prog_10_method_3_code 1 = .ok (.lload_n 3, 1) := by decide +kernel
theorem d9_2 : decode prog_10_method_3_code 2 = .ok (.invokevirtual 21, 3) := by decide +kernel
theorem d9_5 : decode prog_10_method_3_code 5 = .ok (.aload_n 0, 1) := by decide +kernel
theorem d9_6 : decode prog_10_method_3_code 6 = .ok (.lload_n 1, 1) := by decide +kernel
theorem d9_7 : decode prog_10_method_3_code 7 = .ok (.invokevirtual 36, 3) := by decide +kernel
theorem d9_10 : decode prog_10_method_3_code 10 = .ok (.istore 5, 2) := by decide +kernel
theorem d9_12 : decode prog_10_method_3_code 12 = .ok (.iload 5, 2) := by decide +kernel
theorem d9_14 : decode prog_10_method_3_code 14 = .ok (.ifCond .lt 21, 3) := by decide +kernel
theorem d9_17 : decode prog_10_method_3_code 17 = .ok (.aload_n 0, 1) := by decide +kernel
theorem d9_18 : decode prog_10_method_3_code 18 = .ok (.getfield 13, 3) := by decide +kernel
theorem d9_21 : decode prog_10_method_3_code 21 = .ok (.aload_n 0, 1) := by decide +kernel
theorem d9_22 : decode prog_10_method_3_code 22 = .ok (.iload 5, 2) := by decide +kernel
theorem d9_24 : decode prog_10_method_3_code 24 = .ok (.invokevirtual 32, 3) := by decide +kernel
theorem d9_27 : decode prog_10_method_3_code 27 = .ok (.baload, 1) := by decide +kernel
theorem d9_28 : decode prog_10_method_3_code 28 = .ok (.ifCond .ne 7, 3) := by decide +kernel
theorem d9_31 : decode prog_10_method_3_code 31 = .ok (.iconst 1, 1) := by decide +kernel
theorem d9_32 : decode prog_10_method_3_code 32 = .ok (.goto 4, 3) := by decide +kernel
theorem d9_35 : decode prog_10_method_3_code 35 = .ok (.iconst 0, 1) := by decide +kernel
theorem d9_36 : decode prog_10_method_3_code 36 = .ok (.istore 6, 2) := by decide +kernel
theorem d9_38 : decode prog_10_method_3_code 38 = .ok (.iload 6, 2) := by decide +kernel
theorem d9_40 : decode prog_10_method_3_code 40 = .ok (.ifCond .eq 15, 3) := by decide +kernel
theorem d9_43 : decode prog_10_method_3_code 43 = .ok (.aload_n 0, 1) := by decide +kernel
theorem d9_44 : decode prog_10_method_3_code 44 = .ok (.getfield 13, 3) := by decide +kernel
theorem d9_47 : decode prog_10_method_3_code 47 = .ok (.aload_n 0, 1) := by decide +kernel
theorem d9_48 : decode prog_10_method_3_code 48 = .ok (.iload 5, 2) := by decide +kernel
theorem d9_50 : decode prog_10_method_3_code 50 = .ok (.invokevirtual 32, 3) := by decide +kernel
theorem d9_53 : decode prog_10_method_3_code 53 = .ok (.iconst 1, 1) := by decide +kernel
theorem d9_54 : decode prog_10_method_3_code 54 = .ok (.bastore, 1) := by decide +kernel
theorem d9_55 : decode prog_10_method_3_code 55 = .ok (.iload 6, 2) := by decide +kernel
theorem d9_57 : decode prog_10_method_3_code 57 = .ok (.ireturn, 1) := by decide +kernel
theorem ef_ansA (m : MethodId) (x0 : Addr) (x1 : Int64) (x2 : Int64) : entryFrame m #[(.ref x0), (.long x1), (.long x2)] 7 = mkF m 0 #[.val (.ref x0), .val (.long x1), .second, .val (.long x2), .second, .unset, .unset] [] := by first | (simp [entryFrame, mkF, argsToLocals, Value.category]; done) | rfl
def QansA (Z : State) (a : Addr) (ec : Int64) (now : Int64) (aS : Addr) (aA : Addr) (tmo : Int64) (old : Int32) (cnt : Int32) (sl : List Int64) (al : List Int32) (NN : Nat) (q : List (Int64 × Int32)) (h0 : Heap) (n0 : Nat) (v : Option Value) (h : Heap) (L : List Loc) : Prop := ∃ (o1 : Int32), ∃ (c1 : Int32), ∃ (al1 : List Int32), ∃ (b : Int32), v = some (.int b) ∧ Fr n0 L ∧ Keep h0 h [a, aA] ∧ Fld Z h a "com/example/talthybius/talthybius/AwaitedPings" "timeoutNanos" "J" (.long tmo) ∧ Fld Z h a "com/example/talthybius/talthybius/AwaitedPings" "sentAt" "[J" (.ref aS) ∧ Fld Z h a "com/example/talthybius/talthybius/AwaitedPings" "answered" "[Z" (.ref aA) ∧ Fld Z h a "com/example/talthybius/talthybius/AwaitedPings" "oldest" "I" (.int o1) ∧ Fld Z h a "com/example/talthybius/talthybius/AwaitedPings" "count" "I" (.int c1) ∧ VA Z h aA .boolean (al1.map Value.int) ∧ (own_AP NN sl al1 o1 c1 (own_mk ec (own_dr now tmo q)) ∧ b = own_an ec (own_dr now tmo q))
set_option maxRecDepth 65536 in
set_option maxHeartbeats 40000000 in
theorem rm_ansA (l : Launch) (Z : State) (a0 : Array Value) (hw : ∀ d ∈ tables_1, d.before a0 Z = true) (ws : List Jvm.Cond) (a : Addr) (ec : Int64) (now : Int64) (aS : Addr) (aA : Addr) (tmo : Int64) (old : Int32) (cnt : Int32) (sl : List Int64) (al : List Int32) (NN : Nat) (q : List (Int64 × Int32)) (h0 : Heap) (n0 : Nat) (Z0 : n0 ≤ h0.size) (F0 : Exa Z h0 a "com/example/talthybius/talthybius/AwaitedPings") (F1 : Fld Z h0 a "com/example/talthybius/talthybius/AwaitedPings" "timeoutNanos" "J" (.long tmo)) (F2 : Fld Z h0 a "com/example/talthybius/talthybius/AwaitedPings" "sentAt" "[J" (.ref aS)) (F3 : Fld Z h0 a "com/example/talthybius/talthybius/AwaitedPings" "answered" "[Z" (.ref aA)) (F4 : Fld Z h0 a "com/example/talthybius/talthybius/AwaitedPings" "oldest" "I" (.int old)) (F5 : Fld Z h0 a "com/example/talthybius/talthybius/AwaitedPings" "count" "I" (.int cnt)) (F6 : VA Z h0 aS .long (sl.map Value.long)) (F7 : VA Z h0 aA .boolean (al.map Value.int)) (g_a : n0 ≤ a) (g_aA : n0 ≤ aA) (ne_a_aS : a ≠ aS) (ne_a_aA : a ≠ aA) (ne_aS_aA : aS ≠ aA) (hA : own_AP NN sl al old cnt q) (hS : own_srt q) :
    MetFree l (⟨"com/example/talthybius/talthybius/AwaitedPings", "answer", "(JJ)Z"⟩ : MethodName) (head1 (Jvm.Cond.code (⟨"com/example/talthybius/talthybius/AwaitedPings", "answer", "(JJ)Z"⟩ : MethodName) prog_10_method_3_code 7 (some .boolean) :: ws) ({ frames := 2, cells := 0, slots := 0, locals := 35 } : Room)) (fun A_ U => A_ = #[(.ref a), (.long ec), (.long now)] ∧ Z.Warmed39 U.vm ∧ U.heap = h0) (fun _ _ _ _ _ => True) (fun _ U o U' => ∃ v L, o = .returned v ∧ QansA Z a ec now aS aA tmo old cnt sl al NN q h0 n0 v U'.heap L ∧ FrameEnd U o U' L ({ frames := 2, cells := 0, slots := 0, locals := 35 } : Room).cells ({ frames := 2, cells := 0, slots := 0, locals := 35 } : Room).slots) := by
  refine MetFree.of_bodySF (plainFor_of_name pn_0) hisR ?_
  intro p e s m args below meth c s₁ Bd hml0 hP hK
  obtain ⟨rfl, hZ, hh⟩ := hP
  have hx := Bd.exec
  have hby := Bd.bytes
  have hml : c.maxLocals = 7 := hml0
  have hown : s.vm.findClass "com/example/talthybius/talthybius/AwaitedPings" = some m.cls := findClass_of_methodNamed Bd.named
  have hnm := (name_of_methodNamed Bd.named Bd.method).1
  have X0 : Stand p l e ({ frames := 2, cells := 0, slots := 0, locals := 35 } : Room) s m #[(.ref a), (.long ec), (.long now)] below meth c s₁ [] 0 0 := Stand.of_body Bd
  have e0 : s₁.heap = h0 := by rw [← hh, Bd.state]; rfl
  have N0 := Fr.nil n0
  suffices HGO : Go p e below s (QansA Z a ec now aS aA tmo old cnt sl al NN q h0 n0) ({ frames := 2, cells := 0, slots := 0, locals := 35 } : Room).cells ({ frames := 2, cells := 0, slots := 0, locals := 35 } : Room).slots s₁ (mkF m 0 #[.val (.ref a), .val (.long ec), .second, .val (.long now), .second, .unset, .unset] []) from Go.cast (ef_ansA m a ec now) HGO
  obtain ⟨cq1, q1, q1'⟩ := (F0 : Exa Z h0 a "com/example/talthybius/talthybius/AwaitedPings").cell
  obtain ⟨_, _, ⟨T1, L1, k1, n1⟩, -, X1, ⟨Lc1, hQ1, l1, y1, z1⟩, st1⟩ := X0.privateBack hx (y := (⟨"com/example/talthybius/talthybius/AwaitedPings", "forget", "(J)V"⟩ : MethodName)) hown (mvT hZ (hw _ (List.mem_of_getElem? (i := 29) rfl))) (mvT hZ (hw _ (List.mem_of_getElem? (i := 30) rfl))) (own_psel (mvT hZ (hw _ (List.mem_of_getElem? (i := 9) rfl))) (Cond.privateMethod_at (mvP hZ (hw _ (List.mem_of_getElem? (i := 31) rfl)) (args := #[]))) (mvT hZ (hw _ (List.mem_of_getElem? (i := 30) rfl))) (by decide)) (Cond.privateMethod_at (mvP hZ (hw _ (List.mem_of_getElem? (i := 31) rfl)) (args := #[]))) (mvT hZ (hw _ (List.mem_of_getElem? (i := 32) rfl))) (by decide) (backOf (W := 0) (rm_fgtA l Z a0 hw [] a now aS aA tmo old cnt sl al NN q h0 n0 Z0 F0 F1 F2 F3 F4 F5 F6 F7 g_a ne_a_aS ne_a_aA ne_aS_aA hA) hZ (hw _ (List.mem_of_getElem? (i := 32) rfl)) (hw _ (List.mem_of_getElem? (i := 10) rfl)) (by decide) (by decide)) (g := (mkF m 2 #[.val (.ref a), .val (.long ec), .second, .val (.long now), .second, .unset, .unset] [(.long now), (.ref a)])) rfl (by rw [hml]; rfl) (Steps.refl _) (a := a) (by rw [e0]; exact q1) q1' (argsL := [(.long now)]) (rest := []) (lenOf pd_1 rfl) rfl (by show 2 * 0 + _ ≤ _; exact Nat.le_of_eq rfl) (hb hby d9_2) (fun _ _ => ⟨rfl, e0, (Nat.le_trans (Nat.add_le_add_right (Nat.le_refl 0) 0) (by decide)), (Nat.le_trans (Nat.add_le_add_right (Nat.le_refl 0) 0) (by decide))⟩)
  dsimp only [Pt.U, Pt.locs, Pt.cells, Pt.slots] at X1 l1 y1 z1 st1 hQ1
  subst l1 y1 z1
  obtain ⟨o1_1, c1_1, rfl, N1q, Kq1, pf1_0, pf1_1, pf1_2, pf1_3, pf1_4, ph1_0⟩ := hQ1
  have G2 : Exa Z T1.heap a "com/example/talthybius/talthybius/AwaitedPings" := Exa.keep F0 Kq1
  have G3 : VA Z T1.heap aS .long (sl.map Value.long) := F6.keep Kq1 (ninS (Ne.symm ne_a_aS) nin0)
  have G4 : VA Z T1.heap aA .boolean (al.map Value.int) := F7.keep Kq1 (ninS (Ne.symm ne_a_aA) nin0)
  have K1 : Keep h0 T1.heap [a, aA] := Keep.trans (Keep.refl h0 [a, aA]) Kq1 (allS (Or.inl (List.mem_of_getElem? (i := 0) rfl)) all0)
  have Z1 : n0 ≤ T1.heap.size := Nat.le_trans Z0 K1.1
  have N1 := Fr.app N0 N1q
  have hF := ph1_0
  obtain ⟨cq5, q5, q5'⟩ := (G2 : Exa Z T1.heap a "com/example/talthybius/talthybius/AwaitedPings").cell
  obtain ⟨_, _, ⟨T5, L5, k5, n5⟩, -, X5, ⟨Lc5, hQ5, l5, y5, z5⟩, st5⟩ := X1.privateBack hx (y := (⟨"com/example/talthybius/talthybius/AwaitedPings", "find", "(J)I"⟩ : MethodName)) hown (mvT hZ (hw _ (List.mem_of_getElem? (i := 55) rfl))) (mvT hZ (hw _ (List.mem_of_getElem? (i := 56) rfl))) (own_psel (mvT hZ (hw _ (List.mem_of_getElem? (i := 9) rfl))) (Cond.privateMethod_at (mvP hZ (hw _ (List.mem_of_getElem? (i := 57) rfl)) (args := #[]))) (mvT hZ (hw _ (List.mem_of_getElem? (i := 56) rfl))) (by decide)) (Cond.privateMethod_at (mvP hZ (hw _ (List.mem_of_getElem? (i := 57) rfl)) (args := #[]))) (mvT hZ (hw _ (List.mem_of_getElem? (i := 58) rfl))) (by decide) (backOf (W := 0) (rm_finA l Z a0 hw [] a ec aS aA tmo o1_1 c1_1 sl al NN (own_dr now tmo q) T1.heap n0 Z1 G2 pf1_0 pf1_1 pf1_2 pf1_3 pf1_4 G3 G4 hF (own_sdr hS)) hZ (hw _ (List.mem_of_getElem? (i := 58) rfl)) (hw _ (List.mem_of_getElem? (i := 10) rfl)) (by decide) (by decide)) (g := (mkF m 7 #[.val (.ref a), .val (.long ec), .second, .val (.long now), .second, .unset, .unset] [(.long ec), (.ref a)])) rfl (by rw [hml]; rfl) (Steps.refl _) (a := a) q5 q5' (argsL := [(.long ec)]) (rest := []) (lenOf pd_2 rfl) rfl (by show 2 * 0 + _ ≤ _; exact Nat.le_of_eq rfl) (hb hby d9_7) (fun _ _ => ⟨rfl, rfl, (Nat.le_trans (Nat.add_le_add_right (Nat.add_le_add_right (Nat.le_refl 0) 0) 0) (by decide)), (Nat.le_trans (Nat.add_le_add_right (Nat.add_le_add_right (Nat.le_refl 0) 0) 0) (by decide))⟩)
  dsimp only [Pt.U, Pt.locs, Pt.cells, Pt.slots] at X5 l5 y5 z5 st5 hQ5
  subst l5 y5 z5
  obtain ⟨r_5, rfl, N5q, e5, ph5_0⟩ := hQ5
  have N5 := Fr.app N1 N5q
  have hR := ph5_0
  refine Go.step (T' := T5) (f' := (mkF m 14 #[.val (.ref a), .val (.long ec), .second, .val (.long now), .second, .val (.int r_5), .unset] [(.int r_5)])) (fun t kt => ?_) ?_
  · show Steps p.tables e below (s₁.setTop (mkF m 0 #[.val (.ref a), .val (.long ec), .second, .val (.long now), .second, .unset, .unset] [])) _
    refine XS.aloadN X0.here hx rfl (hb hby d9_0) rfl rfl ?_
    show Steps p.tables e below (s₁.setTop (mkF m 1 #[.val (.ref a), .val (.long ec), .second, .val (.long now), .second, .unset, .unset] [(.ref a)])) _
    refine XS.lloadN X0.here hx rfl (hb hby d9_1) rfl ?_
    show Steps p.tables e below (s₁.setTop (mkF m 2 #[.val (.ref a), .val (.long ec), .second, .val (.long now), .second, .unset, .unset] [(.long now), (.ref a)])) _
    refine st1.trans ?_
    show Steps p.tables e below (T1.setTop (mkF m 5 #[.val (.ref a), .val (.long ec), .second, .val (.long now), .second, .unset, .unset] [])) _
    refine XS.aloadN X1.here hx rfl (hb hby d9_5) rfl rfl ?_
    show Steps p.tables e below (T1.setTop (mkF m 6 #[.val (.ref a), .val (.long ec), .second, .val (.long now), .second, .unset, .unset] [(.ref a)])) _
    refine XS.lloadN X1.here hx rfl (hb hby d9_6) rfl ?_
    show Steps p.tables e below (T1.setTop (mkF m 7 #[.val (.ref a), .val (.long ec), .second, .val (.long now), .second, .unset, .unset] [(.long ec), (.ref a)])) _
    refine st5.trans ?_
    show Steps p.tables e below (T5.setTop (mkF m 10 #[.val (.ref a), .val (.long ec), .second, .val (.long now), .second, .unset, .unset] [(.int r_5)])) _
    refine XS.istore X5.here hx rfl (hb hby d9_10) rfl (l' := #[.val (.ref a), .val (.long ec), .second, .val (.long now), .second, .val (.int r_5), .unset]) rfl ?_
    show Steps p.tables e below (T5.setTop (mkF m 12 #[.val (.ref a), .val (.long ec), .second, .val (.long now), .second, .val (.int r_5), .unset] [])) _
    refine XS.iload X5.here hx rfl (hb hby d9_12) rfl ?_
    exact kt
  by_cases hc6 : r_5 < (0 : Int32)
  · have _ := hc6
    refine Go.step (T' := T5) (f' := (mkF m 35 #[.val (.ref a), .val (.long ec), .second, .val (.long now), .second, .val (.int r_5), .unset] [])) (fun t kt => ?_) ?_
    · show Steps p.tables e below (T5.setTop (mkF m 14 #[.val (.ref a), .val (.long ec), .second, .val (.long now), .second, .val (.int r_5), .unset] [(.int r_5)])) _
      refine XS.ifYes X5.here hx rfl (pc0 := 14) (pc' := 35) rfl (hb hby d9_14) rfl ((if0 _ _).trans (tlt hc6).1) (by decide) (by decide) ?_
      exact kt
    refine Go.step (T' := T5) (f' := (mkF m 57 #[.val (.ref a), .val (.long ec), .second, .val (.long now), .second, .val (.int r_5), .val (.int (0 : Int32))] [(.int (0 : Int32))])) (fun t kt => ?_) ?_
    · show Steps p.tables e below (T5.setTop (mkF m 35 #[.val (.ref a), .val (.long ec), .second, .val (.long now), .second, .val (.int r_5), .unset] [])) _
      refine XS.iconst X5.here hx rfl (hb hby d9_35) ?_
      show Steps p.tables e below (T5.setTop (mkF m 36 #[.val (.ref a), .val (.long ec), .second, .val (.long now), .second, .val (.int r_5), .unset] [(.int (0 : Int32))])) _
      refine XS.istore X5.here hx rfl (hb hby d9_36) rfl (l' := #[.val (.ref a), .val (.long ec), .second, .val (.long now), .second, .val (.int r_5), .val (.int (0 : Int32))]) rfl ?_
      show Steps p.tables e below (T5.setTop (mkF m 38 #[.val (.ref a), .val (.long ec), .second, .val (.long now), .second, .val (.int r_5), .val (.int (0 : Int32))] [])) _
      refine XS.iload X5.here hx rfl (hb hby d9_38) rfl ?_
      show Steps p.tables e below (T5.setTop (mkF m 40 #[.val (.ref a), .val (.long ec), .second, .val (.long now), .second, .val (.int r_5), .val (.int (0 : Int32))] [(.int (0 : Int32))])) _
      refine XS.ifYes X5.here hx rfl (pc0 := 40) (pc' := 55) rfl (hb hby d9_40) rfl ((if0 _ _).trans (teq (by decide : ((0 : Int32) = (0 : Int32)))).1) (by decide) (by decide) ?_
      show Steps p.tables e below (T5.setTop (mkF m 55 #[.val (.ref a), .val (.long ec), .second, .val (.long now), .second, .val (.int r_5), .val (.int (0 : Int32))] [])) _
      refine XS.iload X5.here hx rfl (hb hby d9_55) rfl ?_
      exact kt
    refine Go.fin X5 (v := some (.int (0 : Int32))) (fun h => by rw [Bd.returns] at h; cases h) Bd.notSynchronized ?_ (Nat.le_trans (Nat.add_le_add_right (Nat.add_le_add_right (Nat.le_refl 0) 0) 0) (by decide)) (Nat.le_trans (Nat.add_le_add_right (Nat.add_le_add_right (Nat.le_refl 0) 0) 0) (by decide)) (fun fs hr => retN X5 hx (t := .boolean) Bd.returns (by simp) (hb hby d9_57) hr)
    · show QansA Z a ec now aS aA tmo old cnt sl al NN q h0 n0 _ T5.heap _
      rw [e5]
      exact ⟨o1_1, c1_1, al, (0 : Int32), rfl, N5, K1, pf1_0, pf1_1, pf1_2, pf1_3, pf1_4, G4, own_a1 hF hR (by assumption)⟩
  · have _ := hc6
    refine Go.step (T' := T5) (f' := (mkF m 17 #[.val (.ref a), .val (.long ec), .second, .val (.long now), .second, .val (.int r_5), .unset] [])) (fun t kt => ?_) ?_
    · show Steps p.tables e below (T5.setTop (mkF m 14 #[.val (.ref a), .val (.long ec), .second, .val (.long now), .second, .val (.int r_5), .unset] [(.int r_5)])) _
      refine XS.ifNo X5.here hx rfl (hb hby d9_14) rfl ((if0 _ _).trans (flt hc6).1) ?_
      exact kt
    obtain ⟨T7, X7, e7, st7⟩ := getF X5 hx hZ hown (host := "") (Or.inl (hw _ (List.mem_of_getElem? (i := 20) rfl))) Via.refl e5 pf1_2 (g := (mkF m 18 #[.val (.ref a), .val (.long ec), .second, .val (.long now), .second, .val (.int r_5), .unset] [(.ref a)])) rfl rfl (hb hby d9_18)
    obtain ⟨cq8, q8, q8'⟩ := (G2 : Exa Z T1.heap a "com/example/talthybius/talthybius/AwaitedPings").cell
    obtain ⟨_, _, ⟨T8, L8, k8, n8⟩, -, X8, ⟨Lc8, hQ8, l8, y8, z8⟩, st8⟩ := X7.privateBack hx (y := (⟨"com/example/talthybius/talthybius/AwaitedPings", "placeOf", "(I)I"⟩ : MethodName)) hown (mvT hZ (hw _ (List.mem_of_getElem? (i := 35) rfl))) (mvT hZ (hw _ (List.mem_of_getElem? (i := 36) rfl))) (own_psel (mvT hZ (hw _ (List.mem_of_getElem? (i := 9) rfl))) (Cond.privateMethod_at (mvP hZ (hw _ (List.mem_of_getElem? (i := 37) rfl)) (args := #[]))) (mvT hZ (hw _ (List.mem_of_getElem? (i := 36) rfl))) (by decide)) (Cond.privateMethod_at (mvP hZ (hw _ (List.mem_of_getElem? (i := 37) rfl)) (args := #[]))) (mvT hZ (hw _ (List.mem_of_getElem? (i := 38) rfl))) (by decide) (backOf (W := 1) (rm_plaF l Z a0 hw [] a r_5 aS o1_1 sl T1.heap n0 Z1 pf1_1 pf1_3 G3 ) hZ (hw _ (List.mem_of_getElem? (i := 38) rfl)) (hw _ (List.mem_of_getElem? (i := 10) rfl)) (by decide) (by decide)) (g := (mkF m 24 #[.val (.ref a), .val (.long ec), .second, .val (.long now), .second, .val (.int r_5), .unset] [(.int r_5), (.ref a), (.ref aA)])) rfl (by rw [hml]; rfl) (Steps.refl _) (a := a) (by rw [e7]; exact q8) q8' (argsL := [(.int r_5)]) (rest := [(.ref aA)]) (lenOf pd_0 rfl) rfl (by show 2 * 0 + _ ≤ _; exact Nat.le_of_eq rfl) (hb hby d9_24) (fun _ _ => ⟨rfl, e7, (Nat.le_trans (Nat.add_le_add_right (Nat.add_le_add_right (Nat.add_le_add_right (Nat.le_refl 0) 0) 0) 0) (by decide)), (Nat.le_trans (Nat.add_le_add_right (Nat.add_le_add_right (Nat.add_le_add_right (Nat.le_refl 0) 0) 0) 0) (by decide))⟩)
    dsimp only [Pt.U, Pt.locs, Pt.cells, Pt.slots] at X8 l8 y8 z8 st8 hQ8
    subst l8 y8 z8
    obtain ⟨rfl, N8q, e8⟩ := hQ8
    have N8 := Fr.app N5 N8q
    have ix9 : 0 ≤ ((plaF r_5 o1_1 sl)).toInt ∧ ((plaF r_5 o1_1 sl)).toInt < ((al).length : Int) := own_aI hF hR (by assumption)
    refine Go.step (T' := T8) (f' := (mkF m 28 #[.val (.ref a), .val (.long ec), .second, .val (.long now), .second, .val (.int r_5), .unset] [(.int (al.getD (plaF r_5 o1_1 sl).toNatClampNeg (0 : Int32)))])) (fun t kt => ?_) ?_
    · show Steps p.tables e below (T5.setTop (mkF m 17 #[.val (.ref a), .val (.long ec), .second, .val (.long now), .second, .val (.int r_5), .unset] [])) _
      refine XS.aloadN X5.here hx rfl (hb hby d9_17) rfl rfl ?_
      show Steps p.tables e below (T5.setTop (mkF m 18 #[.val (.ref a), .val (.long ec), .second, .val (.long now), .second, .val (.int r_5), .unset] [(.ref a)])) _
      refine st7 _ ?_
      show Steps p.tables e below (T7.setTop (mkF m 21 #[.val (.ref a), .val (.long ec), .second, .val (.long now), .second, .val (.int r_5), .unset] [(.ref aA)])) _
      refine XS.aloadN X7.here hx rfl (hb hby d9_21) rfl rfl ?_
      show Steps p.tables e below (T7.setTop (mkF m 22 #[.val (.ref a), .val (.long ec), .second, .val (.long now), .second, .val (.int r_5), .unset] [(.ref a), (.ref aA)])) _
      refine XS.iload X7.here hx rfl (hb hby d9_22) rfl ?_
      show Steps p.tables e below (T7.setTop (mkF m 24 #[.val (.ref a), .val (.long ec), .second, .val (.long now), .second, .val (.int r_5), .unset] [(.int r_5), (.ref a), (.ref aA)])) _
      refine st8.trans ?_
      show Steps p.tables e below (T8.setTop (mkF m 27 #[.val (.ref a), .val (.long ec), .second, .val (.long now), .second, .val (.int r_5), .unset] [(.int (plaF r_5 o1_1 sl)), (.ref aA)])) _
      refine ldZ X8 hx hZ e8 G4 ix9.1 ix9.2 (g := (mkF m 27 #[.val (.ref a), .val (.long ec), .second, .val (.long now), .second, .val (.int r_5), .unset] [(.int (plaF r_5 o1_1 sl)), (.ref aA)])) rfl rfl (hb hby d9_27) _ ?_
      exact kt
    by_cases hc10 : (al.getD (plaF r_5 o1_1 sl).toNatClampNeg (0 : Int32)) = (0 : Int32)
    · have _ := hc10
      refine Go.step (T' := T8) (f' := (mkF m 31 #[.val (.ref a), .val (.long ec), .second, .val (.long now), .second, .val (.int r_5), .unset] [])) (fun t kt => ?_) ?_
      · show Steps p.tables e below (T8.setTop (mkF m 28 #[.val (.ref a), .val (.long ec), .second, .val (.long now), .second, .val (.int r_5), .unset] [(.int (al.getD (plaF r_5 o1_1 sl).toNatClampNeg (0 : Int32)))])) _
        refine XS.ifNo X8.here hx rfl (hb hby d9_28) rfl ((if0 _ _).trans (teq hc10).2) ?_
        exact kt
      obtain ⟨T11, X11, e11, st11⟩ := getF X8 hx hZ hown (host := "") (Or.inl (hw _ (List.mem_of_getElem? (i := 20) rfl))) Via.refl e8 pf1_2 (g := (mkF m 44 #[.val (.ref a), .val (.long ec), .second, .val (.long now), .second, .val (.int r_5), .val (.int (1 : Int32))] [(.ref a)])) rfl rfl (hb hby d9_44)
      obtain ⟨cq12, q12, q12'⟩ := (G2 : Exa Z T1.heap a "com/example/talthybius/talthybius/AwaitedPings").cell
      obtain ⟨_, _, ⟨T12, L12, k12, n12⟩, -, X12, ⟨Lc12, hQ12, l12, y12, z12⟩, st12⟩ := X11.privateBack hx (y := (⟨"com/example/talthybius/talthybius/AwaitedPings", "placeOf", "(I)I"⟩ : MethodName)) hown (mvT hZ (hw _ (List.mem_of_getElem? (i := 35) rfl))) (mvT hZ (hw _ (List.mem_of_getElem? (i := 36) rfl))) (own_psel (mvT hZ (hw _ (List.mem_of_getElem? (i := 9) rfl))) (Cond.privateMethod_at (mvP hZ (hw _ (List.mem_of_getElem? (i := 37) rfl)) (args := #[]))) (mvT hZ (hw _ (List.mem_of_getElem? (i := 36) rfl))) (by decide)) (Cond.privateMethod_at (mvP hZ (hw _ (List.mem_of_getElem? (i := 37) rfl)) (args := #[]))) (mvT hZ (hw _ (List.mem_of_getElem? (i := 38) rfl))) (by decide) (backOf (W := 1) (rm_plaF l Z a0 hw [] a r_5 aS o1_1 sl T1.heap n0 Z1 pf1_1 pf1_3 G3 ) hZ (hw _ (List.mem_of_getElem? (i := 38) rfl)) (hw _ (List.mem_of_getElem? (i := 10) rfl)) (by decide) (by decide)) (g := (mkF m 50 #[.val (.ref a), .val (.long ec), .second, .val (.long now), .second, .val (.int r_5), .val (.int (1 : Int32))] [(.int r_5), (.ref a), (.ref aA)])) rfl (by rw [hml]; rfl) (Steps.refl _) (a := a) (by rw [e11]; exact q12) q12' (argsL := [(.int r_5)]) (rest := [(.ref aA)]) (lenOf pd_0 rfl) rfl (by show 2 * 0 + _ ≤ _; exact Nat.le_of_eq rfl) (hb hby d9_50) (fun _ _ => ⟨rfl, e11, (Nat.le_trans (Nat.add_le_add_right (Nat.add_le_add_right (Nat.add_le_add_right (Nat.add_le_add_right (Nat.le_refl 0) 0) 0) 0) 0) (by decide)), (Nat.le_trans (Nat.add_le_add_right (Nat.add_le_add_right (Nat.add_le_add_right (Nat.add_le_add_right (Nat.le_refl 0) 0) 0) 0) 0) (by decide))⟩)
      dsimp only [Pt.U, Pt.locs, Pt.cells, Pt.slots] at X12 l12 y12 z12 st12 hQ12
      subst l12 y12 z12
      obtain ⟨rfl, N12q, e12⟩ := hQ12
      have N12 := Fr.app N8 N12q
      have ix13 : 0 ≤ ((plaF r_5 o1_1 sl)).toInt ∧ ((plaF r_5 o1_1 sl)).toInt < ((al).length : Int) := own_aI hF hR (by assumption)
      obtain ⟨T14, h14, X14, e14, W14, V14, st14⟩ := putZ X12 hx hZ e12 G4 ix13.1 ix13.2 (g := (mkF m 54 #[.val (.ref a), .val (.long ec), .second, .val (.long now), .second, .val (.int r_5), .val (.int (1 : Int32))] [(.int (1 : Int32)), (.int (plaF r_5 o1_1 sl)), (.ref aA)])) rfl rfl (hb hby d9_54)
      have G15 : Exa Z h14 a "com/example/talthybius/talthybius/AwaitedPings" := G2.wr W14
      have G16 : Fld Z h14 a "com/example/talthybius/talthybius/AwaitedPings" "timeoutNanos" "J" (.long tmo) := pf1_0.other W14 (Or.inl ne_a_aA)
      have G17 : Fld Z h14 a "com/example/talthybius/talthybius/AwaitedPings" "sentAt" "[J" (.ref aS) := pf1_1.other W14 (Or.inl ne_a_aA)
      have G18 : Fld Z h14 a "com/example/talthybius/talthybius/AwaitedPings" "answered" "[Z" (.ref aA) := pf1_2.other W14 (Or.inl ne_a_aA)
      have G19 : Fld Z h14 a "com/example/talthybius/talthybius/AwaitedPings" "oldest" "I" (.int o1_1) := pf1_3.other W14 (Or.inl ne_a_aA)
      have G20 : Fld Z h14 a "com/example/talthybius/talthybius/AwaitedPings" "count" "I" (.int c1_1) := pf1_4.other W14 (Or.inl ne_a_aA)
      have G21 : VA Z h14 aS .long (sl.map Value.long) := G3.other W14 ne_aS_aA
      have G22 : VA Z h14 aA .boolean ((al.set (plaF r_5 o1_1 sl).toNatClampNeg (1 : Int32)).map Value.int) := V14
      have N14 := Fr.snoc X14 N12 g_aA
      have K14 : Keep h0 h14 [a, aA] := Keep.wr K1 W14 (Or.inl (List.mem_of_getElem? (i := 1) rfl))
      have Z14 : n0 ≤ h14.size := Nat.le_trans Z0 K14.1
      refine Go.step (T' := T14) (f' := (mkF m 57 #[.val (.ref a), .val (.long ec), .second, .val (.long now), .second, .val (.int r_5), .val (.int (1 : Int32))] [(.int (1 : Int32))])) (fun t kt => ?_) ?_
      · show Steps p.tables e below (T8.setTop (mkF m 31 #[.val (.ref a), .val (.long ec), .second, .val (.long now), .second, .val (.int r_5), .unset] [])) _
        refine XS.iconst X8.here hx rfl (hb hby d9_31) ?_
        show Steps p.tables e below (T8.setTop (mkF m 32 #[.val (.ref a), .val (.long ec), .second, .val (.long now), .second, .val (.int r_5), .unset] [(.int (1 : Int32))])) _
        refine XS.goto X8.here hx rfl (pc0 := 32) (pc' := 36) rfl (hb hby d9_32) (by decide) (by decide) ?_
        show Steps p.tables e below (T8.setTop (mkF m 36 #[.val (.ref a), .val (.long ec), .second, .val (.long now), .second, .val (.int r_5), .unset] [(.int (1 : Int32))])) _
        refine XS.istore X8.here hx rfl (hb hby d9_36) rfl (l' := #[.val (.ref a), .val (.long ec), .second, .val (.long now), .second, .val (.int r_5), .val (.int (1 : Int32))]) rfl ?_
        show Steps p.tables e below (T8.setTop (mkF m 38 #[.val (.ref a), .val (.long ec), .second, .val (.long now), .second, .val (.int r_5), .val (.int (1 : Int32))] [])) _
        refine XS.iload X8.here hx rfl (hb hby d9_38) rfl ?_
        show Steps p.tables e below (T8.setTop (mkF m 40 #[.val (.ref a), .val (.long ec), .second, .val (.long now), .second, .val (.int r_5), .val (.int (1 : Int32))] [(.int (1 : Int32))])) _
        refine XS.ifNo X8.here hx rfl (hb hby d9_40) rfl ((if0 _ _).trans (feq (by decide : ¬ ((1 : Int32) = (0 : Int32)))).1) ?_
        show Steps p.tables e below (T8.setTop (mkF m 43 #[.val (.ref a), .val (.long ec), .second, .val (.long now), .second, .val (.int r_5), .val (.int (1 : Int32))] [])) _
        refine XS.aloadN X8.here hx rfl (hb hby d9_43) rfl rfl ?_
        show Steps p.tables e below (T8.setTop (mkF m 44 #[.val (.ref a), .val (.long ec), .second, .val (.long now), .second, .val (.int r_5), .val (.int (1 : Int32))] [(.ref a)])) _
        refine st11 _ ?_
        show Steps p.tables e below (T11.setTop (mkF m 47 #[.val (.ref a), .val (.long ec), .second, .val (.long now), .second, .val (.int r_5), .val (.int (1 : Int32))] [(.ref aA)])) _
        refine XS.aloadN X11.here hx rfl (hb hby d9_47) rfl rfl ?_
        show Steps p.tables e below (T11.setTop (mkF m 48 #[.val (.ref a), .val (.long ec), .second, .val (.long now), .second, .val (.int r_5), .val (.int (1 : Int32))] [(.ref a), (.ref aA)])) _
        refine XS.iload X11.here hx rfl (hb hby d9_48) rfl ?_
        show Steps p.tables e below (T11.setTop (mkF m 50 #[.val (.ref a), .val (.long ec), .second, .val (.long now), .second, .val (.int r_5), .val (.int (1 : Int32))] [(.int r_5), (.ref a), (.ref aA)])) _
        refine st12.trans ?_
        show Steps p.tables e below (T12.setTop (mkF m 53 #[.val (.ref a), .val (.long ec), .second, .val (.long now), .second, .val (.int r_5), .val (.int (1 : Int32))] [(.int (plaF r_5 o1_1 sl)), (.ref aA)])) _
        refine XS.iconst X12.here hx rfl (hb hby d9_53) ?_
        show Steps p.tables e below (T12.setTop (mkF m 54 #[.val (.ref a), .val (.long ec), .second, .val (.long now), .second, .val (.int r_5), .val (.int (1 : Int32))] [(.int (1 : Int32)), (.int (plaF r_5 o1_1 sl)), (.ref aA)])) _
        refine st14 _ ?_
        show Steps p.tables e below (T14.setTop (mkF m 55 #[.val (.ref a), .val (.long ec), .second, .val (.long now), .second, .val (.int r_5), .val (.int (1 : Int32))] [])) _
        refine XS.iload X14.here hx rfl (hb hby d9_55) rfl ?_
        exact kt
      refine Go.fin X14 (v := some (.int (1 : Int32))) (fun h => by rw [Bd.returns] at h; cases h) Bd.notSynchronized ?_ (Nat.le_trans (Nat.add_le_add_right (Nat.add_le_add_right (Nat.add_le_add_right (Nat.add_le_add_right (Nat.le_refl 0) 0) 0) 0) 0) (by decide)) (Nat.le_trans (Nat.add_le_add_right (Nat.add_le_add_right (Nat.add_le_add_right (Nat.add_le_add_right (Nat.le_refl 0) 0) 0) 0) 0) (by decide)) (fun fs hr => retN X14 hx (t := .boolean) Bd.returns (by simp) (hb hby d9_57) hr)
      · show QansA Z a ec now aS aA tmo old cnt sl al NN q h0 n0 _ T14.heap _
        rw [e14]
        exact ⟨o1_1, c1_1, (al.set (plaF r_5 o1_1 sl).toNatClampNeg (1 : Int32)), (1 : Int32), rfl, N14, K14, G16, G17, G18, G19, G20, G22, own_a3 (own_sdr hS) hF hR (by assumption) (by assumption)⟩
    · have _ := hc10
      refine Go.step (T' := T8) (f' := (mkF m 35 #[.val (.ref a), .val (.long ec), .second, .val (.long now), .second, .val (.int r_5), .unset] [])) (fun t kt => ?_) ?_
      · show Steps p.tables e below (T8.setTop (mkF m 28 #[.val (.ref a), .val (.long ec), .second, .val (.long now), .second, .val (.int r_5), .unset] [(.int (al.getD (plaF r_5 o1_1 sl).toNatClampNeg (0 : Int32)))])) _
        refine XS.ifYes X8.here hx rfl (pc0 := 28) (pc' := 35) rfl (hb hby d9_28) rfl ((if0 _ _).trans (feq hc10).2) (by decide) (by decide) ?_
        exact kt
      refine Go.step (T' := T8) (f' := (mkF m 57 #[.val (.ref a), .val (.long ec), .second, .val (.long now), .second, .val (.int r_5), .val (.int (0 : Int32))] [(.int (0 : Int32))])) (fun t kt => ?_) ?_
      · show Steps p.tables e below (T8.setTop (mkF m 35 #[.val (.ref a), .val (.long ec), .second, .val (.long now), .second, .val (.int r_5), .unset] [])) _
        refine XS.iconst X8.here hx rfl (hb hby d9_35) ?_
        show Steps p.tables e below (T8.setTop (mkF m 36 #[.val (.ref a), .val (.long ec), .second, .val (.long now), .second, .val (.int r_5), .unset] [(.int (0 : Int32))])) _
        refine XS.istore X8.here hx rfl (hb hby d9_36) rfl (l' := #[.val (.ref a), .val (.long ec), .second, .val (.long now), .second, .val (.int r_5), .val (.int (0 : Int32))]) rfl ?_
        show Steps p.tables e below (T8.setTop (mkF m 38 #[.val (.ref a), .val (.long ec), .second, .val (.long now), .second, .val (.int r_5), .val (.int (0 : Int32))] [])) _
        refine XS.iload X8.here hx rfl (hb hby d9_38) rfl ?_
        show Steps p.tables e below (T8.setTop (mkF m 40 #[.val (.ref a), .val (.long ec), .second, .val (.long now), .second, .val (.int r_5), .val (.int (0 : Int32))] [(.int (0 : Int32))])) _
        refine XS.ifYes X8.here hx rfl (pc0 := 40) (pc' := 55) rfl (hb hby d9_40) rfl ((if0 _ _).trans (teq (by decide : ((0 : Int32) = (0 : Int32)))).1) (by decide) (by decide) ?_
        show Steps p.tables e below (T8.setTop (mkF m 55 #[.val (.ref a), .val (.long ec), .second, .val (.long now), .second, .val (.int r_5), .val (.int (0 : Int32))] [])) _
        refine XS.iload X8.here hx rfl (hb hby d9_55) rfl ?_
        exact kt
      refine Go.fin X8 (v := some (.int (0 : Int32))) (fun h => by rw [Bd.returns] at h; cases h) Bd.notSynchronized ?_ (Nat.le_trans (Nat.add_le_add_right (Nat.add_le_add_right (Nat.add_le_add_right (Nat.le_refl 0) 0) 0) 0) (by decide)) (Nat.le_trans (Nat.add_le_add_right (Nat.add_le_add_right (Nat.add_le_add_right (Nat.le_refl 0) 0) 0) 0) (by decide)) (fun fs hr => retN X8 hx (t := .boolean) Bd.returns (by simp) (hb hby d9_57) hr)
      · show QansA Z a ec now aS aA tmo old cnt sl al NN q h0 n0 _ T8.heap _
        rw [e8]
        exact ⟨o1_1, c1_1, al, (0 : Int32), rfl, N8, K1, pf1_0, pf1_1, pf1_2, pf1_3, pf1_4, G4, own_a2 (own_sdr hS) hF hR (by assumption) (by assumption)⟩
theorem d4_0 : decode prog_10_method_2_code 0 = .ok (.aload_n 0, 1) := by decide +kernel
theorem d4_1 : decode prog_10_method_2_code 1 = .ok (.lload_n 1, 1) := by decide +kernel
theorem d4_2 : decode prog_10_method_2_code 2 = .ok (.invokevirtual 21, 3) := by decide +kernel
theorem d4_5 : decode prog_10_method_2_code 5 = .ok (.aload_n 0, 1) := by decide +kernel
theorem d4_6 : decode prog_10_method_2_code 6 = .ok (.getfield 25, 3) := by decide +kernel
theorem d4_9 : decode prog_10_method_2_code 9 = .ok (.aload_n 0, 1) := by decide +kernel
theorem d4_10 : decode prog_10_method_2_code 10 = .ok (.getfield 9, 3) := by decide +kernel
theorem d4_13 : decode prog_10_method_2_code 13 = .ok (.arraylength, 1) := by decide +kernel
theorem d4_14 : decode prog_10_method_2_code 14 = .ok (.if_icmp .ne 7, 3) := by decide +kernel
theorem d4_21 : decode prog_10_method_2_code 21 = .ok (.aload_n 0, 1) := by decide +kernel
theorem d4_22 : decode prog_10_method_2_code 22 = .ok (.aload_n 0, 1) := by decide +kernel
theorem d4_23 : decode prog_10_method_2_code 23 = .ok (.getfield 25, 3) := by decide +kernel
theorem d4_26 : decode prog_10_method_2_code 26 = .ok (.invokevirtual 32, 3) := by decide +kernel
theorem d4_29 : decode prog_10_method_2_code 29 = .ok (.istore_n 3, 1) := by decide +kernel
theorem d4_30 : decode prog_10_method_2_code 30 = .ok (.aload_n 0, 1) := by decide +kernel
theorem d4_31 : decode prog_10_method_2_code 31 = .ok (.getfield 9, 3) := by decide +kernel
theorem d4_34 : decode prog_10_method_2_code 34 = .ok (.iload_n 3, 1) := by decide +kernel
theorem d4_35 : decode prog_10_method_2_code 35 = .ok (.lload_n 1, 1) := by decide +kernel
theorem d4_36 : decode prog_10_method_2_code 36 = .ok (.lastore, 1) := by decide +kernel
theorem d4_37 : decode prog_10_method_2_code 37 = .ok (.aload_n 0, 1) := by decide +kernel
theorem d4_38 : decode prog_10_method_2_code 38 = .ok (.getfield 13, 3) := by decide +kernel
theorem d4_41 : decode prog_10_method_2_code 41 = .ok (.iload_n 3, 1) := by decide +kernel
theorem d4_42 : decode prog_10_method_2_code 42 = .ok (.iconst 0, 1) := by decide +kernel
theorem d4_43 : decode prog_10_method_2_code 43 = .ok (.bastore, 1) := by decide +kernel
theorem d4_44 : decode prog_10_method_2_code 44 = .ok (.aload_n 0, 1) := by decide +kernel
theorem d4_45 : decode prog_10_method_2_code 45 = .ok (.dup, 1) := by decide +kernel
theorem d4_46 : decode prog_10_method_2_code 46 = .ok (.getfield 25, 3) := by decide +kernel
theorem d4_49 : decode prog_10_method_2_code 49 = .ok (.iconst 1, 1) := by decide +kernel
theorem d4_50 : decode prog_10_method_2_code 50 = .ok (.iadd, 1) := by decide +kernel
theorem d4_51 : decode prog_10_method_2_code 51 = .ok (.putfield 25, 3) := by decide +kernel
theorem d4_54 : decode prog_10_method_2_code 54 = .ok (.return_, 1) := by decide +kernel
theorem ef_senN (m : MethodId) (x0 : Addr) (x1 : Int64) : entryFrame m #[(.ref x0), (.long x1)] 4 = mkF m 0 #[.val (.ref x0), .val (.long x1), .second, .unset] [] := by first | (simp [entryFrame, mkF, argsToLocals, Value.category]; done) | rfl
def QsenN (Z : State) (a : Addr) (tm : Int64) (aS : Addr) (aA : Addr) (tmo : Int64) (old : Int32) (cnt : Int32) (sl : List Int64) (al : List Int32) (NN : Nat) (q : List (Int64 × Int32)) (h0 : Heap) (n0 : Nat) (v : Option Value) (h : Heap) (L : List Loc) : Prop := ∃ (o1 : Int32), ∃ (c1 : Int32), ∃ (sl1 : List Int64), ∃ (al1 : List Int32), v = none ∧ Fr n0 L ∧ Keep h0 h [a, aS, aA] ∧ Fld Z h a "com/example/talthybius/talthybius/AwaitedPings" "timeoutNanos" "J" (.long tmo) ∧ Fld Z h a "com/example/talthybius/talthybius/AwaitedPings" "sentAt" "[J" (.ref aS) ∧ Fld Z h a "com/example/talthybius/talthybius/AwaitedPings" "answered" "[Z" (.ref aA) ∧ Fld Z h a "com/example/talthybius/talthybius/AwaitedPings" "oldest" "I" (.int o1) ∧ Fld Z h a "com/example/talthybius/talthybius/AwaitedPings" "count" "I" (.int c1) ∧ VA Z h aS .long (sl1.map Value.long) ∧ VA Z h aA .boolean (al1.map Value.int) ∧ (own_AP NN sl1 al1 o1 c1 (own_dr tm tmo q ++ [(tm, 0)]))
set_option maxRecDepth 65536 in
set_option maxHeartbeats 40000000 in
theorem rm_senN (l : Launch) (Z : State) (a0 : Array Value) (hw : ∀ d ∈ tables_1, d.before a0 Z = true) (ws : List Jvm.Cond) (a : Addr) (tm : Int64) (aS : Addr) (aA : Addr) (tmo : Int64) (old : Int32) (cnt : Int32) (sl : List Int64) (al : List Int32) (NN : Nat) (q : List (Int64 × Int32)) (h0 : Heap) (n0 : Nat) (Z0 : n0 ≤ h0.size) (F0 : Exa Z h0 a "com/example/talthybius/talthybius/AwaitedPings") (F1 : Fld Z h0 a "com/example/talthybius/talthybius/AwaitedPings" "timeoutNanos" "J" (.long tmo)) (F2 : Fld Z h0 a "com/example/talthybius/talthybius/AwaitedPings" "sentAt" "[J" (.ref aS)) (F3 : Fld Z h0 a "com/example/talthybius/talthybius/AwaitedPings" "answered" "[Z" (.ref aA)) (F4 : Fld Z h0 a "com/example/talthybius/talthybius/AwaitedPings" "oldest" "I" (.int old)) (F5 : Fld Z h0 a "com/example/talthybius/talthybius/AwaitedPings" "count" "I" (.int cnt)) (F6 : VA Z h0 aS .long (sl.map Value.long)) (F7 : VA Z h0 aA .boolean (al.map Value.int)) (g_a : n0 ≤ a) (g_aS : n0 ≤ aS) (g_aA : n0 ≤ aA) (ne_a_aS : a ≠ aS) (ne_a_aA : a ≠ aA) (ne_aS_aA : aS ≠ aA) (hA : own_AP NN sl al old cnt q) (hlt : (own_dr tm tmo q).length < NN) :
    MetFree l (⟨"com/example/talthybius/talthybius/AwaitedPings", "sent", "(J)V"⟩ : MethodName) (head1 (Jvm.Cond.code (⟨"com/example/talthybius/talthybius/AwaitedPings", "sent", "(J)V"⟩ : MethodName) prog_10_method_2_code 4 none :: ws) ({ frames := 2, cells := 0, slots := 0, locals := 29 } : Room)) (fun A_ U => A_ = #[(.ref a), (.long tm)] ∧ Z.Warmed39 U.vm ∧ U.heap = h0) (fun _ _ _ _ _ => True) (fun _ U o U' => ∃ v L, o = .returned v ∧ QsenN Z a tm aS aA tmo old cnt sl al NN q h0 n0 v U'.heap L ∧ FrameEnd U o U' L ({ frames := 2, cells := 0, slots := 0, locals := 29 } : Room).cells ({ frames := 2, cells := 0, slots := 0, locals := 29 } : Room).slots) := by
  refine MetFree.of_bodySF (plainFor_of_name pn_0) hisR ?_
  intro p e s m args below meth c s₁ Bd hml0 hP hK
  obtain ⟨rfl, hZ, hh⟩ := hP
  have hx := Bd.exec
  have hby := Bd.bytes
  have hml : c.maxLocals = 4 := hml0
  have hown : s.vm.findClass "com/example/talthybius/talthybius/AwaitedPings" = some m.cls := findClass_of_methodNamed Bd.named
  have hnm := (name_of_methodNamed Bd.named Bd.method).1
  have X0 : Stand p l e ({ frames := 2, cells := 0, slots := 0, locals := 29 } : Room) s m #[(.ref a), (.long tm)] below meth c s₁ [] 0 0 := Stand.of_body Bd
  have e0 : s₁.heap = h0 := by rw [← hh, Bd.state]; rfl
  have N0 := Fr.nil n0
  suffices HGO : Go p e below s (QsenN Z a tm aS aA tmo old cnt sl al NN q h0 n0) ({ frames := 2, cells := 0, slots := 0, locals := 29 } : Room).cells ({ frames := 2, cells := 0, slots := 0, locals := 29 } : Room).slots s₁ (mkF m 0 #[.val (.ref a), .val (.long tm), .second, .unset] []) from Go.cast (ef_senN m a tm) HGO
  obtain ⟨cq1, q1, q1'⟩ := (F0 : Exa Z h0 a "com/example/talthybius/talthybius/AwaitedPings").cell
  obtain ⟨_, _, ⟨T1, L1, k1, n1⟩, -, X1, ⟨Lc1, hQ1, l1, y1, z1⟩, st1⟩ := X0.privateBack hx (y := (⟨"com/example/talthybius/talthybius/AwaitedPings", "forget", "(J)V"⟩ : MethodName)) hown (mvT hZ (hw _ (List.mem_of_getElem? (i := 29) rfl))) (mvT hZ (hw _ (List.mem_of_getElem? (i := 30) rfl))) (own_psel (mvT hZ (hw _ (List.mem_of_getElem? (i := 9) rfl))) (Cond.privateMethod_at (mvP hZ (hw _ (List.mem_of_getElem? (i := 31) rfl)) (args := #[]))) (mvT hZ (hw _ (List.mem_of_getElem? (i := 30) rfl))) (by decide)) (Cond.privateMethod_at (mvP hZ (hw _ (List.mem_of_getElem? (i := 31) rfl)) (args := #[]))) (mvT hZ (hw _ (List.mem_of_getElem? (i := 32) rfl))) (by decide) (backOf (W := 0) (rm_fgtA l Z a0 hw [] a tm aS aA tmo old cnt sl al NN q h0 n0 Z0 F0 F1 F2 F3 F4 F5 F6 F7 g_a ne_a_aS ne_a_aA ne_aS_aA hA) hZ (hw _ (List.mem_of_getElem? (i := 32) rfl)) (hw _ (List.mem_of_getElem? (i := 10) rfl)) (by decide) (by decide)) (g := (mkF m 2 #[.val (.ref a), .val (.long tm), .second, .unset] [(.long tm), (.ref a)])) rfl (by rw [hml]; rfl) (Steps.refl _) (a := a) (by rw [e0]; exact q1) q1' (argsL := [(.long tm)]) (rest := []) (lenOf pd_1 rfl) rfl (by show 2 * 0 + _ ≤ _; exact Nat.le_of_eq rfl) (hb hby d4_2) (fun _ _ => ⟨rfl, e0, (Nat.le_trans (Nat.add_le_add_right (Nat.le_refl 0) 0) (by decide)), (Nat.le_trans (Nat.add_le_add_right (Nat.le_refl 0) 0) (by decide))⟩)
  dsimp only [Pt.U, Pt.locs, Pt.cells, Pt.slots] at X1 l1 y1 z1 st1 hQ1
  subst l1 y1 z1
  obtain ⟨o1_1, c1_1, rfl, N1q, Kq1, pf1_0, pf1_1, pf1_2, pf1_3, pf1_4, ph1_0⟩ := hQ1
  have G2 : Exa Z T1.heap a "com/example/talthybius/talthybius/AwaitedPings" := Exa.keep F0 Kq1
  have G3 : VA Z T1.heap aS .long (sl.map Value.long) := F6.keep Kq1 (ninS (Ne.symm ne_a_aS) nin0)
  have G4 : VA Z T1.heap aA .boolean (al.map Value.int) := F7.keep Kq1 (ninS (Ne.symm ne_a_aA) nin0)
  have K1 : Keep h0 T1.heap [a, aS, aA] := Keep.trans (Keep.refl h0 [a, aS, aA]) Kq1 (allS (Or.inl (List.mem_of_getElem? (i := 0) rfl)) all0)
  have Z1 : n0 ≤ T1.heap.size := Nat.le_trans Z0 K1.1
  have N1 := Fr.app N0 N1q
  have hF := ph1_0
  obtain ⟨T5, X5, e5, st5⟩ := getF X1 hx hZ hown (host := "") (Or.inl (hw _ (List.mem_of_getElem? (i := 33) rfl))) Via.refl rfl pf1_4 (g := (mkF m 6 #[.val (.ref a), .val (.long tm), .second, .unset] [(.ref a)])) rfl rfl (hb hby d4_6)
  obtain ⟨T6, X6, e6, st6⟩ := getF X5 hx hZ hown (host := "") (Or.inl (hw _ (List.mem_of_getElem? (i := 17) rfl))) Via.refl e5 pf1_1 (g := (mkF m 10 #[.val (.ref a), .val (.long tm), .second, .unset] [(.ref a), (.int c1_1)])) rfl rfl (hb hby d4_10)
  have ln7 : ((sl.map Value.long).length : Int) = ((sl.length.toInt32)).toInt := (by have q := G3.len; rw [List.length_map] at q; rw [len_toInt q, List.length_map])
  refine Go.step (T' := T6) (f' := (mkF m 14 #[.val (.ref a), .val (.long tm), .second, .unset] [(.int (sl.length.toInt32)), (.int c1_1)])) (fun t kt => ?_) ?_
  · show Steps p.tables e below (s₁.setTop (mkF m 0 #[.val (.ref a), .val (.long tm), .second, .unset] [])) _
    refine XS.aloadN X0.here hx rfl (hb hby d4_0) rfl rfl ?_
    show Steps p.tables e below (s₁.setTop (mkF m 1 #[.val (.ref a), .val (.long tm), .second, .unset] [(.ref a)])) _
    refine XS.lloadN X0.here hx rfl (hb hby d4_1) rfl ?_
    show Steps p.tables e below (s₁.setTop (mkF m 2 #[.val (.ref a), .val (.long tm), .second, .unset] [(.long tm), (.ref a)])) _
    refine st1.trans ?_
    show Steps p.tables e below (T1.setTop (mkF m 5 #[.val (.ref a), .val (.long tm), .second, .unset] [])) _
    refine XS.aloadN X1.here hx rfl (hb hby d4_5) rfl rfl ?_
    show Steps p.tables e below (T1.setTop (mkF m 6 #[.val (.ref a), .val (.long tm), .second, .unset] [(.ref a)])) _
    refine st5 _ ?_
    show Steps p.tables e below (T5.setTop (mkF m 9 #[.val (.ref a), .val (.long tm), .second, .unset] [(.int c1_1)])) _
    refine XS.aloadN X5.here hx rfl (hb hby d4_9) rfl rfl ?_
    show Steps p.tables e below (T5.setTop (mkF m 10 #[.val (.ref a), .val (.long tm), .second, .unset] [(.ref a), (.int c1_1)])) _
    refine st6 _ ?_
    show Steps p.tables e below (T6.setTop (mkF m 13 #[.val (.ref a), .val (.long tm), .second, .unset] [(.ref aS), (.int c1_1)])) _
    refine lenA X6 hx hZ e6 G3 (n := (sl.length.toInt32)) ln7 (g := (mkF m 13 #[.val (.ref a), .val (.long tm), .second, .unset] [(.ref aS), (.int c1_1)])) rfl rfl (hb hby d4_13) _ ?_
    exact kt
  have hd8 : ¬ (c1_1 = (sl.length.toInt32)) := own_s0 hF hlt
  obtain ⟨T9, X9, e9, st9⟩ := getF X6 hx hZ hown (host := "") (Or.inl (hw _ (List.mem_of_getElem? (i := 33) rfl))) Via.refl e6 pf1_4 (g := (mkF m 23 #[.val (.ref a), .val (.long tm), .second, .unset] [(.ref a), (.ref a)])) rfl rfl (hb hby d4_23)
  obtain ⟨cq10, q10, q10'⟩ := (G2 : Exa Z T1.heap a "com/example/talthybius/talthybius/AwaitedPings").cell
  obtain ⟨_, _, ⟨T10, L10, k10, n10⟩, -, X10, ⟨Lc10, hQ10, l10, y10, z10⟩, st10⟩ := X9.privateBack hx (y := (⟨"com/example/talthybius/talthybius/AwaitedPings", "placeOf", "(I)I"⟩ : MethodName)) hown (mvT hZ (hw _ (List.mem_of_getElem? (i := 35) rfl))) (mvT hZ (hw _ (List.mem_of_getElem? (i := 36) rfl))) (own_psel (mvT hZ (hw _ (List.mem_of_getElem? (i := 9) rfl))) (Cond.privateMethod_at (mvP hZ (hw _ (List.mem_of_getElem? (i := 37) rfl)) (args := #[]))) (mvT hZ (hw _ (List.mem_of_getElem? (i := 36) rfl))) (by decide)) (Cond.privateMethod_at (mvP hZ (hw _ (List.mem_of_getElem? (i := 37) rfl)) (args := #[]))) (mvT hZ (hw _ (List.mem_of_getElem? (i := 38) rfl))) (by decide) (backOf (W := 0) (rm_plaF l Z a0 hw [] a c1_1 aS o1_1 sl T1.heap n0 Z1 pf1_1 pf1_3 G3 ) hZ (hw _ (List.mem_of_getElem? (i := 38) rfl)) (hw _ (List.mem_of_getElem? (i := 10) rfl)) (by decide) (by decide)) (g := (mkF m 26 #[.val (.ref a), .val (.long tm), .second, .unset] [(.int c1_1), (.ref a)])) rfl (by rw [hml]; rfl) (Steps.refl _) (a := a) (by rw [e9]; exact q10) q10' (argsL := [(.int c1_1)]) (rest := []) (lenOf pd_0 rfl) rfl (by show 2 * 0 + _ ≤ _; exact Nat.le_of_eq rfl) (hb hby d4_26) (fun _ _ => ⟨rfl, e9, (Nat.le_trans (Nat.add_le_add_right (Nat.add_le_add_right (Nat.le_refl 0) 0) 0) (by decide)), (Nat.le_trans (Nat.add_le_add_right (Nat.add_le_add_right (Nat.le_refl 0) 0) 0) (by decide))⟩)
  dsimp only [Pt.U, Pt.locs, Pt.cells, Pt.slots] at X10 l10 y10 z10 st10 hQ10
  subst l10 y10 z10
  obtain ⟨rfl, N10q, e10⟩ := hQ10
  have N10 := Fr.app N1 N10q
  obtain ⟨T11, X11, e11, st11⟩ := getF X10 hx hZ hown (host := "") (Or.inl (hw _ (List.mem_of_getElem? (i := 17) rfl))) Via.refl e10 pf1_1 (g := (mkF m 31 #[.val (.ref a), .val (.long tm), .second, .val (.int (plaF c1_1 o1_1 sl))] [(.ref a)])) rfl rfl (hb hby d4_31)
  have ix12 : 0 ≤ ((plaF c1_1 o1_1 sl)).toInt ∧ ((plaF c1_1 o1_1 sl)).toInt < ((sl).length : Int) := own_s1 hF hlt
  obtain ⟨T13, h13, X13, e13, W13, V13, st13⟩ := putJ X11 hx hZ e11 G3 ix12.1 ix12.2 (g := (mkF m 36 #[.val (.ref a), .val (.long tm), .second, .val (.int (plaF c1_1 o1_1 sl))] [(.long tm), (.int (plaF c1_1 o1_1 sl)), (.ref aS)])) rfl rfl (hb hby d4_36)
  have G14 : Exa Z h13 a "com/example/talthybius/talthybius/AwaitedPings" := G2.wr W13
  have G15 : Fld Z h13 a "com/example/talthybius/talthybius/AwaitedPings" "timeoutNanos" "J" (.long tmo) := pf1_0.other W13 (Or.inl ne_a_aS)
  have G16 : Fld Z h13 a "com/example/talthybius/talthybius/AwaitedPings" "sentAt" "[J" (.ref aS) := pf1_1.other W13 (Or.inl ne_a_aS)
  have G17 : Fld Z h13 a "com/example/talthybius/talthybius/AwaitedPings" "answered" "[Z" (.ref aA) := pf1_2.other W13 (Or.inl ne_a_aS)
  have G18 : Fld Z h13 a "com/example/talthybius/talthybius/AwaitedPings" "oldest" "I" (.int o1_1) := pf1_3.other W13 (Or.inl ne_a_aS)
  have G19 : Fld Z h13 a "com/example/talthybius/talthybius/AwaitedPings" "count" "I" (.int c1_1) := pf1_4.other W13 (Or.inl ne_a_aS)
  have G20 : VA Z h13 aS .long ((sl.set (plaF c1_1 o1_1 sl).toNatClampNeg tm).map Value.long) := V13
  have G21 : VA Z h13 aA .boolean (al.map Value.int) := G4.other W13 (Ne.symm ne_aS_aA)
  have N13 := Fr.snoc X13 N10 g_aS
  have K13 : Keep h0 h13 [a, aS, aA] := Keep.wr K1 W13 (Or.inl (List.mem_of_getElem? (i := 1) rfl))
  have Z13 : n0 ≤ h13.size := Nat.le_trans Z0 K13.1
  obtain ⟨T22, X22, e22, st22⟩ := getF X13 hx hZ hown (host := "") (Or.inl (hw _ (List.mem_of_getElem? (i := 20) rfl))) Via.refl e13 G17 (g := (mkF m 38 #[.val (.ref a), .val (.long tm), .second, .val (.int (plaF c1_1 o1_1 sl))] [(.ref a)])) rfl rfl (hb hby d4_38)
  have ix23 : 0 ≤ ((plaF c1_1 o1_1 sl)).toInt ∧ ((plaF c1_1 o1_1 sl)).toInt < ((al).length : Int) := own_s2 hF hlt
  obtain ⟨T24, h24, X24, e24, W24, V24, st24⟩ := putZ X22 hx hZ e22 G21 ix23.1 ix23.2 (g := (mkF m 43 #[.val (.ref a), .val (.long tm), .second, .val (.int (plaF c1_1 o1_1 sl))] [(.int (0 : Int32)), (.int (plaF c1_1 o1_1 sl)), (.ref aA)])) rfl rfl (hb hby d4_43)
  have G25 : Exa Z h24 a "com/example/talthybius/talthybius/AwaitedPings" := G14.wr W24
  have G26 : Fld Z h24 a "com/example/talthybius/talthybius/AwaitedPings" "timeoutNanos" "J" (.long tmo) := G15.other W24 (Or.inl ne_a_aA)
  have G27 : Fld Z h24 a "com/example/talthybius/talthybius/AwaitedPings" "sentAt" "[J" (.ref aS) := G16.other W24 (Or.inl ne_a_aA)
  have G28 : Fld Z h24 a "com/example/talthybius/talthybius/AwaitedPings" "answered" "[Z" (.ref aA) := G17.other W24 (Or.inl ne_a_aA)
  have G29 : Fld Z h24 a "com/example/talthybius/talthybius/AwaitedPings" "oldest" "I" (.int o1_1) := G18.other W24 (Or.inl ne_a_aA)
  have G30 : Fld Z h24 a "com/example/talthybius/talthybius/AwaitedPings" "count" "I" (.int c1_1) := G19.other W24 (Or.inl ne_a_aA)
  have G31 : VA Z h24 aS .long ((sl.set (plaF c1_1 o1_1 sl).toNatClampNeg tm).map Value.long) := G20.other W24 ne_aS_aA
  have G32 : VA Z h24 aA .boolean ((al.set (plaF c1_1 o1_1 sl).toNatClampNeg (0 : Int32)).map Value.int) := V24
  have N24 := Fr.snoc X24 N13 g_aA
  have K24 : Keep h0 h24 [a, aS, aA] := Keep.wr K13 W24 (Or.inl (List.mem_of_getElem? (i := 2) rfl))
  have Z24 : n0 ≤ h24.size := Nat.le_trans Z0 K24.1
  obtain ⟨T33, X33, e33, st33⟩ := getF X24 hx hZ hown (host := "") (Or.inl (hw _ (List.mem_of_getElem? (i := 33) rfl))) Via.refl e24 G30 (g := (mkF m 46 #[.val (.ref a), .val (.long tm), .second, .val (.int (plaF c1_1 o1_1 sl))] [(.ref a), (.ref a)])) rfl rfl (hb hby d4_46)
  obtain ⟨T34, h34, X34, e34, W34, st34⟩ := putF X33 hx hZ hown (host := "") (Or.inl (hw _ (List.mem_of_getElem? (i := 33) rfl))) Via.refl e33 G30 G25 (Or.inl (hw _ (List.mem_of_getElem? (i := 34) rfl))) (hw _ (List.mem_of_getElem? (i := 9) rfl)) (ty := .int) (by decide) rfl rfl (g := (mkF m 51 #[.val (.ref a), .val (.long tm), .second, .val (.int (plaF c1_1 o1_1 sl))] [(.int (c1_1 + (1 : Int32))), (.ref a)])) rfl rfl (hb hby d4_51)
  have G35 : Exa Z h34 a "com/example/talthybius/talthybius/AwaitedPings" := G25.wr W34
  have G36 : Fld Z h34 a "com/example/talthybius/talthybius/AwaitedPings" "timeoutNanos" "J" (.long tmo) := G26.other W34 (Or.inr (slot_ne (Or.inr (hw _ (List.mem_of_getElem? (i := 23) rfl))) (Or.inl (hw _ (List.mem_of_getElem? (i := 34) rfl))) (by decide) (t := .long) (t' := .int) (by decide) (by decide)))
  have G37 : Fld Z h34 a "com/example/talthybius/talthybius/AwaitedPings" "sentAt" "[J" (.ref aS) := G27.other W34 (Or.inr (slot_ne (Or.inl (hw _ (List.mem_of_getElem? (i := 18) rfl))) (Or.inl (hw _ (List.mem_of_getElem? (i := 34) rfl))) (by decide) (t := (.array .long)) (t' := .int) (by decide) (by decide)))
  have G38 : Fld Z h34 a "com/example/talthybius/talthybius/AwaitedPings" "answered" "[Z" (.ref aA) := G28.other W34 (Or.inr (slot_ne (Or.inl (hw _ (List.mem_of_getElem? (i := 21) rfl))) (Or.inl (hw _ (List.mem_of_getElem? (i := 34) rfl))) (by decide) (t := (.array .boolean)) (t' := .int) (by decide) (by decide)))
  have G39 : Fld Z h34 a "com/example/talthybius/talthybius/AwaitedPings" "oldest" "I" (.int o1_1) := G29.other W34 (Or.inr (slot_ne (Or.inl (hw _ (List.mem_of_getElem? (i := 40) rfl))) (Or.inl (hw _ (List.mem_of_getElem? (i := 34) rfl))) (by decide) (t := .int) (t' := .int) (by decide) (by decide)))
  have G40 : Fld Z h34 a "com/example/talthybius/talthybius/AwaitedPings" "count" "I" (.int (c1_1 + (1 : Int32))) := G30.same W34
  have G41 : VA Z h34 aS .long ((sl.set (plaF c1_1 o1_1 sl).toNatClampNeg tm).map Value.long) := G31.other W34 (Ne.symm ne_a_aS)
  have G42 : VA Z h34 aA .boolean ((al.set (plaF c1_1 o1_1 sl).toNatClampNeg (0 : Int32)).map Value.int) := G32.other W34 (Ne.symm ne_a_aA)
  have N34 := Fr.snoc X34 N24 g_a
  have K34 : Keep h0 h34 [a, aS, aA] := Keep.wr K24 W34 (Or.inl (List.mem_of_getElem? (i := 0) rfl))
  have Z34 : n0 ≤ h34.size := Nat.le_trans Z0 K34.1
  refine Go.step (T' := T34) (f' := (mkF m 54 #[.val (.ref a), .val (.long tm), .second, .val (.int (plaF c1_1 o1_1 sl))] [])) (fun t kt => ?_) ?_
  · show Steps p.tables e below (T6.setTop (mkF m 14 #[.val (.ref a), .val (.long tm), .second, .unset] [(.int (sl.length.toInt32)), (.int c1_1)])) _
    refine XS.icmpYes X6.here hx rfl (pc0 := 14) (pc' := 21) rfl (hb hby d4_14) rfl (feq hd8).2 (by decide) (by decide) ?_
    show Steps p.tables e below (T6.setTop (mkF m 21 #[.val (.ref a), .val (.long tm), .second, .unset] [])) _
    refine XS.aloadN X6.here hx rfl (hb hby d4_21) rfl rfl ?_
    show Steps p.tables e below (T6.setTop (mkF m 22 #[.val (.ref a), .val (.long tm), .second, .unset] [(.ref a)])) _
    refine XS.aloadN X6.here hx rfl (hb hby d4_22) rfl rfl ?_
    show Steps p.tables e below (T6.setTop (mkF m 23 #[.val (.ref a), .val (.long tm), .second, .unset] [(.ref a), (.ref a)])) _
    refine st9 _ ?_
    show Steps p.tables e below (T9.setTop (mkF m 26 #[.val (.ref a), .val (.long tm), .second, .unset] [(.int c1_1), (.ref a)])) _
    refine st10.trans ?_
    show Steps p.tables e below (T10.setTop (mkF m 29 #[.val (.ref a), .val (.long tm), .second, .unset] [(.int (plaF c1_1 o1_1 sl))])) _
    refine XS.istoreN X10.here hx rfl (hb hby d4_29) rfl (l' := #[.val (.ref a), .val (.long tm), .second, .val (.int (plaF c1_1 o1_1 sl))]) rfl ?_
    show Steps p.tables e below (T10.setTop (mkF m 30 #[.val (.ref a), .val (.long tm), .second, .val (.int (plaF c1_1 o1_1 sl))] [])) _
    refine XS.aloadN X10.here hx rfl (hb hby d4_30) rfl rfl ?_
    show Steps p.tables e below (T10.setTop (mkF m 31 #[.val (.ref a), .val (.long tm), .second, .val (.int (plaF c1_1 o1_1 sl))] [(.ref a)])) _
    refine st11 _ ?_
    show Steps p.tables e below (T11.setTop (mkF m 34 #[.val (.ref a), .val (.long tm), .second, .val (.int (plaF c1_1 o1_1 sl))] [(.ref aS)])) _
    refine XS.iloadN X11.here hx rfl (hb hby d4_34) rfl ?_
    show Steps p.tables e below (T11.setTop (mkF m 35 #[.val (.ref a), .val (.long tm), .second, .val (.int (plaF c1_1 o1_1 sl))] [(.int (plaF c1_1 o1_1 sl)), (.ref aS)])) _
    refine XS.lloadN X11.here hx rfl (hb hby d4_35) rfl ?_
    show Steps p.tables e below (T11.setTop (mkF m 36 #[.val (.ref a), .val (.long tm), .second, .val (.int (plaF c1_1 o1_1 sl))] [(.long tm), (.int (plaF c1_1 o1_1 sl)), (.ref aS)])) _
    refine st13 _ ?_
    show Steps p.tables e below (T13.setTop (mkF m 37 #[.val (.ref a), .val (.long tm), .second, .val (.int (plaF c1_1 o1_1 sl))] [])) _
    refine XS.aloadN X13.here hx rfl (hb hby d4_37) rfl rfl ?_
    show Steps p.tables e below (T13.setTop (mkF m 38 #[.val (.ref a), .val (.long tm), .second, .val (.int (plaF c1_1 o1_1 sl))] [(.ref a)])) _
    refine st22 _ ?_
    show Steps p.tables e below (T22.setTop (mkF m 41 #[.val (.ref a), .val (.long tm), .second, .val (.int (plaF c1_1 o1_1 sl))] [(.ref aA)])) _
    refine XS.iloadN X22.here hx rfl (hb hby d4_41) rfl ?_
    show Steps p.tables e below (T22.setTop (mkF m 42 #[.val (.ref a), .val (.long tm), .second, .val (.int (plaF c1_1 o1_1 sl))] [(.int (plaF c1_1 o1_1 sl)), (.ref aA)])) _
    refine XS.iconst X22.here hx rfl (hb hby d4_42) ?_
    show Steps p.tables e below (T22.setTop (mkF m 43 #[.val (.ref a), .val (.long tm), .second, .val (.int (plaF c1_1 o1_1 sl))] [(.int (0 : Int32)), (.int (plaF c1_1 o1_1 sl)), (.ref aA)])) _
    refine st24 _ ?_
    show Steps p.tables e below (T24.setTop (mkF m 44 #[.val (.ref a), .val (.long tm), .second, .val (.int (plaF c1_1 o1_1 sl))] [])) _
    refine XS.aloadN X24.here hx rfl (hb hby d4_44) rfl rfl ?_
    show Steps p.tables e below (T24.setTop (mkF m 45 #[.val (.ref a), .val (.long tm), .second, .val (.int (plaF c1_1 o1_1 sl))] [(.ref a)])) _
    refine XS.dup X24.here hx rfl (hb hby d4_45) rfl rfl ?_
    show Steps p.tables e below (T24.setTop (mkF m 46 #[.val (.ref a), .val (.long tm), .second, .val (.int (plaF c1_1 o1_1 sl))] [(.ref a), (.ref a)])) _
    refine st33 _ ?_
    show Steps p.tables e below (T33.setTop (mkF m 49 #[.val (.ref a), .val (.long tm), .second, .val (.int (plaF c1_1 o1_1 sl))] [(.int c1_1), (.ref a)])) _
    refine XS.iconst X33.here hx rfl (hb hby d4_49) ?_
    show Steps p.tables e below (T33.setTop (mkF m 50 #[.val (.ref a), .val (.long tm), .second, .val (.int (plaF c1_1 o1_1 sl))] [(.int (1 : Int32)), (.int c1_1), (.ref a)])) _
    refine XS.iadd X33.here hx rfl (hb hby d4_50) rfl ?_
    show Steps p.tables e below (T33.setTop (mkF m 51 #[.val (.ref a), .val (.long tm), .second, .val (.int (plaF c1_1 o1_1 sl))] [(.int (c1_1 + (1 : Int32))), (.ref a)])) _
    refine st34 _ ?_
    exact kt
  refine Go.fin X34 (v := none) (fun _ => rfl) Bd.notSynchronized ?_ (Nat.le_trans (Nat.add_le_add_right (Nat.add_le_add_right (Nat.le_refl 0) 0) 0) (by decide)) (Nat.le_trans (Nat.add_le_add_right (Nat.add_le_add_right (Nat.le_refl 0) 0) 0) (by decide)) (fun fs hr => X34.returnOut hx Bd.returns (hb hby d4_54) hr)
  · show QsenN Z a tm aS aA tmo old cnt sl al NN q h0 n0 _ T34.heap _
    rw [e34]
    exact ⟨o1_1, (c1_1 + (1 : Int32)), (sl.set (plaF c1_1 o1_1 sl).toNatClampNeg tm), (al.set (plaF c1_1 o1_1 sl).toNatClampNeg (0 : Int32)), rfl, N34, K34, G36, G37, G38, G39, G40, G41, G42, own_s3 hF hlt⟩
theorem d11_0 : decode prog_10_method_8_code 0 = .ok (.aload_n 0, 1) := by decide +kernel
theorem d11_1 : decode prog_10_method_8_code 1 = .ok (.getfield 9, 3) := by decide +kernel
theorem d11_4 : decode prog_10_method_8_code 4 = .ok (.arraylength, 1) := by decide +kernel
theorem d11_5 : decode prog_10_method_8_code 5 = .ok (.iconst 2, 1) := by decide +kernel
theorem d11_6 : decode prog_10_method_8_code 6 = .ok (.imul, 1) := by decide +kernel
theorem d11_7 : decode prog_10_method_8_code 7 = .ok (.newarray .long, 2) := by decide +kernel
theorem d11_9 : decode prog_10_method_8_code 9 = .ok (.astore_n 1, 1) := by decide +kernel
theorem d11_10 : decode prog_10_method_8_code 10 = .ok (.aload_n 0, 1) := by decide +kernel
theorem d11_11 : decode prog_10_method_8_code 11 = .ok (.getfield 9, 3) := by decide +kernel
theorem d11_14 : decode prog_10_method_8_code 14 = .ok (.arraylength, 1) := by decide +kernel
theorem d11_15 : decode prog_10_method_8_code 15 = .ok (.iconst 2, 1) := by decide +kernel
theorem d11_16 : decode prog_10_method_8_code 16 = .ok (.imul, 1) := by decide +kernel
theorem d11_17 : decode prog_10_method_8_code 17 = .ok (.newarray .boolean, 2) := by decide +kernel
theorem d11_19 : decode prog_10_method_8_code 19 = .ok (.astore_n 2, 1) := by decide +kernel
theorem d11_20 : decode prog_10_method_8_code 20 = .ok (.iconst 0, 1) := by decide +kernel
theorem d11_21 : decode prog_10_method_8_code 21 = .ok (.istore_n 3, 1) := by decide +kernel
theorem d11_22 : decode prog_10_method_8_code 22 = .ok (.iload_n 3, 1) := by decide +kernel
theorem d11_23 : decode prog_10_method_8_code 23 = .ok (.aload_n 0, 1) := by decide +kernel
theorem d11_24 : decode prog_10_method_8_code 24 = .ok (.getfield 25, 3) := by decide +kernel
theorem d11_27 : decode prog_10_method_8_code 27 = .ok (.if_icmp .ge 36, 3) := by decide +kernel
theorem d11_30 : decode prog_10_method_8_code 30 = .ok (.aload_n 0, 1) := by decide +kernel
theorem d11_31 : decode prog_10_method_8_code 31 = .ok (.iload_n 3, 1) := by decide +kernel
theorem d11_32 : decode prog_10_method_8_code 32 = .ok (.invokevirtual 32, 3) := by decide +kernel
theorem d11_35 : decode prog_10_method_8_code 35 = .ok (.istore 4, 2) := by decide +kernel
theorem d11_37 : decode prog_10_method_8_code 37 = .ok (.aload_n 1, 1) := by decide +kernel
theorem d11_38 : decode prog_10_method_8_code 38 = .ok (.iload_n 3, 1) := by decide +kernel
theorem d11_39 : decode prog_10_method_8_code 39 = .ok (.aload_n 0, 1) := by decide +kernel
theorem d11_40 : decode prog_10_method_8_code 40 = .ok (.getfield 9, 3) := by decide +kernel
theorem d11_43 : decode prog_10_method_8_code 43 = .ok (.iload 4, 2) := by decide +kernel
theorem d11_45 : decode prog_10_method_8_code 45 = .ok (.laload, 1) := by decide +kernel
theorem d11_46 : decode prog_10_method_8_code 46 = .ok (.lastore, 1) := by decide +kernel
theorem d11_47 : decode prog_10_method_8_code 47 = .ok (.aload_n 2, 1) := by decide +kernel
theorem d11_48 : decode prog_10_method_8_code 48 = .ok (.iload_n 3, 1) := by decide +kernel
theorem d11_49 : decode prog_10_method_8_code 49 = .ok (.aload_n 0, 1) := by decide +kernel
theorem d11_50 : decode prog_10_method_8_code 50 = .ok (.getfield 13, 3) := by decide +kernel
theorem d11_53 : decode prog_10_method_8_code 53 = .ok (.iload 4, 2) := by decide +kernel
theorem d11_55 : decode prog_10_method_8_code 55 = .ok (.baload, 1) := by decide +kernel
theorem d11_56 : decode prog_10_method_8_code 56 = .ok (.bastore, 1) := by decide +kernel
theorem d11_57 : decode prog_10_method_8_code 57 = .ok (.iinc 3 1, 3) := by decide +kernel
theorem d11_60 : decode prog_10_method_8_code 60 = .ok (.goto (-38), 3) := by decide +kernel
theorem d11_63 : decode prog_10_method_8_code 63 = .ok (.aload_n 0, 1) := by decide +kernel
theorem d11_64 : decode prog_10_method_8_code 64 = .ok (.aload_n 1, 1) := by decide +kernel
theorem d11_65 : decode prog_10_method_8_code 65 = .ok (.putfield 9, 3) := by decide +kernel
theorem d11_68 : decode prog_10_method_8_code 68 = .ok (.aload_n 0, 1) := by decide +kernel
theorem d11_69 : decode prog_10_method_8_code 69 = .ok (.aload_n 2, 1) := by decide +kernel
theorem d11_70 : decode prog_10_method_8_code 70 = .ok (.putfield 13, 3) := by decide +kernel
theorem d11_73 : decode prog_10_method_8_code 73 = .ok (.aload_n 0, 1) := by decide +kernel
theorem d11_74 : decode prog_10_method_8_code 74 = .ok (.iconst 0, 1) := by decide +kernel
theorem d11_75 : decode prog_10_method_8_code 75 = .ok (.putfield 40, 3) := by decide +kernel
theorem d11_78 : decode prog_10_method_8_code 78 = .ok (.return_, 1) := by decide +kernel
theorem ef_groA (m : MethodId) (x0 : Addr) : entryFrame m #[(.ref x0)] 5 = mkF m 0 #[.val (.ref x0), .unset, .unset, .unset, .unset] [] := by first | (simp [entryFrame, mkF, argsToLocals, Value.category]; done) | rfl
def QgroA (Z : State) (a : Addr) (aS : Addr) (aA : Addr) (tmo : Int64) (old : Int32) (cnt : Int32) (sl : List Int64) (al : List Int32) (q : List (Int64 × Int32)) (h0 : Heap) (n0 : Nat) (v : Option Value) (h : Heap) (L : List Loc) : Prop := ∃ (s2 : Addr), ∃ (a2 : Addr), ∃ (sl2 : List Int64), ∃ (al2 : List Int32), v = none ∧ Fr n0 L ∧ Keep h0 h [a] ∧ h0.size ≤ s2 ∧ h0.size ≤ a2 ∧ s2 ≠ a2 ∧ Fld Z h a "com/example/talthybius/talthybius/AwaitedPings" "timeoutNanos" "J" (.long tmo) ∧ Fld Z h a "com/example/talthybius/talthybius/AwaitedPings" "sentAt" "[J" (.ref s2) ∧ Fld Z h a "com/example/talthybius/talthybius/AwaitedPings" "answered" "[Z" (.ref a2) ∧ Fld Z h a "com/example/talthybius/talthybius/AwaitedPings" "oldest" "I" (.int (0 : Int32)) ∧ Fld Z h a "com/example/talthybius/talthybius/AwaitedPings" "count" "I" (.int cnt) ∧ VA Z h s2 .long (sl2.map Value.long) ∧ VA Z h a2 .boolean (al2.map Value.int) ∧ (own_AP 16 sl2 al2 (0 : Int32) cnt q)
set_option maxRecDepth 65536 in
set_option maxHeartbeats 40000000 in
theorem rm_groA (l : Launch) (Z : State) (a0 : Array Value) (hw : ∀ d ∈ tables_1, d.before a0 Z = true) (ws : List Jvm.Cond) (a : Addr) (aS : Addr) (aA : Addr) (tmo : Int64) (old : Int32) (cnt : Int32) (sl : List Int64) (al : List Int32) (q : List (Int64 × Int32)) (h0 : Heap) (n0 : Nat) (Z0 : n0 ≤ h0.size) (F0 : Exa Z h0 a "com/example/talthybius/talthybius/AwaitedPings") (F1 : Fld Z h0 a "com/example/talthybius/talthybius/AwaitedPings" "timeoutNanos" "J" (.long tmo)) (F2 : Fld Z h0 a "com/example/talthybius/talthybius/AwaitedPings" "sentAt" "[J" (.ref aS)) (F3 : Fld Z h0 a "com/example/talthybius/talthybius/AwaitedPings" "answered" "[Z" (.ref aA)) (F4 : Fld Z h0 a "com/example/talthybius/talthybius/AwaitedPings" "oldest" "I" (.int old)) (F5 : Fld Z h0 a "com/example/talthybius/talthybius/AwaitedPings" "count" "I" (.int cnt)) (F6 : VA Z h0 aS .long (sl.map Value.long)) (F7 : VA Z h0 aA .boolean (al.map Value.int)) (g_a : n0 ≤ a) (ne_a_aS : a ≠ aS) (ne_a_aA : a ≠ aA) (ne_aS_aA : aS ≠ aA) (hA : own_AP 8 sl al old cnt q) (h8 : q.length = 8) :
    MetFree l (⟨"com/example/talthybius/talthybius/AwaitedPings", "grow", "()V"⟩ : MethodName) (head1 (Jvm.Cond.code (⟨"com/example/talthybius/talthybius/AwaitedPings", "grow", "()V"⟩ : MethodName) prog_10_method_8_code 5 none :: ws) ({ frames := 1, cells := 2, slots := 32, locals := 14 } : Room)) (fun A_ U => A_ = #[(.ref a)] ∧ Z.Warmed39 U.vm ∧ U.heap = h0) (fun _ _ _ _ _ => True) (fun _ U o U' => ∃ v L, o = .returned v ∧ QgroA Z a aS aA tmo old cnt sl al q h0 n0 v U'.heap L ∧ FrameEnd U o U' L ({ frames := 1, cells := 2, slots := 32, locals := 14 } : Room).cells ({ frames := 1, cells := 2, slots := 32, locals := 14 } : Room).slots) := by
  refine MetFree.of_bodySF (plainFor_of_name pn_0) hisR ?_
  intro p e s m args below meth c s₁ Bd hml0 hP hK
  obtain ⟨rfl, hZ, hh⟩ := hP
  have hx := Bd.exec
  have hby := Bd.bytes
  have hml : c.maxLocals = 5 := hml0
  have hown : s.vm.findClass "com/example/talthybius/talthybius/AwaitedPings" = some m.cls := findClass_of_methodNamed Bd.named
  have hnm := (name_of_methodNamed Bd.named Bd.method).1
  have X0 : Stand p l e ({ frames := 1, cells := 2, slots := 32, locals := 14 } : Room) s m #[(.ref a)] below meth c s₁ [] 0 0 := Stand.of_body Bd
  have e0 : s₁.heap = h0 := by rw [← hh, Bd.state]; rfl
  have N0 := Fr.nil n0
  suffices HGO : Go p e below s (QgroA Z a aS aA tmo old cnt sl al q h0 n0) ({ frames := 1, cells := 2, slots := 32, locals := 14 } : Room).cells ({ frames := 1, cells := 2, slots := 32, locals := 14 } : Room).slots s₁ (mkF m 0 #[.val (.ref a), .unset, .unset, .unset, .unset] []) from Go.cast (ef_groA m a) HGO
  have S22 : ∀ (N_ : Nat) (T : State) (locs : List Loc) (cells slots : Nat) (X : Stand p l e ({ frames := 1, cells := 2, slots := 32, locals := 14 } : Room) s m #[(.ref a)] below meth c T locs cells slots) (hcl : cells ≤ 2) (hsl : slots ≤ 32) (h : Heap) (eT : T.heap = h) (N : Fr n0 locs) (x3 : Int32) (s4 : Slot) (One_s4 : One s4) (b3 : Addr) (b15 : Addr) (m1 : List Int64) (m2 : List Int32) (K : Keep h0 h [a]) (fc0 : Exa Z h a "com/example/talthybius/talthybius/AwaitedPings") (fc1 : Fld Z h a "com/example/talthybius/talthybius/AwaitedPings" "timeoutNanos" "J" (.long tmo)) (fc2 : Fld Z h a "com/example/talthybius/talthybius/AwaitedPings" "sentAt" "[J" (.ref aS)) (fc3 : Fld Z h a "com/example/talthybius/talthybius/AwaitedPings" "answered" "[Z" (.ref aA)) (fc4 : Fld Z h a "com/example/talthybius/talthybius/AwaitedPings" "oldest" "I" (.int old)) (fc5 : Fld Z h a "com/example/talthybius/talthybius/AwaitedPings" "count" "I" (.int cnt)) (fc6 : VA Z h aS .long (sl.map Value.long)) (fc7 : VA Z h aA .boolean (al.map Value.int)) (fc8 : VA Z h b3 .long (m1.map Value.long)) (fc9 : VA Z h b15 .boolean (m2.map Value.int)) (g_b3 : n0 ≤ b3) (g_b15 : n0 ≤ b15) (sz_b3 : h0.size ≤ b3) (sz_b15 : h0.size ≤ b15) (ne_a_b3 : a ≠ b3) (ne_aS_b3 : aS ≠ b3) (ne_aA_b3 : aA ≠ b3) (ne_a_b15 : a ≠ b15) (ne_aS_b15 : aS ≠ b15) (ne_aA_b15 : aA ≠ b15) (ne_b3_b15 : b3 ≠ b15) (hi : own_GI q x3 m1 m2) (hN_ : 8 - x3.toInt.toNat = N_), Go p e below s (QgroA Z a aS aA tmo old cnt sl al q h0 n0) ({ frames := 1, cells := 2, slots := 32, locals := 14 } : Room).cells ({ frames := 1, cells := 2, slots := 32, locals := 14 } : Room).slots T (mkF m 22 #[.val (.ref a), .val (.ref b3), .val (.ref b15), .val (.int x3), s4] []) := by
    intro N_; induction N_ using Nat.strongRecOn with | _ N_ IH => ?_
    intro T locs cells slots X hcl hsl h eT N x3 s4 One_s4 b3 b15 m1 m2 K fc0 fc1 fc2 fc3 fc4 fc5 fc6 fc7 fc8 fc9 g_b3 g_b15 sz_b3 sz_b15 ne_a_b3 ne_aS_b3 ne_aA_b3 ne_a_b15 ne_aS_b15 ne_aA_b15 ne_b3_b15 hi hN_
    subst hN_
    have Zh : n0 ≤ h.size := Nat.le_trans Z0 K.1
    obtain ⟨T1, X1, e1, st1⟩ := getF X hx hZ hown (host := "") (Or.inl (hw _ (List.mem_of_getElem? (i := 33) rfl))) Via.refl eT fc5 (g := (mkF m 24 #[.val (.ref a), .val (.ref b3), .val (.ref b15), .val (.int x3), s4] [(.ref a), (.int x3)])) rfl rfl (hb hby d11_24)
    refine Go.step (T' := T1) (f' := (mkF m 27 #[.val (.ref a), .val (.ref b3), .val (.ref b15), .val (.int x3), s4] [(.int cnt), (.int x3)])) (fun t kt => ?_) ?_
    · show Steps p.tables e below (T.setTop (mkF m 22 #[.val (.ref a), .val (.ref b3), .val (.ref b15), .val (.int x3), s4] [])) _
      refine XS.iloadN X.here hx rfl (hb hby d11_22) rfl ?_
      show Steps p.tables e below (T.setTop (mkF m 23 #[.val (.ref a), .val (.ref b3), .val (.ref b15), .val (.int x3), s4] [(.int x3)])) _
      refine XS.aloadN X.here hx rfl (hb hby d11_23) rfl rfl ?_
      show Steps p.tables e below (T.setTop (mkF m 24 #[.val (.ref a), .val (.ref b3), .val (.ref b15), .val (.int x3), s4] [(.ref a), (.int x3)])) _
      refine st1 _ ?_
      exact kt
    by_cases hc2 : x3 < cnt
    · have _ := hc2
      refine Go.step (T' := T1) (f' := (mkF m 30 #[.val (.ref a), .val (.ref b3), .val (.ref b15), .val (.int x3), s4] [])) (fun t kt => ?_) ?_
      · show Steps p.tables e below (T1.setTop (mkF m 27 #[.val (.ref a), .val (.ref b3), .val (.ref b15), .val (.int x3), s4] [(.int cnt), (.int x3)])) _
        refine XS.icmpNo X1.here hx rfl (hb hby d11_27) rfl (tlt hc2).2.1 ?_
        exact kt
      obtain ⟨cq3, q3, q3'⟩ := (fc0 : Exa Z h a "com/example/talthybius/talthybius/AwaitedPings").cell
      obtain ⟨_, _, ⟨T3, L3, k3, n3⟩, -, X3, ⟨Lc3, hQ3, l3, y3, z3⟩, st3⟩ := X1.privateBack hx (y := (⟨"com/example/talthybius/talthybius/AwaitedPings", "placeOf", "(I)I"⟩ : MethodName)) hown (mvT hZ (hw _ (List.mem_of_getElem? (i := 35) rfl))) (mvT hZ (hw _ (List.mem_of_getElem? (i := 36) rfl))) (own_psel (mvT hZ (hw _ (List.mem_of_getElem? (i := 9) rfl))) (Cond.privateMethod_at (mvP hZ (hw _ (List.mem_of_getElem? (i := 37) rfl)) (args := #[]))) (mvT hZ (hw _ (List.mem_of_getElem? (i := 36) rfl))) (by decide)) (Cond.privateMethod_at (mvP hZ (hw _ (List.mem_of_getElem? (i := 37) rfl)) (args := #[]))) (mvT hZ (hw _ (List.mem_of_getElem? (i := 38) rfl))) (by decide) (backOf (W := 0) (rm_plaF l Z a0 hw [] a x3 aS old sl h n0 Zh fc2 fc4 fc6 ) hZ (hw _ (List.mem_of_getElem? (i := 38) rfl)) (hw _ (List.mem_of_getElem? (i := 10) rfl)) (by decide) (by decide)) (g := (mkF m 32 #[.val (.ref a), .val (.ref b3), .val (.ref b15), .val (.int x3), s4] [(.int x3), (.ref a)])) rfl (by rw [hml]; rfl) (Steps.refl _) (a := a) (by rw [e1]; exact q3) q3' (argsL := [(.int x3)]) (rest := []) (lenOf pd_0 rfl) rfl (by show 2 * 0 + _ ≤ _; exact Nat.le_of_eq rfl) (hb hby d11_32) (fun _ _ => ⟨rfl, e1, (Nat.le_trans (Nat.add_le_add_right hcl 0) (by decide)), (Nat.le_trans (Nat.add_le_add_right hsl 0) (by decide))⟩)
      dsimp only [Pt.U, Pt.locs, Pt.cells, Pt.slots] at X3 l3 y3 z3 st3 hQ3
      subst l3 y3 z3
      obtain ⟨rfl, N3q, e3⟩ := hQ3
      have N3 := Fr.app N N3q
      obtain ⟨T4, X4, e4, st4⟩ := getF X3 hx hZ hown (host := "") (Or.inl (hw _ (List.mem_of_getElem? (i := 17) rfl))) Via.refl e3 fc2 (g := (mkF m 40 #[.val (.ref a), .val (.ref b3), .val (.ref b15), .val (.int x3), .val (.int (plaF x3 old sl))] [(.ref a), (.int x3), (.ref b3)])) rfl rfl (hb hby d11_40)
      have ix5 : 0 ≤ ((plaF x3 old sl)).toInt ∧ ((plaF x3 old sl)).toInt < ((sl).length : Int) := (own_g3 hA h8 hi (by assumption)).1
      have ix6 : 0 ≤ (x3).toInt ∧ (x3).toInt < ((m1).length : Int) := (own_g4 hA h8 hi (by assumption)).1
      obtain ⟨T7, h7, X7, e7, W7, V7, st7⟩ := putJ X4 hx hZ e4 fc8 ix6.1 ix6.2 (g := (mkF m 46 #[.val (.ref a), .val (.ref b3), .val (.ref b15), .val (.int x3), .val (.int (plaF x3 old sl))] [(.long (sl.getD (plaF x3 old sl).toNatClampNeg (0 : Int64))), (.int x3), (.ref b3)])) rfl rfl (hb hby d11_46)
      have G8 : Exa Z h7 a "com/example/talthybius/talthybius/AwaitedPings" := fc0.wr W7
      have G9 : Fld Z h7 a "com/example/talthybius/talthybius/AwaitedPings" "timeoutNanos" "J" (.long tmo) := fc1.other W7 (Or.inl ne_a_b3)
      have G10 : Fld Z h7 a "com/example/talthybius/talthybius/AwaitedPings" "sentAt" "[J" (.ref aS) := fc2.other W7 (Or.inl ne_a_b3)
      have G11 : Fld Z h7 a "com/example/talthybius/talthybius/AwaitedPings" "answered" "[Z" (.ref aA) := fc3.other W7 (Or.inl ne_a_b3)
      have G12 : Fld Z h7 a "com/example/talthybius/talthybius/AwaitedPings" "oldest" "I" (.int old) := fc4.other W7 (Or.inl ne_a_b3)
      have G13 : Fld Z h7 a "com/example/talthybius/talthybius/AwaitedPings" "count" "I" (.int cnt) := fc5.other W7 (Or.inl ne_a_b3)
      have G14 : VA Z h7 aS .long (sl.map Value.long) := fc6.other W7 ne_aS_b3
      have G15 : VA Z h7 aA .boolean (al.map Value.int) := fc7.other W7 ne_aA_b3
      have G16 : VA Z h7 b3 .long ((m1.set x3.toNatClampNeg (sl.getD (plaF x3 old sl).toNatClampNeg (0 : Int64))).map Value.long) := V7
      have G17 : VA Z h7 b15 .boolean (m2.map Value.int) := fc9.other W7 (Ne.symm ne_b3_b15)
      have N7 := Fr.snoc X7 N3 g_b3
      have K7 : Keep h0 h7 [a] := Keep.wr K W7 (Or.inr sz_b3)
      have Z7 : n0 ≤ h7.size := Nat.le_trans Z0 K7.1
      obtain ⟨T18, X18, e18, st18⟩ := getF X7 hx hZ hown (host := "") (Or.inl (hw _ (List.mem_of_getElem? (i := 20) rfl))) Via.refl e7 G11 (g := (mkF m 50 #[.val (.ref a), .val (.ref b3), .val (.ref b15), .val (.int x3), .val (.int (plaF x3 old sl))] [(.ref a), (.int x3), (.ref b15)])) rfl rfl (hb hby d11_50)
      have ix19 : 0 ≤ ((plaF x3 old sl)).toInt ∧ ((plaF x3 old sl)).toInt < ((al).length : Int) := (own_g3 hA h8 hi (by assumption)).2
      have ix20 : 0 ≤ (x3).toInt ∧ (x3).toInt < ((m2).length : Int) := (own_g4 hA h8 hi (by assumption)).2
      obtain ⟨T21, h21, X21, e21, W21, V21, st21⟩ := putZ X18 hx hZ e18 G17 ix20.1 ix20.2 (g := (mkF m 56 #[.val (.ref a), .val (.ref b3), .val (.ref b15), .val (.int x3), .val (.int (plaF x3 old sl))] [(.int (al.getD (plaF x3 old sl).toNatClampNeg (0 : Int32))), (.int x3), (.ref b15)])) rfl rfl (hb hby d11_56)
      have G22 : Exa Z h21 a "com/example/talthybius/talthybius/AwaitedPings" := G8.wr W21
      have G23 : Fld Z h21 a "com/example/talthybius/talthybius/AwaitedPings" "timeoutNanos" "J" (.long tmo) := G9.other W21 (Or.inl ne_a_b15)
      have G24 : Fld Z h21 a "com/example/talthybius/talthybius/AwaitedPings" "sentAt" "[J" (.ref aS) := G10.other W21 (Or.inl ne_a_b15)
      have G25 : Fld Z h21 a "com/example/talthybius/talthybius/AwaitedPings" "answered" "[Z" (.ref aA) := G11.other W21 (Or.inl ne_a_b15)
      have G26 : Fld Z h21 a "com/example/talthybius/talthybius/AwaitedPings" "oldest" "I" (.int old) := G12.other W21 (Or.inl ne_a_b15)
      have G27 : Fld Z h21 a "com/example/talthybius/talthybius/AwaitedPings" "count" "I" (.int cnt) := G13.other W21 (Or.inl ne_a_b15)
      have G28 : VA Z h21 aS .long (sl.map Value.long) := G14.other W21 ne_aS_b15
      have G29 : VA Z h21 aA .boolean (al.map Value.int) := G15.other W21 ne_aA_b15
      have G30 : VA Z h21 b3 .long ((m1.set x3.toNatClampNeg (sl.getD (plaF x3 old sl).toNatClampNeg (0 : Int64))).map Value.long) := G16.other W21 ne_b3_b15
      have G31 : VA Z h21 b15 .boolean ((m2.set x3.toNatClampNeg (nar .boolean (al.getD (plaF x3 old sl).toNatClampNeg (0 : Int32)))).map Value.int) := V21
      have N21 := Fr.snoc X21 N7 g_b15
      have K21 : Keep h0 h21 [a] := Keep.wr K7 W21 (Or.inr sz_b15)
      have Z21 : n0 ≤ h21.size := Nat.le_trans Z0 K21.1
      refine Go.step (T' := T21) (f' := (mkF m 22 #[.val (.ref a), .val (.ref b3), .val (.ref b15), .val (.int (x3 + (1 : Int32))), .val (.int (plaF x3 old sl))] [])) (fun t kt => ?_) ?_
      · show Steps p.tables e below (T1.setTop (mkF m 30 #[.val (.ref a), .val (.ref b3), .val (.ref b15), .val (.int x3), s4] [])) _
        refine XS.aloadN X1.here hx rfl (hb hby d11_30) rfl rfl ?_
        show Steps p.tables e below (T1.setTop (mkF m 31 #[.val (.ref a), .val (.ref b3), .val (.ref b15), .val (.int x3), s4] [(.ref a)])) _
        refine XS.iloadN X1.here hx rfl (hb hby d11_31) rfl ?_
        show Steps p.tables e below (T1.setTop (mkF m 32 #[.val (.ref a), .val (.ref b3), .val (.ref b15), .val (.int x3), s4] [(.int x3), (.ref a)])) _
        refine st3.trans ?_
        show Steps p.tables e below (T3.setTop (mkF m 35 #[.val (.ref a), .val (.ref b3), .val (.ref b15), .val (.int x3), s4] [(.int (plaF x3 old sl))])) _
        refine XS.istoreS X3.here hx rfl (hb hby d11_35) rfl rfl One_s4 ?_
        show Steps p.tables e below (T3.setTop (mkF m 37 #[.val (.ref a), .val (.ref b3), .val (.ref b15), .val (.int x3), .val (.int (plaF x3 old sl))] [])) _
        refine XS.aloadN X3.here hx rfl (hb hby d11_37) rfl rfl ?_
        show Steps p.tables e below (T3.setTop (mkF m 38 #[.val (.ref a), .val (.ref b3), .val (.ref b15), .val (.int x3), .val (.int (plaF x3 old sl))] [(.ref b3)])) _
        refine XS.iloadN X3.here hx rfl (hb hby d11_38) rfl ?_
        show Steps p.tables e below (T3.setTop (mkF m 39 #[.val (.ref a), .val (.ref b3), .val (.ref b15), .val (.int x3), .val (.int (plaF x3 old sl))] [(.int x3), (.ref b3)])) _
        refine XS.aloadN X3.here hx rfl (hb hby d11_39) rfl rfl ?_
        show Steps p.tables e below (T3.setTop (mkF m 40 #[.val (.ref a), .val (.ref b3), .val (.ref b15), .val (.int x3), .val (.int (plaF x3 old sl))] [(.ref a), (.int x3), (.ref b3)])) _
        refine st4 _ ?_
        show Steps p.tables e below (T4.setTop (mkF m 43 #[.val (.ref a), .val (.ref b3), .val (.ref b15), .val (.int x3), .val (.int (plaF x3 old sl))] [(.ref aS), (.int x3), (.ref b3)])) _
        refine XS.iload X4.here hx rfl (hb hby d11_43) rfl ?_
        show Steps p.tables e below (T4.setTop (mkF m 45 #[.val (.ref a), .val (.ref b3), .val (.ref b15), .val (.int x3), .val (.int (plaF x3 old sl))] [(.int (plaF x3 old sl)), (.ref aS), (.int x3), (.ref b3)])) _
        refine ldJ X4 hx hZ e4 fc6 ix5.1 ix5.2 (g := (mkF m 45 #[.val (.ref a), .val (.ref b3), .val (.ref b15), .val (.int x3), .val (.int (plaF x3 old sl))] [(.int (plaF x3 old sl)), (.ref aS), (.int x3), (.ref b3)])) rfl rfl (hb hby d11_45) _ ?_
        show Steps p.tables e below (T4.setTop (mkF m 46 #[.val (.ref a), .val (.ref b3), .val (.ref b15), .val (.int x3), .val (.int (plaF x3 old sl))] [(.long (sl.getD (plaF x3 old sl).toNatClampNeg (0 : Int64))), (.int x3), (.ref b3)])) _
        refine st7 _ ?_
        show Steps p.tables e below (T7.setTop (mkF m 47 #[.val (.ref a), .val (.ref b3), .val (.ref b15), .val (.int x3), .val (.int (plaF x3 old sl))] [])) _
        refine XS.aloadN X7.here hx rfl (hb hby d11_47) rfl rfl ?_
        show Steps p.tables e below (T7.setTop (mkF m 48 #[.val (.ref a), .val (.ref b3), .val (.ref b15), .val (.int x3), .val (.int (plaF x3 old sl))] [(.ref b15)])) _
        refine XS.iloadN X7.here hx rfl (hb hby d11_48) rfl ?_
        show Steps p.tables e below (T7.setTop (mkF m 49 #[.val (.ref a), .val (.ref b3), .val (.ref b15), .val (.int x3), .val (.int (plaF x3 old sl))] [(.int x3), (.ref b15)])) _
        refine XS.aloadN X7.here hx rfl (hb hby d11_49) rfl rfl ?_
        show Steps p.tables e below (T7.setTop (mkF m 50 #[.val (.ref a), .val (.ref b3), .val (.ref b15), .val (.int x3), .val (.int (plaF x3 old sl))] [(.ref a), (.int x3), (.ref b15)])) _
        refine st18 _ ?_
        show Steps p.tables e below (T18.setTop (mkF m 53 #[.val (.ref a), .val (.ref b3), .val (.ref b15), .val (.int x3), .val (.int (plaF x3 old sl))] [(.ref aA), (.int x3), (.ref b15)])) _
        refine XS.iload X18.here hx rfl (hb hby d11_53) rfl ?_
        show Steps p.tables e below (T18.setTop (mkF m 55 #[.val (.ref a), .val (.ref b3), .val (.ref b15), .val (.int x3), .val (.int (plaF x3 old sl))] [(.int (plaF x3 old sl)), (.ref aA), (.int x3), (.ref b15)])) _
        refine ldZ X18 hx hZ e18 G15 ix19.1 ix19.2 (g := (mkF m 55 #[.val (.ref a), .val (.ref b3), .val (.ref b15), .val (.int x3), .val (.int (plaF x3 old sl))] [(.int (plaF x3 old sl)), (.ref aA), (.int x3), (.ref b15)])) rfl rfl (hb hby d11_55) _ ?_
        show Steps p.tables e below (T18.setTop (mkF m 56 #[.val (.ref a), .val (.ref b3), .val (.ref b15), .val (.int x3), .val (.int (plaF x3 old sl))] [(.int (al.getD (plaF x3 old sl).toNatClampNeg (0 : Int32))), (.int x3), (.ref b15)])) _
        refine st21 _ ?_
        show Steps p.tables e below (T21.setTop (mkF m 57 #[.val (.ref a), .val (.ref b3), .val (.ref b15), .val (.int x3), .val (.int (plaF x3 old sl))] [])) _
        refine XS.iinc X21.here hx rfl (hb hby d11_57) rfl (l' := #[.val (.ref a), .val (.ref b3), .val (.ref b15), .val (.int (x3 + (1 : Int32))), .val (.int (plaF x3 old sl))]) rfl ?_
        show Steps p.tables e below (T21.setTop (mkF m 60 #[.val (.ref a), .val (.ref b3), .val (.ref b15), .val (.int (x3 + (1 : Int32))), .val (.int (plaF x3 old sl))] [])) _
        refine XS.goto X21.here hx rfl (pc0 := 60) (pc' := 22) rfl (hb hby d11_60) (by decide) (by decide) ?_
        exact kt
      exact IH _ ((own_g2 hA h8 hi (by assumption)).1) _ _ _ _ X21 (Nat.le_trans (Nat.add_le_add_right hcl 0) (by decide)) (Nat.le_trans (Nat.add_le_add_right hsl 0) (by decide)) h21 e21 N21 (x3 + (1 : Int32)) (.val (.int (plaF x3 old sl))) (One.val rfl) b3 b15 (m1.set x3.toNatClampNeg (sl.getD (plaF x3 old sl).toNatClampNeg (0 : Int64))) (m2.set x3.toNatClampNeg (nar .boolean (al.getD (plaF x3 old sl).toNatClampNeg (0 : Int32)))) K21 G22 G23 G24 G25 G26 G27 G28 G29 G30 G31 g_b3 g_b15 sz_b3 sz_b15 ne_a_b3 ne_aS_b3 ne_aA_b3 ne_a_b15 ne_aS_b15 ne_aA_b15 ne_b3_b15 (own_g2 hA h8 hi (by assumption)).2 rfl
    · have _ := hc2
      refine Go.step (T' := T1) (f' := (mkF m 63 #[.val (.ref a), .val (.ref b3), .val (.ref b15), .val (.int x3), s4] [])) (fun t kt => ?_) ?_
      · show Steps p.tables e below (T1.setTop (mkF m 27 #[.val (.ref a), .val (.ref b3), .val (.ref b15), .val (.int x3), s4] [(.int cnt), (.int x3)])) _
        refine XS.icmpYes X1.here hx rfl (pc0 := 27) (pc' := 63) rfl (hb hby d11_27) rfl (flt hc2).2.1 (by decide) (by decide) ?_
        exact kt
      obtain ⟨T32, h32, X32, e32, W32, st32⟩ := putF X1 hx hZ hown (host := "") (Or.inl (hw _ (List.mem_of_getElem? (i := 17) rfl))) Via.refl e1 fc2 fc0 (Or.inl (hw _ (List.mem_of_getElem? (i := 18) rfl))) (hw _ (List.mem_of_getElem? (i := 9) rfl)) (ty := (.array .long)) (by decide) rfl rfl (g := (mkF m 65 #[.val (.ref a), .val (.ref b3), .val (.ref b15), .val (.int x3), s4] [(.ref b3), (.ref a)])) rfl rfl (hb hby d11_65)
      have G33 : Exa Z h32 a "com/example/talthybius/talthybius/AwaitedPings" := fc0.wr W32
      have G34 : Fld Z h32 a "com/example/talthybius/talthybius/AwaitedPings" "timeoutNanos" "J" (.long tmo) := fc1.other W32 (Or.inr (slot_ne (Or.inr (hw _ (List.mem_of_getElem? (i := 23) rfl))) (Or.inl (hw _ (List.mem_of_getElem? (i := 18) rfl))) (by decide) (t := .long) (t' := (.array .long)) (by decide) (by decide)))
      have G35 : Fld Z h32 a "com/example/talthybius/talthybius/AwaitedPings" "sentAt" "[J" (.ref b3) := fc2.same W32
      have G36 : Fld Z h32 a "com/example/talthybius/talthybius/AwaitedPings" "answered" "[Z" (.ref aA) := fc3.other W32 (Or.inr (slot_ne (Or.inl (hw _ (List.mem_of_getElem? (i := 21) rfl))) (Or.inl (hw _ (List.mem_of_getElem? (i := 18) rfl))) (by decide) (t := (.array .boolean)) (t' := (.array .long)) (by decide) (by decide)))
      have G37 : Fld Z h32 a "com/example/talthybius/talthybius/AwaitedPings" "oldest" "I" (.int old) := fc4.other W32 (Or.inr (slot_ne (Or.inl (hw _ (List.mem_of_getElem? (i := 40) rfl))) (Or.inl (hw _ (List.mem_of_getElem? (i := 18) rfl))) (by decide) (t := .int) (t' := (.array .long)) (by decide) (by decide)))
      have G38 : Fld Z h32 a "com/example/talthybius/talthybius/AwaitedPings" "count" "I" (.int cnt) := fc5.other W32 (Or.inr (slot_ne (Or.inl (hw _ (List.mem_of_getElem? (i := 34) rfl))) (Or.inl (hw _ (List.mem_of_getElem? (i := 18) rfl))) (by decide) (t := .int) (t' := (.array .long)) (by decide) (by decide)))
      have G39 : VA Z h32 aS .long (sl.map Value.long) := fc6.other W32 (Ne.symm ne_a_aS)
      have G40 : VA Z h32 aA .boolean (al.map Value.int) := fc7.other W32 (Ne.symm ne_a_aA)
      have G41 : VA Z h32 b3 .long (m1.map Value.long) := fc8.other W32 (Ne.symm ne_a_b3)
      have G42 : VA Z h32 b15 .boolean (m2.map Value.int) := fc9.other W32 (Ne.symm ne_a_b15)
      have N32 := Fr.snoc X32 N g_a
      have K32 : Keep h0 h32 [a] := Keep.wr K W32 (Or.inl (List.mem_of_getElem? (i := 0) rfl))
      have Z32 : n0 ≤ h32.size := Nat.le_trans Z0 K32.1
      obtain ⟨T43, h43, X43, e43, W43, st43⟩ := putF X32 hx hZ hown (host := "") (Or.inl (hw _ (List.mem_of_getElem? (i := 20) rfl))) Via.refl e32 G36 G33 (Or.inl (hw _ (List.mem_of_getElem? (i := 21) rfl))) (hw _ (List.mem_of_getElem? (i := 9) rfl)) (ty := (.array .boolean)) (by decide) rfl rfl (g := (mkF m 70 #[.val (.ref a), .val (.ref b3), .val (.ref b15), .val (.int x3), s4] [(.ref b15), (.ref a)])) rfl rfl (hb hby d11_70)
      have G44 : Exa Z h43 a "com/example/talthybius/talthybius/AwaitedPings" := G33.wr W43
      have G45 : Fld Z h43 a "com/example/talthybius/talthybius/AwaitedPings" "timeoutNanos" "J" (.long tmo) := G34.other W43 (Or.inr (slot_ne (Or.inr (hw _ (List.mem_of_getElem? (i := 23) rfl))) (Or.inl (hw _ (List.mem_of_getElem? (i := 21) rfl))) (by decide) (t := .long) (t' := (.array .boolean)) (by decide) (by decide)))
      have G46 : Fld Z h43 a "com/example/talthybius/talthybius/AwaitedPings" "sentAt" "[J" (.ref b3) := G35.other W43 (Or.inr (slot_ne (Or.inl (hw _ (List.mem_of_getElem? (i := 18) rfl))) (Or.inl (hw _ (List.mem_of_getElem? (i := 21) rfl))) (by decide) (t := (.array .long)) (t' := (.array .boolean)) (by decide) (by decide)))
      have G47 : Fld Z h43 a "com/example/talthybius/talthybius/AwaitedPings" "answered" "[Z" (.ref b15) := G36.same W43
      have G48 : Fld Z h43 a "com/example/talthybius/talthybius/AwaitedPings" "oldest" "I" (.int old) := G37.other W43 (Or.inr (slot_ne (Or.inl (hw _ (List.mem_of_getElem? (i := 40) rfl))) (Or.inl (hw _ (List.mem_of_getElem? (i := 21) rfl))) (by decide) (t := .int) (t' := (.array .boolean)) (by decide) (by decide)))
      have G49 : Fld Z h43 a "com/example/talthybius/talthybius/AwaitedPings" "count" "I" (.int cnt) := G38.other W43 (Or.inr (slot_ne (Or.inl (hw _ (List.mem_of_getElem? (i := 34) rfl))) (Or.inl (hw _ (List.mem_of_getElem? (i := 21) rfl))) (by decide) (t := .int) (t' := (.array .boolean)) (by decide) (by decide)))
      have G50 : VA Z h43 aS .long (sl.map Value.long) := G39.other W43 (Ne.symm ne_a_aS)
      have G51 : VA Z h43 aA .boolean (al.map Value.int) := G40.other W43 (Ne.symm ne_a_aA)
      have G52 : VA Z h43 b3 .long (m1.map Value.long) := G41.other W43 (Ne.symm ne_a_b3)
      have G53 : VA Z h43 b15 .boolean (m2.map Value.int) := G42.other W43 (Ne.symm ne_a_b15)
      have N43 := Fr.snoc X43 N32 g_a
      have K43 : Keep h0 h43 [a] := Keep.wr K32 W43 (Or.inl (List.mem_of_getElem? (i := 0) rfl))
      have Z43 : n0 ≤ h43.size := Nat.le_trans Z0 K43.1
      obtain ⟨T54, h54, X54, e54, W54, st54⟩ := putF X43 hx hZ hown (host := "") (Or.inl (hw _ (List.mem_of_getElem? (i := 39) rfl))) Via.refl e43 G48 G44 (Or.inl (hw _ (List.mem_of_getElem? (i := 40) rfl))) (hw _ (List.mem_of_getElem? (i := 9) rfl)) (ty := .int) (by decide) rfl rfl (g := (mkF m 75 #[.val (.ref a), .val (.ref b3), .val (.ref b15), .val (.int x3), s4] [(.int (0 : Int32)), (.ref a)])) rfl rfl (hb hby d11_75)
      have G55 : Exa Z h54 a "com/example/talthybius/talthybius/AwaitedPings" := G44.wr W54
      have G56 : Fld Z h54 a "com/example/talthybius/talthybius/AwaitedPings" "timeoutNanos" "J" (.long tmo) := G45.other W54 (Or.inr (slot_ne (Or.inr (hw _ (List.mem_of_getElem? (i := 23) rfl))) (Or.inl (hw _ (List.mem_of_getElem? (i := 40) rfl))) (by decide) (t := .long) (t' := .int) (by decide) (by decide)))
      have G57 : Fld Z h54 a "com/example/talthybius/talthybius/AwaitedPings" "sentAt" "[J" (.ref b3) := G46.other W54 (Or.inr (slot_ne (Or.inl (hw _ (List.mem_of_getElem? (i := 18) rfl))) (Or.inl (hw _ (List.mem_of_getElem? (i := 40) rfl))) (by decide) (t := (.array .long)) (t' := .int) (by decide) (by decide)))
      have G58 : Fld Z h54 a "com/example/talthybius/talthybius/AwaitedPings" "answered" "[Z" (.ref b15) := G47.other W54 (Or.inr (slot_ne (Or.inl (hw _ (List.mem_of_getElem? (i := 21) rfl))) (Or.inl (hw _ (List.mem_of_getElem? (i := 40) rfl))) (by decide) (t := (.array .boolean)) (t' := .int) (by decide) (by decide)))
      have G59 : Fld Z h54 a "com/example/talthybius/talthybius/AwaitedPings" "oldest" "I" (.int (0 : Int32)) := G48.same W54
      have G60 : Fld Z h54 a "com/example/talthybius/talthybius/AwaitedPings" "count" "I" (.int cnt) := G49.other W54 (Or.inr (slot_ne (Or.inl (hw _ (List.mem_of_getElem? (i := 34) rfl))) (Or.inl (hw _ (List.mem_of_getElem? (i := 40) rfl))) (by decide) (t := .int) (t' := .int) (by decide) (by decide)))
      have G61 : VA Z h54 aS .long (sl.map Value.long) := G50.other W54 (Ne.symm ne_a_aS)
      have G62 : VA Z h54 aA .boolean (al.map Value.int) := G51.other W54 (Ne.symm ne_a_aA)
      have G63 : VA Z h54 b3 .long (m1.map Value.long) := G52.other W54 (Ne.symm ne_a_b3)
      have G64 : VA Z h54 b15 .boolean (m2.map Value.int) := G53.other W54 (Ne.symm ne_a_b15)
      have N54 := Fr.snoc X54 N43 g_a
      have K54 : Keep h0 h54 [a] := Keep.wr K43 W54 (Or.inl (List.mem_of_getElem? (i := 0) rfl))
      have Z54 : n0 ≤ h54.size := Nat.le_trans Z0 K54.1
      refine Go.step (T' := T54) (f' := (mkF m 78 #[.val (.ref a), .val (.ref b3), .val (.ref b15), .val (.int x3), s4] [])) (fun t kt => ?_) ?_
      · show Steps p.tables e below (T1.setTop (mkF m 63 #[.val (.ref a), .val (.ref b3), .val (.ref b15), .val (.int x3), s4] [])) _
        refine XS.aloadN X1.here hx rfl (hb hby d11_63) rfl rfl ?_
        show Steps p.tables e below (T1.setTop (mkF m 64 #[.val (.ref a), .val (.ref b3), .val (.ref b15), .val (.int x3), s4] [(.ref a)])) _
        refine XS.aloadN X1.here hx rfl (hb hby d11_64) rfl rfl ?_
        show Steps p.tables e below (T1.setTop (mkF m 65 #[.val (.ref a), .val (.ref b3), .val (.ref b15), .val (.int x3), s4] [(.ref b3), (.ref a)])) _
        refine st32 _ ?_
        show Steps p.tables e below (T32.setTop (mkF m 68 #[.val (.ref a), .val (.ref b3), .val (.ref b15), .val (.int x3), s4] [])) _
        refine XS.aloadN X32.here hx rfl (hb hby d11_68) rfl rfl ?_
        show Steps p.tables e below (T32.setTop (mkF m 69 #[.val (.ref a), .val (.ref b3), .val (.ref b15), .val (.int x3), s4] [(.ref a)])) _
        refine XS.aloadN X32.here hx rfl (hb hby d11_69) rfl rfl ?_
        show Steps p.tables e below (T32.setTop (mkF m 70 #[.val (.ref a), .val (.ref b3), .val (.ref b15), .val (.int x3), s4] [(.ref b15), (.ref a)])) _
        refine st43 _ ?_
        show Steps p.tables e below (T43.setTop (mkF m 73 #[.val (.ref a), .val (.ref b3), .val (.ref b15), .val (.int x3), s4] [])) _
        refine XS.aloadN X43.here hx rfl (hb hby d11_73) rfl rfl ?_
        show Steps p.tables e below (T43.setTop (mkF m 74 #[.val (.ref a), .val (.ref b3), .val (.ref b15), .val (.int x3), s4] [(.ref a)])) _
        refine XS.iconst X43.here hx rfl (hb hby d11_74) ?_
        show Steps p.tables e below (T43.setTop (mkF m 75 #[.val (.ref a), .val (.ref b3), .val (.ref b15), .val (.int x3), s4] [(.int (0 : Int32)), (.ref a)])) _
        refine st54 _ ?_
        exact kt
      refine Go.fin X54 (v := none) (fun _ => rfl) Bd.notSynchronized ?_ (Nat.le_trans hcl (by decide)) (Nat.le_trans hsl (by decide)) (fun fs hr => X54.returnOut hx Bd.returns (hb hby d11_78) hr)
      · show QgroA Z a aS aA tmo old cnt sl al q h0 n0 _ T54.heap _
        rw [e54]
        exact ⟨b3, b15, m1, m2, rfl, N54, K54, sz_b3, sz_b15, ne_b3_b15, G56, G57, G58, G59, G60, G63, G64, own_g5 hA h8 hi (by assumption)⟩
  obtain ⟨T65, X65, e65, st65⟩ := getF X0 hx hZ hown (host := "") (Or.inl (hw _ (List.mem_of_getElem? (i := 17) rfl))) Via.refl e0 F2 (g := (mkF m 1 #[.val (.ref a), .unset, .unset, .unset, .unset] [(.ref a)])) rfl rfl (hb hby d11_1)
  have ln66 : ((sl.map Value.long).length : Int) = ((sl.length.toInt32)).toInt := (by have q := F6.len; rw [List.length_map] at q; rw [len_toInt q, List.length_map])
  obtain ⟨T67, h67, X67, e67, E67, A67, st67⟩ := newJ X65 hx hZ (hw _ (List.mem_of_getElem? (i := 1) rfl)) e65 (g := (mkF m 7 #[.val (.ref a), .unset, .unset, .unset, .unset] [(.int ((sl.length.toInt32) * (2 : Int32)))])) rfl (hb hby d11_7) rfl (by rw [own_g0 hA]; decide) (cap := 16) (by rw [own_g0 hA]; decide) (by decide) (Nat.le_trans (Nat.add_le_add_right (Nat.le_refl 0) 1) (by decide)) (Nat.le_trans (Nat.add_le_add_right (Nat.le_refl 0) 16) (by decide))
  obtain ⟨b67, g67⟩ : ∃ z, z = h0.size := ⟨_, rfl⟩
  rw [← g67] at A67 st67
  have ne_a_b67 : a ≠ b67 := Nat.ne_of_lt (Nat.lt_of_lt_of_le F0.lt (Nat.le_of_eq g67.symm))
  have ne_aS_b67 : aS ≠ b67 := Nat.ne_of_lt (Nat.lt_of_lt_of_le F6.lt (Nat.le_of_eq g67.symm))
  have ne_aA_b67 : aA ≠ b67 := Nat.ne_of_lt (Nat.lt_of_lt_of_le F7.lt (Nat.le_of_eq g67.symm))
  have G68 : Exa Z h67 a "com/example/talthybius/talthybius/AwaitedPings" := F0.ext E67
  have G69 : Fld Z h67 a "com/example/talthybius/talthybius/AwaitedPings" "timeoutNanos" "J" (.long tmo) := F1.ext E67
  have G70 : Fld Z h67 a "com/example/talthybius/talthybius/AwaitedPings" "sentAt" "[J" (.ref aS) := F2.ext E67
  have G71 : Fld Z h67 a "com/example/talthybius/talthybius/AwaitedPings" "answered" "[Z" (.ref aA) := F3.ext E67
  have G72 : Fld Z h67 a "com/example/talthybius/talthybius/AwaitedPings" "oldest" "I" (.int old) := F4.ext E67
  have G73 : Fld Z h67 a "com/example/talthybius/talthybius/AwaitedPings" "count" "I" (.int cnt) := F5.ext E67
  have G74 : VA Z h67 aS .long (sl.map Value.long) := F6.ext E67
  have G75 : VA Z h67 aA .boolean (al.map Value.int) := F7.ext E67
  have g_b67 : n0 ≤ b67 := Nat.le_trans Z0 (Nat.le_of_eq g67.symm)
  have sz_b67 : h0.size ≤ b67 := Nat.le_trans (Keep.refl h0 [a]).1 (Nat.le_of_eq g67.symm)
  have K67 : Keep h0 h67 [a] := Keep.ext (Keep.refl h0 [a]) E67
  have Z67 : n0 ≤ h67.size := Nat.le_trans Z0 K67.1
  have G76 : VA Z h67 b67 .long ((List.replicate ((sl.length.toInt32) * (2 : Int32)).toInt.toNat (0 : Int64)).map Value.long) := A67
  obtain ⟨T77, X77, e77, st77⟩ := getF X67 hx hZ hown (host := "") (Or.inl (hw _ (List.mem_of_getElem? (i := 17) rfl))) Via.refl e67 G70 (g := (mkF m 11 #[.val (.ref a), .val (.ref b67), .unset, .unset, .unset] [(.ref a)])) rfl rfl (hb hby d11_11)
  have ln78 : ((sl.map Value.long).length : Int) = ((sl.length.toInt32)).toInt := (by have q := G74.len; rw [List.length_map] at q; rw [len_toInt q, List.length_map])
  obtain ⟨T79, h79, X79, e79, E79, A79, st79⟩ := newZ X77 hx hZ (hw _ (List.mem_of_getElem? (i := 19) rfl)) e77 (g := (mkF m 17 #[.val (.ref a), .val (.ref b67), .unset, .unset, .unset] [(.int ((sl.length.toInt32) * (2 : Int32)))])) rfl (hb hby d11_17) rfl (by rw [own_g0 hA]; decide) (cap := 16) (by rw [own_g0 hA]; decide) (by decide) (Nat.le_trans (Nat.add_le_add_right (Nat.add_le_add_right (Nat.le_refl 0) 1) 1) (by decide)) (Nat.le_trans (Nat.add_le_add_right (Nat.add_le_add_right (Nat.le_refl 0) 16) 16) (by decide))
  obtain ⟨b79, g79⟩ : ∃ z, z = h67.size := ⟨_, rfl⟩
  rw [← g79] at A79 st79
  have ne_a_b79 : a ≠ b79 := Nat.ne_of_lt (Nat.lt_of_lt_of_le G68.lt (Nat.le_of_eq g79.symm))
  have ne_aS_b79 : aS ≠ b79 := Nat.ne_of_lt (Nat.lt_of_lt_of_le G74.lt (Nat.le_of_eq g79.symm))
  have ne_aA_b79 : aA ≠ b79 := Nat.ne_of_lt (Nat.lt_of_lt_of_le G75.lt (Nat.le_of_eq g79.symm))
  have ne_b67_b79 : b67 ≠ b79 := Nat.ne_of_lt (Nat.lt_of_lt_of_le G76.lt (Nat.le_of_eq g79.symm))
  have G80 : Exa Z h79 a "com/example/talthybius/talthybius/AwaitedPings" := G68.ext E79
  have G81 : Fld Z h79 a "com/example/talthybius/talthybius/AwaitedPings" "timeoutNanos" "J" (.long tmo) := G69.ext E79
  have G82 : Fld Z h79 a "com/example/talthybius/talthybius/AwaitedPings" "sentAt" "[J" (.ref aS) := G70.ext E79
  have G83 : Fld Z h79 a "com/example/talthybius/talthybius/AwaitedPings" "answered" "[Z" (.ref aA) := G71.ext E79
  have G84 : Fld Z h79 a "com/example/talthybius/talthybius/AwaitedPings" "oldest" "I" (.int old) := G72.ext E79
  have G85 : Fld Z h79 a "com/example/talthybius/talthybius/AwaitedPings" "count" "I" (.int cnt) := G73.ext E79
  have G86 : VA Z h79 aS .long (sl.map Value.long) := G74.ext E79
  have G87 : VA Z h79 aA .boolean (al.map Value.int) := G75.ext E79
  have G88 : VA Z h79 b67 .long ((List.replicate ((sl.length.toInt32) * (2 : Int32)).toInt.toNat (0 : Int64)).map Value.long) := G76.ext E79
  have g_b79 : n0 ≤ b79 := Nat.le_trans Z67 (Nat.le_of_eq g79.symm)
  have sz_b79 : h0.size ≤ b79 := Nat.le_trans K67.1 (Nat.le_of_eq g79.symm)
  have K79 : Keep h0 h79 [a] := Keep.ext K67 E79
  have Z79 : n0 ≤ h79.size := Nat.le_trans Z0 K79.1
  have G89 : VA Z h79 b79 .boolean ((List.replicate ((sl.length.toInt32) * (2 : Int32)).toInt.toNat (0 : Int32)).map Value.int) := A79
  refine Go.step (T' := T79) (f' := (mkF m 22 #[.val (.ref a), .val (.ref b67), .val (.ref b79), .val (.int (0 : Int32)), .unset] [])) (fun t kt => ?_) ?_
  · show Steps p.tables e below (s₁.setTop (mkF m 0 #[.val (.ref a), .unset, .unset, .unset, .unset] [])) _
    refine XS.aloadN X0.here hx rfl (hb hby d11_0) rfl rfl ?_
    show Steps p.tables e below (s₁.setTop (mkF m 1 #[.val (.ref a), .unset, .unset, .unset, .unset] [(.ref a)])) _
    refine st65 _ ?_
    show Steps p.tables e below (T65.setTop (mkF m 4 #[.val (.ref a), .unset, .unset, .unset, .unset] [(.ref aS)])) _
    refine lenA X65 hx hZ e65 F6 (n := (sl.length.toInt32)) ln66 (g := (mkF m 4 #[.val (.ref a), .unset, .unset, .unset, .unset] [(.ref aS)])) rfl rfl (hb hby d11_4) _ ?_
    show Steps p.tables e below (T65.setTop (mkF m 5 #[.val (.ref a), .unset, .unset, .unset, .unset] [(.int (sl.length.toInt32))])) _
    refine XS.iconst X65.here hx rfl (hb hby d11_5) ?_
    show Steps p.tables e below (T65.setTop (mkF m 6 #[.val (.ref a), .unset, .unset, .unset, .unset] [(.int (2 : Int32)), (.int (sl.length.toInt32))])) _
    refine XS.imul X65.here hx rfl (hb hby d11_6) rfl ?_
    show Steps p.tables e below (T65.setTop (mkF m 7 #[.val (.ref a), .unset, .unset, .unset, .unset] [(.int ((sl.length.toInt32) * (2 : Int32)))])) _
    refine st67 _ ?_
    show Steps p.tables e below (T67.setTop (mkF m 9 #[.val (.ref a), .unset, .unset, .unset, .unset] [(.ref b67)])) _
    refine XS.astoreN X67.here hx rfl (hb hby d11_9) rfl rfl (l' := #[.val (.ref a), .val (.ref b67), .unset, .unset, .unset]) rfl ?_
    show Steps p.tables e below (T67.setTop (mkF m 10 #[.val (.ref a), .val (.ref b67), .unset, .unset, .unset] [])) _
    refine XS.aloadN X67.here hx rfl (hb hby d11_10) rfl rfl ?_
    show Steps p.tables e below (T67.setTop (mkF m 11 #[.val (.ref a), .val (.ref b67), .unset, .unset, .unset] [(.ref a)])) _
    refine st77 _ ?_
    show Steps p.tables e below (T77.setTop (mkF m 14 #[.val (.ref a), .val (.ref b67), .unset, .unset, .unset] [(.ref aS)])) _
    refine lenA X77 hx hZ e77 G74 (n := (sl.length.toInt32)) ln78 (g := (mkF m 14 #[.val (.ref a), .val (.ref b67), .unset, .unset, .unset] [(.ref aS)])) rfl rfl (hb hby d11_14) _ ?_
    show Steps p.tables e below (T77.setTop (mkF m 15 #[.val (.ref a), .val (.ref b67), .unset, .unset, .unset] [(.int (sl.length.toInt32))])) _
    refine XS.iconst X77.here hx rfl (hb hby d11_15) ?_
    show Steps p.tables e below (T77.setTop (mkF m 16 #[.val (.ref a), .val (.ref b67), .unset, .unset, .unset] [(.int (2 : Int32)), (.int (sl.length.toInt32))])) _
    refine XS.imul X77.here hx rfl (hb hby d11_16) rfl ?_
    show Steps p.tables e below (T77.setTop (mkF m 17 #[.val (.ref a), .val (.ref b67), .unset, .unset, .unset] [(.int ((sl.length.toInt32) * (2 : Int32)))])) _
    refine st79 _ ?_
    show Steps p.tables e below (T79.setTop (mkF m 19 #[.val (.ref a), .val (.ref b67), .unset, .unset, .unset] [(.ref b79)])) _
    refine XS.astoreN X79.here hx rfl (hb hby d11_19) rfl rfl (l' := #[.val (.ref a), .val (.ref b67), .val (.ref b79), .unset, .unset]) rfl ?_
    show Steps p.tables e below (T79.setTop (mkF m 20 #[.val (.ref a), .val (.ref b67), .val (.ref b79), .unset, .unset] [])) _
    refine XS.iconst X79.here hx rfl (hb hby d11_20) ?_
    show Steps p.tables e below (T79.setTop (mkF m 21 #[.val (.ref a), .val (.ref b67), .val (.ref b79), .unset, .unset] [(.int (0 : Int32))])) _
    refine XS.istoreN X79.here hx rfl (hb hby d11_21) rfl (l' := #[.val (.ref a), .val (.ref b67), .val (.ref b79), .val (.int (0 : Int32)), .unset]) rfl ?_
    exact kt
  exact S22 _ _ _ _ _ X79 (Nat.le_trans (Nat.add_le_add_right (Nat.add_le_add_right (Nat.le_refl 0) 1) 1) (by decide)) (Nat.le_trans (Nat.add_le_add_right (Nat.add_le_add_right (Nat.le_refl 0) 16) 16) (by decide)) h79 e79 N0 (0 : Int32) (.unset) (One.u) b67 b79 (List.replicate ((sl.length.toInt32) * (2 : Int32)).toInt.toNat (0 : Int64)) (List.replicate ((sl.length.toInt32) * (2 : Int32)).toInt.toNat (0 : Int32)) K79 G80 G81 G82 G83 G84 G85 G86 G87 G88 G89 g_b67 g_b79 sz_b67 sz_b79 ne_a_b67 ne_aS_b67 ne_aA_b67 ne_a_b79 ne_aS_b79 ne_aA_b79 ne_b67_b79 (own_g1 hA) rfl
theorem pd_3 : parseMethodDescriptor "()V" = some ⟨[], none⟩ := by decide +kernel
theorem d4_17 : decode prog_10_method_2_code 17 = .ok (.aload_n 0, 1) := by decide +kernel
theorem d4_18 : decode prog_10_method_2_code 18 = .ok (.invokevirtual 29, 3) := by decide +kernel
theorem ef_senG (m : MethodId) (x0 : Addr) (x1 : Int64) : entryFrame m #[(.ref x0), (.long x1)] 4 = mkF m 0 #[.val (.ref x0), .val (.long x1), .second, .unset] [] := by first | (simp [entryFrame, mkF, argsToLocals, Value.category]; done) | rfl
def QsenG (Z : State) (a : Addr) (tm : Int64) (aS : Addr) (aA : Addr) (tmo : Int64) (old : Int32) (cnt : Int32) (sl : List Int64) (al : List Int32) (q : List (Int64 × Int32)) (h0 : Heap) (n0 : Nat) (v : Option Value) (h : Heap) (L : List Loc) : Prop := ∃ (s2 : Addr), ∃ (a2 : Addr), ∃ (o1 : Int32), ∃ (c1 : Int32), ∃ (sl1 : List Int64), ∃ (al1 : List Int32), v = none ∧ Fr n0 L ∧ Keep h0 h [a] ∧ h0.size ≤ s2 ∧ h0.size ≤ a2 ∧ s2 ≠ a2 ∧ Fld Z h a "com/example/talthybius/talthybius/AwaitedPings" "timeoutNanos" "J" (.long tmo) ∧ Fld Z h a "com/example/talthybius/talthybius/AwaitedPings" "sentAt" "[J" (.ref s2) ∧ Fld Z h a "com/example/talthybius/talthybius/AwaitedPings" "answered" "[Z" (.ref a2) ∧ Fld Z h a "com/example/talthybius/talthybius/AwaitedPings" "oldest" "I" (.int o1) ∧ Fld Z h a "com/example/talthybius/talthybius/AwaitedPings" "count" "I" (.int c1) ∧ VA Z h s2 .long (sl1.map Value.long) ∧ VA Z h a2 .boolean (al1.map Value.int) ∧ (own_AP 16 sl1 al1 o1 c1 (own_dr tm tmo q ++ [(tm, 0)]))
set_option maxRecDepth 65536 in
set_option maxHeartbeats 40000000 in
theorem rm_senG (l : Launch) (Z : State) (a0 : Array Value) (hw : ∀ d ∈ tables_1, d.before a0 Z = true) (ws : List Jvm.Cond) (a : Addr) (tm : Int64) (aS : Addr) (aA : Addr) (tmo : Int64) (old : Int32) (cnt : Int32) (sl : List Int64) (al : List Int32) (q : List (Int64 × Int32)) (h0 : Heap) (n0 : Nat) (Z0 : n0 ≤ h0.size) (F0 : Exa Z h0 a "com/example/talthybius/talthybius/AwaitedPings") (F1 : Fld Z h0 a "com/example/talthybius/talthybius/AwaitedPings" "timeoutNanos" "J" (.long tmo)) (F2 : Fld Z h0 a "com/example/talthybius/talthybius/AwaitedPings" "sentAt" "[J" (.ref aS)) (F3 : Fld Z h0 a "com/example/talthybius/talthybius/AwaitedPings" "answered" "[Z" (.ref aA)) (F4 : Fld Z h0 a "com/example/talthybius/talthybius/AwaitedPings" "oldest" "I" (.int old)) (F5 : Fld Z h0 a "com/example/talthybius/talthybius/AwaitedPings" "count" "I" (.int cnt)) (F6 : VA Z h0 aS .long (sl.map Value.long)) (F7 : VA Z h0 aA .boolean (al.map Value.int)) (g_a : n0 ≤ a) (ne_a_aS : a ≠ aS) (ne_a_aA : a ≠ aA) (ne_aS_aA : aS ≠ aA) (hA : own_AP 8 sl al old cnt q) (h8 : (own_dr tm tmo q).length = 8) :
    MetFree l (⟨"com/example/talthybius/talthybius/AwaitedPings", "sent", "(J)V"⟩ : MethodName) (head1 (Jvm.Cond.code (⟨"com/example/talthybius/talthybius/AwaitedPings", "sent", "(J)V"⟩ : MethodName) prog_10_method_2_code 4 none :: ws) ({ frames := 2, cells := 2, slots := 32, locals := 30 } : Room)) (fun A_ U => A_ = #[(.ref a), (.long tm)] ∧ Z.Warmed39 U.vm ∧ U.heap = h0) (fun _ _ _ _ _ => True) (fun _ U o U' => ∃ v L, o = .returned v ∧ QsenG Z a tm aS aA tmo old cnt sl al q h0 n0 v U'.heap L ∧ FrameEnd U o U' L ({ frames := 2, cells := 2, slots := 32, locals := 30 } : Room).cells ({ frames := 2, cells := 2, slots := 32, locals := 30 } : Room).slots) := by
  refine MetFree.of_bodySF (plainFor_of_name pn_0) hisR ?_
  intro p e s m args below meth c s₁ Bd hml0 hP hK
  obtain ⟨rfl, hZ, hh⟩ := hP
  have hx := Bd.exec
  have hby := Bd.bytes
  have hml : c.maxLocals = 4 := hml0
  have hown : s.vm.findClass "com/example/talthybius/talthybius/AwaitedPings" = some m.cls := findClass_of_methodNamed Bd.named
  have hnm := (name_of_methodNamed Bd.named Bd.method).1
  have X0 : Stand p l e ({ frames := 2, cells := 2, slots := 32, locals := 30 } : Room) s m #[(.ref a), (.long tm)] below meth c s₁ [] 0 0 := Stand.of_body Bd
  have e0 : s₁.heap = h0 := by rw [← hh, Bd.state]; rfl
  have N0 := Fr.nil n0
  suffices HGO : Go p e below s (QsenG Z a tm aS aA tmo old cnt sl al q h0 n0) ({ frames := 2, cells := 2, slots := 32, locals := 30 } : Room).cells ({ frames := 2, cells := 2, slots := 32, locals := 30 } : Room).slots s₁ (mkF m 0 #[.val (.ref a), .val (.long tm), .second, .unset] []) from Go.cast (ef_senG m a tm) HGO
  obtain ⟨cq1, q1, q1'⟩ := (F0 : Exa Z h0 a "com/example/talthybius/talthybius/AwaitedPings").cell
  obtain ⟨_, _, ⟨T1, L1, k1, n1⟩, -, X1, ⟨Lc1, hQ1, l1, y1, z1⟩, st1⟩ := X0.privateBack hx (y := (⟨"com/example/talthybius/talthybius/AwaitedPings", "forget", "(J)V"⟩ : MethodName)) hown (mvT hZ (hw _ (List.mem_of_getElem? (i := 29) rfl))) (mvT hZ (hw _ (List.mem_of_getElem? (i := 30) rfl))) (own_psel (mvT hZ (hw _ (List.mem_of_getElem? (i := 9) rfl))) (Cond.privateMethod_at (mvP hZ (hw _ (List.mem_of_getElem? (i := 31) rfl)) (args := #[]))) (mvT hZ (hw _ (List.mem_of_getElem? (i := 30) rfl))) (by decide)) (Cond.privateMethod_at (mvP hZ (hw _ (List.mem_of_getElem? (i := 31) rfl)) (args := #[]))) (mvT hZ (hw _ (List.mem_of_getElem? (i := 32) rfl))) (by decide) (backOf (W := 0) (rm_fgtA l Z a0 hw [] a tm aS aA tmo old cnt sl al 8 q h0 n0 Z0 F0 F1 F2 F3 F4 F5 F6 F7 g_a ne_a_aS ne_a_aA ne_aS_aA hA) hZ (hw _ (List.mem_of_getElem? (i := 32) rfl)) (hw _ (List.mem_of_getElem? (i := 10) rfl)) (by decide) (by decide)) (g := (mkF m 2 #[.val (.ref a), .val (.long tm), .second, .unset] [(.long tm), (.ref a)])) rfl (by rw [hml]; rfl) (Steps.refl _) (a := a) (by rw [e0]; exact q1) q1' (argsL := [(.long tm)]) (rest := []) (lenOf pd_1 rfl) rfl (by show 2 * 0 + _ ≤ _; exact Nat.le_of_eq rfl) (hb hby d4_2) (fun _ _ => ⟨rfl, e0, (Nat.le_trans (Nat.add_le_add_right (Nat.le_refl 0) 0) (by decide)), (Nat.le_trans (Nat.add_le_add_right (Nat.le_refl 0) 0) (by decide))⟩)
  dsimp only [Pt.U, Pt.locs, Pt.cells, Pt.slots] at X1 l1 y1 z1 st1 hQ1
  subst l1 y1 z1
  obtain ⟨o1_1, c1_1, rfl, N1q, Kq1, pf1_0, pf1_1, pf1_2, pf1_3, pf1_4, ph1_0⟩ := hQ1
  have G2 : Exa Z T1.heap a "com/example/talthybius/talthybius/AwaitedPings" := Exa.keep F0 Kq1
  have G3 : VA Z T1.heap aS .long (sl.map Value.long) := F6.keep Kq1 (ninS (Ne.symm ne_a_aS) nin0)
  have G4 : VA Z T1.heap aA .boolean (al.map Value.int) := F7.keep Kq1 (ninS (Ne.symm ne_a_aA) nin0)
  have K1 : Keep h0 T1.heap [a] := Keep.trans (Keep.refl h0 [a]) Kq1 (allS (Or.inl (List.mem_of_getElem? (i := 0) rfl)) all0)
  have Z1 : n0 ≤ T1.heap.size := Nat.le_trans Z0 K1.1
  have N1 := Fr.app N0 N1q
  have hF := ph1_0
  obtain ⟨T5, X5, e5, st5⟩ := getF X1 hx hZ hown (host := "") (Or.inl (hw _ (List.mem_of_getElem? (i := 33) rfl))) Via.refl rfl pf1_4 (g := (mkF m 6 #[.val (.ref a), .val (.long tm), .second, .unset] [(.ref a)])) rfl rfl (hb hby d4_6)
  obtain ⟨T6, X6, e6, st6⟩ := getF X5 hx hZ hown (host := "") (Or.inl (hw _ (List.mem_of_getElem? (i := 17) rfl))) Via.refl e5 pf1_1 (g := (mkF m 10 #[.val (.ref a), .val (.long tm), .second, .unset] [(.ref a), (.int c1_1)])) rfl rfl (hb hby d4_10)
  have ln7 : ((sl.map Value.long).length : Int) = ((sl.length.toInt32)).toInt := (by have q := G3.len; rw [List.length_map] at q; rw [len_toInt q, List.length_map])
  refine Go.step (T' := T6) (f' := (mkF m 14 #[.val (.ref a), .val (.long tm), .second, .unset] [(.int (sl.length.toInt32)), (.int c1_1)])) (fun t kt => ?_) ?_
  · show Steps p.tables e below (s₁.setTop (mkF m 0 #[.val (.ref a), .val (.long tm), .second, .unset] [])) _
    refine XS.aloadN X0.here hx rfl (hb hby d4_0) rfl rfl ?_
    show Steps p.tables e below (s₁.setTop (mkF m 1 #[.val (.ref a), .val (.long tm), .second, .unset] [(.ref a)])) _
    refine XS.lloadN X0.here hx rfl (hb hby d4_1) rfl ?_
    show Steps p.tables e below (s₁.setTop (mkF m 2 #[.val (.ref a), .val (.long tm), .second, .unset] [(.long tm), (.ref a)])) _
    refine st1.trans ?_
    show Steps p.tables e below (T1.setTop (mkF m 5 #[.val (.ref a), .val (.long tm), .second, .unset] [])) _
    refine XS.aloadN X1.here hx rfl (hb hby d4_5) rfl rfl ?_
    show Steps p.tables e below (T1.setTop (mkF m 6 #[.val (.ref a), .val (.long tm), .second, .unset] [(.ref a)])) _
    refine st5 _ ?_
    show Steps p.tables e below (T5.setTop (mkF m 9 #[.val (.ref a), .val (.long tm), .second, .unset] [(.int c1_1)])) _
    refine XS.aloadN X5.here hx rfl (hb hby d4_9) rfl rfl ?_
    show Steps p.tables e below (T5.setTop (mkF m 10 #[.val (.ref a), .val (.long tm), .second, .unset] [(.ref a), (.int c1_1)])) _
    refine st6 _ ?_
    show Steps p.tables e below (T6.setTop (mkF m 13 #[.val (.ref a), .val (.long tm), .second, .unset] [(.ref aS), (.int c1_1)])) _
    refine lenA X6 hx hZ e6 G3 (n := (sl.length.toInt32)) ln7 (g := (mkF m 13 #[.val (.ref a), .val (.long tm), .second, .unset] [(.ref aS), (.int c1_1)])) rfl rfl (hb hby d4_13) _ ?_
    exact kt
  have hd8 : c1_1 = (sl.length.toInt32) := own_s4 hF h8
  obtain ⟨cq9, q9, q9'⟩ := (G2 : Exa Z T1.heap a "com/example/talthybius/talthybius/AwaitedPings").cell
  obtain ⟨_, _, ⟨T9, L9, k9, n9⟩, -, X9, ⟨Lc9, hQ9, l9, y9, z9⟩, st9⟩ := X6.privateBack hx (y := (⟨"com/example/talthybius/talthybius/AwaitedPings", "grow", "()V"⟩ : MethodName)) hown (mvT hZ (hw _ (List.mem_of_getElem? (i := 59) rfl))) (mvT hZ (hw _ (List.mem_of_getElem? (i := 60) rfl))) (own_psel (mvT hZ (hw _ (List.mem_of_getElem? (i := 9) rfl))) (Cond.privateMethod_at (mvP hZ (hw _ (List.mem_of_getElem? (i := 61) rfl)) (args := #[]))) (mvT hZ (hw _ (List.mem_of_getElem? (i := 60) rfl))) (by decide)) (Cond.privateMethod_at (mvP hZ (hw _ (List.mem_of_getElem? (i := 61) rfl)) (args := #[]))) (mvT hZ (hw _ (List.mem_of_getElem? (i := 62) rfl))) (by decide) (backOf (W := 0) (rm_groA l Z a0 hw [] a aS aA tmo o1_1 c1_1 sl al (own_dr tm tmo q) T1.heap n0 Z1 G2 pf1_0 pf1_1 pf1_2 pf1_3 pf1_4 G3 G4 g_a ne_a_aS ne_a_aA ne_aS_aA hF h8) hZ (hw _ (List.mem_of_getElem? (i := 62) rfl)) (hw _ (List.mem_of_getElem? (i := 10) rfl)) (by decide) (by decide)) (g := (mkF m 18 #[.val (.ref a), .val (.long tm), .second, .unset] [(.ref a)])) rfl (by rw [hml]; rfl) (Steps.refl _) (a := a) (by rw [e6]; exact q9) q9' (argsL := []) (rest := []) (lenOf pd_3 rfl) rfl (by show 2 * 0 + _ ≤ _; exact Nat.le_of_eq rfl) (hb hby d4_18) (fun _ _ => ⟨rfl, e6, (Nat.le_trans (Nat.add_le_add_right (Nat.add_le_add_right (Nat.le_refl 0) 0) 2) (by decide)), (Nat.le_trans (Nat.add_le_add_right (Nat.add_le_add_right (Nat.le_refl 0) 0) 32) (by decide))⟩)
  dsimp only [Pt.U, Pt.locs, Pt.cells, Pt.slots] at X9 l9 y9 z9 st9 hQ9
  subst l9 y9 z9
  obtain ⟨s2_9, a2_9, sl2_9, al2_9, rfl, N9q, Kq9, fz_s2_9, fz_a2_9, ne_s2_9_a2_9, pf9_0, pf9_1, pf9_2, pf9_3, pf9_4, pf9_5, pf9_6, ph9_0⟩ := hQ9
  have oldlt_9_a : a < T1.heap.size := G2.lt
  have oldlt_9_aS : aS < T1.heap.size := G3.lt
  have oldlt_9_aA : aA < T1.heap.size := G4.lt
  have G10 : Exa Z T9.heap a "com/example/talthybius/talthybius/AwaitedPings" := Exa.keep G2 Kq9
  have G11 : VA Z T9.heap aS .long (sl.map Value.long) := G3.keep Kq9 (ninS (Ne.symm ne_a_aS) nin0)
  have G12 : VA Z T9.heap aA .boolean (al.map Value.int) := G4.keep Kq9 (ninS (Ne.symm ne_a_aA) nin0)
  have ne_a_s2_9 : a ≠ s2_9 := Nat.ne_of_lt (Nat.lt_of_lt_of_le oldlt_9_a fz_s2_9)
  have ne_aS_s2_9 : aS ≠ s2_9 := Nat.ne_of_lt (Nat.lt_of_lt_of_le oldlt_9_aS fz_s2_9)
  have ne_aA_s2_9 : aA ≠ s2_9 := Nat.ne_of_lt (Nat.lt_of_lt_of_le oldlt_9_aA fz_s2_9)
  have g_s2_9 : n0 ≤ s2_9 := Nat.le_trans Z1 fz_s2_9
  have sz_s2_9 : h0.size ≤ s2_9 := Nat.le_trans K1.1 fz_s2_9
  have ne_a_a2_9 : a ≠ a2_9 := Nat.ne_of_lt (Nat.lt_of_lt_of_le oldlt_9_a fz_a2_9)
  have ne_aS_a2_9 : aS ≠ a2_9 := Nat.ne_of_lt (Nat.lt_of_lt_of_le oldlt_9_aS fz_a2_9)
  have ne_aA_a2_9 : aA ≠ a2_9 := Nat.ne_of_lt (Nat.lt_of_lt_of_le oldlt_9_aA fz_a2_9)
  have g_a2_9 : n0 ≤ a2_9 := Nat.le_trans Z1 fz_a2_9
  have sz_a2_9 : h0.size ≤ a2_9 := Nat.le_trans K1.1 fz_a2_9
  have K9 : Keep h0 T9.heap [a] := Keep.trans K1 Kq9 (allS (Or.inl (List.mem_of_getElem? (i := 0) rfl)) all0)
  have Z9 : n0 ≤ T9.heap.size := Nat.le_trans Z0 K9.1
  have N9 := Fr.app N1 N9q
  have hG := ph9_0
  obtain ⟨T13, X13, e13, st13⟩ := getF X9 hx hZ hown (host := "") (Or.inl (hw _ (List.mem_of_getElem? (i := 33) rfl))) Via.refl rfl pf9_4 (g := (mkF m 23 #[.val (.ref a), .val (.long tm), .second, .unset] [(.ref a), (.ref a)])) rfl rfl (hb hby d4_23)
  obtain ⟨cq14, q14, q14'⟩ := (G10 : Exa Z T9.heap a "com/example/talthybius/talthybius/AwaitedPings").cell
  obtain ⟨_, _, ⟨T14, L14, k14, n14⟩, -, X14, ⟨Lc14, hQ14, l14, y14, z14⟩, st14⟩ := X13.privateBack hx (y := (⟨"com/example/talthybius/talthybius/AwaitedPings", "placeOf", "(I)I"⟩ : MethodName)) hown (mvT hZ (hw _ (List.mem_of_getElem? (i := 35) rfl))) (mvT hZ (hw _ (List.mem_of_getElem? (i := 36) rfl))) (own_psel (mvT hZ (hw _ (List.mem_of_getElem? (i := 9) rfl))) (Cond.privateMethod_at (mvP hZ (hw _ (List.mem_of_getElem? (i := 37) rfl)) (args := #[]))) (mvT hZ (hw _ (List.mem_of_getElem? (i := 36) rfl))) (by decide)) (Cond.privateMethod_at (mvP hZ (hw _ (List.mem_of_getElem? (i := 37) rfl)) (args := #[]))) (mvT hZ (hw _ (List.mem_of_getElem? (i := 38) rfl))) (by decide) (backOf (W := 0) (rm_plaF l Z a0 hw [] a c1_1 s2_9 (0 : Int32) sl2_9 T9.heap n0 Z9 pf9_1 pf9_3 pf9_5 ) hZ (hw _ (List.mem_of_getElem? (i := 38) rfl)) (hw _ (List.mem_of_getElem? (i := 10) rfl)) (by decide) (by decide)) (g := (mkF m 26 #[.val (.ref a), .val (.long tm), .second, .unset] [(.int c1_1), (.ref a)])) rfl (by rw [hml]; rfl) (Steps.refl _) (a := a) (by rw [e13]; exact q14) q14' (argsL := [(.int c1_1)]) (rest := []) (lenOf pd_0 rfl) rfl (by show 2 * 0 + _ ≤ _; exact Nat.le_of_eq rfl) (hb hby d4_26) (fun _ _ => ⟨rfl, e13, (Nat.le_trans (Nat.add_le_add_right (Nat.add_le_add_right (Nat.add_le_add_right (Nat.le_refl 0) 0) 2) 0) (by decide)), (Nat.le_trans (Nat.add_le_add_right (Nat.add_le_add_right (Nat.add_le_add_right (Nat.le_refl 0) 0) 32) 0) (by decide))⟩)
  dsimp only [Pt.U, Pt.locs, Pt.cells, Pt.slots] at X14 l14 y14 z14 st14 hQ14
  subst l14 y14 z14
  obtain ⟨rfl, N14q, e14⟩ := hQ14
  have N14 := Fr.app N9 N14q
  obtain ⟨T15, X15, e15, st15⟩ := getF X14 hx hZ hown (host := "") (Or.inl (hw _ (List.mem_of_getElem? (i := 17) rfl))) Via.refl e14 pf9_1 (g := (mkF m 31 #[.val (.ref a), .val (.long tm), .second, .val (.int (plaF c1_1 (0 : Int32) sl2_9))] [(.ref a)])) rfl rfl (hb hby d4_31)
  have ix16 : 0 ≤ ((plaF c1_1 (0 : Int32) sl2_9)).toInt ∧ ((plaF c1_1 (0 : Int32) sl2_9)).toInt < ((sl2_9).length : Int) := own_s1 hG (by rw [h8]; decide)
  obtain ⟨T17, h17, X17, e17, W17, V17, st17⟩ := putJ X15 hx hZ e15 pf9_5 ix16.1 ix16.2 (g := (mkF m 36 #[.val (.ref a), .val (.long tm), .second, .val (.int (plaF c1_1 (0 : Int32) sl2_9))] [(.long tm), (.int (plaF c1_1 (0 : Int32) sl2_9)), (.ref s2_9)])) rfl rfl (hb hby d4_36)
  have G18 : Exa Z h17 a "com/example/talthybius/talthybius/AwaitedPings" := G10.wr W17
  have G19 : Fld Z h17 a "com/example/talthybius/talthybius/AwaitedPings" "timeoutNanos" "J" (.long tmo) := pf9_0.other W17 (Or.inl ne_a_s2_9)
  have G20 : Fld Z h17 a "com/example/talthybius/talthybius/AwaitedPings" "sentAt" "[J" (.ref s2_9) := pf9_1.other W17 (Or.inl ne_a_s2_9)
  have G21 : Fld Z h17 a "com/example/talthybius/talthybius/AwaitedPings" "answered" "[Z" (.ref a2_9) := pf9_2.other W17 (Or.inl ne_a_s2_9)
  have G22 : Fld Z h17 a "com/example/talthybius/talthybius/AwaitedPings" "oldest" "I" (.int (0 : Int32)) := pf9_3.other W17 (Or.inl ne_a_s2_9)
  have G23 : Fld Z h17 a "com/example/talthybius/talthybius/AwaitedPings" "count" "I" (.int c1_1) := pf9_4.other W17 (Or.inl ne_a_s2_9)
  have G24 : VA Z h17 aS .long (sl.map Value.long) := G11.other W17 ne_aS_s2_9
  have G25 : VA Z h17 aA .boolean (al.map Value.int) := G12.other W17 ne_aA_s2_9
  have G26 : VA Z h17 s2_9 .long ((sl2_9.set (plaF c1_1 (0 : Int32) sl2_9).toNatClampNeg tm).map Value.long) := V17
  have G27 : VA Z h17 a2_9 .boolean (al2_9.map Value.int) := pf9_6.other W17 (Ne.symm ne_s2_9_a2_9)
  have N17 := Fr.snoc X17 N14 g_s2_9
  have K17 : Keep h0 h17 [a] := Keep.wr K9 W17 (Or.inr sz_s2_9)
  have Z17 : n0 ≤ h17.size := Nat.le_trans Z0 K17.1
  obtain ⟨T28, X28, e28, st28⟩ := getF X17 hx hZ hown (host := "") (Or.inl (hw _ (List.mem_of_getElem? (i := 20) rfl))) Via.refl e17 G21 (g := (mkF m 38 #[.val (.ref a), .val (.long tm), .second, .val (.int (plaF c1_1 (0 : Int32) sl2_9))] [(.ref a)])) rfl rfl (hb hby d4_38)
  have ix29 : 0 ≤ ((plaF c1_1 (0 : Int32) sl2_9)).toInt ∧ ((plaF c1_1 (0 : Int32) sl2_9)).toInt < ((al2_9).length : Int) := own_s2 hG (by rw [h8]; decide)
  obtain ⟨T30, h30, X30, e30, W30, V30, st30⟩ := putZ X28 hx hZ e28 G27 ix29.1 ix29.2 (g := (mkF m 43 #[.val (.ref a), .val (.long tm), .second, .val (.int (plaF c1_1 (0 : Int32) sl2_9))] [(.int (0 : Int32)), (.int (plaF c1_1 (0 : Int32) sl2_9)), (.ref a2_9)])) rfl rfl (hb hby d4_43)
  have G31 : Exa Z h30 a "com/example/talthybius/talthybius/AwaitedPings" := G18.wr W30
  have G32 : Fld Z h30 a "com/example/talthybius/talthybius/AwaitedPings" "timeoutNanos" "J" (.long tmo) := G19.other W30 (Or.inl ne_a_a2_9)
  have G33 : Fld Z h30 a "com/example/talthybius/talthybius/AwaitedPings" "sentAt" "[J" (.ref s2_9) := G20.other W30 (Or.inl ne_a_a2_9)
  have G34 : Fld Z h30 a "com/example/talthybius/talthybius/AwaitedPings" "answered" "[Z" (.ref a2_9) := G21.other W30 (Or.inl ne_a_a2_9)
  have G35 : Fld Z h30 a "com/example/talthybius/talthybius/AwaitedPings" "oldest" "I" (.int (0 : Int32)) := G22.other W30 (Or.inl ne_a_a2_9)
  have G36 : Fld Z h30 a "com/example/talthybius/talthybius/AwaitedPings" "count" "I" (.int c1_1) := G23.other W30 (Or.inl ne_a_a2_9)
  have G37 : VA Z h30 aS .long (sl.map Value.long) := G24.other W30 ne_aS_a2_9
  have G38 : VA Z h30 aA .boolean (al.map Value.int) := G25.other W30 ne_aA_a2_9
  have G39 : VA Z h30 s2_9 .long ((sl2_9.set (plaF c1_1 (0 : Int32) sl2_9).toNatClampNeg tm).map Value.long) := G26.other W30 ne_s2_9_a2_9
  have G40 : VA Z h30 a2_9 .boolean ((al2_9.set (plaF c1_1 (0 : Int32) sl2_9).toNatClampNeg (0 : Int32)).map Value.int) := V30
  have N30 := Fr.snoc X30 N17 g_a2_9
  have K30 : Keep h0 h30 [a] := Keep.wr K17 W30 (Or.inr sz_a2_9)
  have Z30 : n0 ≤ h30.size := Nat.le_trans Z0 K30.1
  obtain ⟨T41, X41, e41, st41⟩ := getF X30 hx hZ hown (host := "") (Or.inl (hw _ (List.mem_of_getElem? (i := 33) rfl))) Via.refl e30 G36 (g := (mkF m 46 #[.val (.ref a), .val (.long tm), .second, .val (.int (plaF c1_1 (0 : Int32) sl2_9))] [(.ref a), (.ref a)])) rfl rfl (hb hby d4_46)
  obtain ⟨T42, h42, X42, e42, W42, st42⟩ := putF X41 hx hZ hown (host := "") (Or.inl (hw _ (List.mem_of_getElem? (i := 33) rfl))) Via.refl e41 G36 G31 (Or.inl (hw _ (List.mem_of_getElem? (i := 34) rfl))) (hw _ (List.mem_of_getElem? (i := 9) rfl)) (ty := .int) (by decide) rfl rfl (g := (mkF m 51 #[.val (.ref a), .val (.long tm), .second, .val (.int (plaF c1_1 (0 : Int32) sl2_9))] [(.int (c1_1 + (1 : Int32))), (.ref a)])) rfl rfl (hb hby d4_51)
  have G43 : Exa Z h42 a "com/example/talthybius/talthybius/AwaitedPings" := G31.wr W42
  have G44 : Fld Z h42 a "com/example/talthybius/talthybius/AwaitedPings" "timeoutNanos" "J" (.long tmo) := G32.other W42 (Or.inr (slot_ne (Or.inr (hw _ (List.mem_of_getElem? (i := 23) rfl))) (Or.inl (hw _ (List.mem_of_getElem? (i := 34) rfl))) (by decide) (t := .long) (t' := .int) (by decide) (by decide)))
  have G45 : Fld Z h42 a "com/example/talthybius/talthybius/AwaitedPings" "sentAt" "[J" (.ref s2_9) := G33.other W42 (Or.inr (slot_ne (Or.inl (hw _ (List.mem_of_getElem? (i := 18) rfl))) (Or.inl (hw _ (List.mem_of_getElem? (i := 34) rfl))) (by decide) (t := (.array .long)) (t' := .int) (by decide) (by decide)))
  have G46 : Fld Z h42 a "com/example/talthybius/talthybius/AwaitedPings" "answered" "[Z" (.ref a2_9) := G34.other W42 (Or.inr (slot_ne (Or.inl (hw _ (List.mem_of_getElem? (i := 21) rfl))) (Or.inl (hw _ (List.mem_of_getElem? (i := 34) rfl))) (by decide) (t := (.array .boolean)) (t' := .int) (by decide) (by decide)))
  have G47 : Fld Z h42 a "com/example/talthybius/talthybius/AwaitedPings" "oldest" "I" (.int (0 : Int32)) := G35.other W42 (Or.inr (slot_ne (Or.inl (hw _ (List.mem_of_getElem? (i := 40) rfl))) (Or.inl (hw _ (List.mem_of_getElem? (i := 34) rfl))) (by decide) (t := .int) (t' := .int) (by decide) (by decide)))
  have G48 : Fld Z h42 a "com/example/talthybius/talthybius/AwaitedPings" "count" "I" (.int (c1_1 + (1 : Int32))) := G36.same W42
  have G49 : VA Z h42 aS .long (sl.map Value.long) := G37.other W42 (Ne.symm ne_a_aS)
  have G50 : VA Z h42 aA .boolean (al.map Value.int) := G38.other W42 (Ne.symm ne_a_aA)
  have G51 : VA Z h42 s2_9 .long ((sl2_9.set (plaF c1_1 (0 : Int32) sl2_9).toNatClampNeg tm).map Value.long) := G39.other W42 (Ne.symm ne_a_s2_9)
  have G52 : VA Z h42 a2_9 .boolean ((al2_9.set (plaF c1_1 (0 : Int32) sl2_9).toNatClampNeg (0 : Int32)).map Value.int) := G40.other W42 (Ne.symm ne_a_a2_9)
  have N42 := Fr.snoc X42 N30 g_a
  have K42 : Keep h0 h42 [a] := Keep.wr K30 W42 (Or.inl (List.mem_of_getElem? (i := 0) rfl))
  have Z42 : n0 ≤ h42.size := Nat.le_trans Z0 K42.1
  refine Go.step (T' := T42) (f' := (mkF m 54 #[.val (.ref a), .val (.long tm), .second, .val (.int (plaF c1_1 (0 : Int32) sl2_9))] [])) (fun t kt => ?_) ?_
  · show Steps p.tables e below (T6.setTop (mkF m 14 #[.val (.ref a), .val (.long tm), .second, .unset] [(.int (sl.length.toInt32)), (.int c1_1)])) _
    refine XS.icmpNo X6.here hx rfl (hb hby d4_14) rfl (teq hd8).2 ?_
    show Steps p.tables e below (T6.setTop (mkF m 17 #[.val (.ref a), .val (.long tm), .second, .unset] [])) _
    refine XS.aloadN X6.here hx rfl (hb hby d4_17) rfl rfl ?_
    show Steps p.tables e below (T6.setTop (mkF m 18 #[.val (.ref a), .val (.long tm), .second, .unset] [(.ref a)])) _
    refine st9.trans ?_
    show Steps p.tables e below (T9.setTop (mkF m 21 #[.val (.ref a), .val (.long tm), .second, .unset] [])) _
    refine XS.aloadN X9.here hx rfl (hb hby d4_21) rfl rfl ?_
    show Steps p.tables e below (T9.setTop (mkF m 22 #[.val (.ref a), .val (.long tm), .second, .unset] [(.ref a)])) _
    refine XS.aloadN X9.here hx rfl (hb hby d4_22) rfl rfl ?_
    show Steps p.tables e below (T9.setTop (mkF m 23 #[.val (.ref a), .val (.long tm), .second, .unset] [(.ref a), (.ref a)])) _
    refine st13 _ ?_
    show Steps p.tables e below (T13.setTop (mkF m 26 #[.val (.ref a), .val (.long tm), .second, .unset] [(.int c1_1), (.ref a)])) _
    refine st14.trans ?_
    show Steps p.tables e below (T14.setTop (mkF m 29 #[.val (.ref a), .val (.long tm), .second, .unset] [(.int (plaF c1_1 (0 : Int32) sl2_9))])) _
    refine XS.istoreN X14.here hx rfl (hb hby d4_29) rfl (l' := #[.val (.ref a), .val (.long tm), .second, .val (.int (plaF c1_1 (0 : Int32) sl2_9))]) rfl ?_
    show Steps p.tables e below (T14.setTop (mkF m 30 #[.val (.ref a), .val (.long tm), .second, .val (.int (plaF c1_1 (0 : Int32) sl2_9))] [])) _
    refine XS.aloadN X14.here hx rfl (hb hby d4_30) rfl rfl ?_
    show Steps p.tables e below (T14.setTop (mkF m 31 #[.val (.ref a), .val (.long tm), .second, .val (.int (plaF c1_1 (0 : Int32) sl2_9))] [(.ref a)])) _
    refine st15 _ ?_
    show Steps p.tables e below (T15.setTop (mkF m 34 #[.val (.ref a), .val (.long tm), .second, .val (.int (plaF c1_1 (0 : Int32) sl2_9))] [(.ref s2_9)])) _
    refine XS.iloadN X15.here hx rfl (hb hby d4_34) rfl ?_
    show Steps p.tables e below (T15.setTop (mkF m 35 #[.val (.ref a), .val (.long tm), .second, .val (.int (plaF c1_1 (0 : Int32) sl2_9))] [(.int (plaF c1_1 (0 : Int32) sl2_9)), (.ref s2_9)])) _
    refine XS.lloadN X15.here hx rfl (hb hby d4_35) rfl ?_
    show Steps p.tables e below (T15.setTop (mkF m 36 #[.val (.ref a), .val (.long tm), .second, .val (.int (plaF c1_1 (0 : Int32) sl2_9))] [(.long tm), (.int (plaF c1_1 (0 : Int32) sl2_9)), (.ref s2_9)])) _
    refine st17 _ ?_
    show Steps p.tables e below (T17.setTop (mkF m 37 #[.val (.ref a), .val (.long tm), .second, .val (.int (plaF c1_1 (0 : Int32) sl2_9))] [])) _
    refine XS.aloadN X17.here hx rfl (hb hby d4_37) rfl rfl ?_
    show Steps p.tables e below (T17.setTop (mkF m 38 #[.val (.ref a), .val (.long tm), .second, .val (.int (plaF c1_1 (0 : Int32) sl2_9))] [(.ref a)])) _
    refine st28 _ ?_
    show Steps p.tables e below (T28.setTop (mkF m 41 #[.val (.ref a), .val (.long tm), .second, .val (.int (plaF c1_1 (0 : Int32) sl2_9))] [(.ref a2_9)])) _
    refine XS.iloadN X28.here hx rfl (hb hby d4_41) rfl ?_
    show Steps p.tables e below (T28.setTop (mkF m 42 #[.val (.ref a), .val (.long tm), .second, .val (.int (plaF c1_1 (0 : Int32) sl2_9))] [(.int (plaF c1_1 (0 : Int32) sl2_9)), (.ref a2_9)])) _
    refine XS.iconst X28.here hx rfl (hb hby d4_42) ?_
    show Steps p.tables e below (T28.setTop (mkF m 43 #[.val (.ref a), .val (.long tm), .second, .val (.int (plaF c1_1 (0 : Int32) sl2_9))] [(.int (0 : Int32)), (.int (plaF c1_1 (0 : Int32) sl2_9)), (.ref a2_9)])) _
    refine st30 _ ?_
    show Steps p.tables e below (T30.setTop (mkF m 44 #[.val (.ref a), .val (.long tm), .second, .val (.int (plaF c1_1 (0 : Int32) sl2_9))] [])) _
    refine XS.aloadN X30.here hx rfl (hb hby d4_44) rfl rfl ?_
    show Steps p.tables e below (T30.setTop (mkF m 45 #[.val (.ref a), .val (.long tm), .second, .val (.int (plaF c1_1 (0 : Int32) sl2_9))] [(.ref a)])) _
    refine XS.dup X30.here hx rfl (hb hby d4_45) rfl rfl ?_
    show Steps p.tables e below (T30.setTop (mkF m 46 #[.val (.ref a), .val (.long tm), .second, .val (.int (plaF c1_1 (0 : Int32) sl2_9))] [(.ref a), (.ref a)])) _
    refine st41 _ ?_
    show Steps p.tables e below (T41.setTop (mkF m 49 #[.val (.ref a), .val (.long tm), .second, .val (.int (plaF c1_1 (0 : Int32) sl2_9))] [(.int c1_1), (.ref a)])) _
    refine XS.iconst X41.here hx rfl (hb hby d4_49) ?_
    show Steps p.tables e below (T41.setTop (mkF m 50 #[.val (.ref a), .val (.long tm), .second, .val (.int (plaF c1_1 (0 : Int32) sl2_9))] [(.int (1 : Int32)), (.int c1_1), (.ref a)])) _
    refine XS.iadd X41.here hx rfl (hb hby d4_50) rfl ?_
    show Steps p.tables e below (T41.setTop (mkF m 51 #[.val (.ref a), .val (.long tm), .second, .val (.int (plaF c1_1 (0 : Int32) sl2_9))] [(.int (c1_1 + (1 : Int32))), (.ref a)])) _
    refine st42 _ ?_
    exact kt
  refine Go.fin X42 (v := none) (fun _ => rfl) Bd.notSynchronized ?_ (Nat.le_trans (Nat.add_le_add_right (Nat.add_le_add_right (Nat.add_le_add_right (Nat.le_refl 0) 0) 2) 0) (by decide)) (Nat.le_trans (Nat.add_le_add_right (Nat.add_le_add_right (Nat.add_le_add_right (Nat.le_refl 0) 0) 32) 0) (by decide)) (fun fs hr => X42.returnOut hx Bd.returns (hb hby d4_54) hr)
  · show QsenG Z a tm aS aA tmo old cnt sl al q h0 n0 _ T42.heap _
    rw [e42]
    exact ⟨s2_9, a2_9, (0 : Int32), (c1_1 + (1 : Int32)), (sl2_9.set (plaF c1_1 (0 : Int32) sl2_9).toNatClampNeg tm), (al2_9.set (plaF c1_1 (0 : Int32) sl2_9).toNatClampNeg (0 : Int32)), rfl, N42, K42, sz_s2_9, sz_a2_9, ne_s2_9_a2_9, G44, G45, G46, G47, G48, G51, G52, own_s3 hG (by rw [h8]; decide)⟩
def own_P (tmo : Int64) (q : List (Int64 × Int32)) (t : Int64) : List (Int64 × Int32) := own_dr t tmo q ++ [(t, (0 : Int32))]
def own_Qn (tmo : Int64) (ss : List Int64) : Nat → List (Int64 × Int32)
  | 0 => own_P tmo [] (ss.getD 0 0)
  | n + 1 => own_P tmo (own_Qn tmo ss n) (ss.getD (n + 1) 0)
def own_SS (m : Nat) (ss : List Int64) : Prop := ss.length = m + 1 ∧ ∀ i j : Nat, i < j → j ≤ m → (ss.getD i 0).toInt < (ss.getD j 0).toInt ∧ (ss.getD j 0).toInt - (ss.getD i 0).toInt ≤ 6000
theorem own_df {a b : Int64} (h0 : 0 ≤ a.toInt - b.toInt) (h1 : a.toInt - b.toInt ≤ 100000) : (a - b).toInt = a.toInt - b.toInt := by
  have := c_lsub a b; have := rng64 (a - b); omega
theorem own_dl {now tmo : Int64} {q : List (Int64 × Int32)} : (own_dr now tmo q).length ≤ q.length := by
  unfold own_dr
  exact (List.dropWhile_suffix _).length_le
theorem own_lP {tmo : Int64} {q : List (Int64 × Int32)} {t : Int64} {n : Nat} (h : q.length ≤ n) : (own_P tmo q t).length ≤ n + 1 := by
  unfold own_P
  have := own_dl (now := t) (tmo := tmo) (q := q)
  rw [List.length_append]; simp; omega
theorem own_dw {α : Type} (p : α → Bool) (l : List α) (h : List.Pairwise (fun a b => p b = true → p a = true) l) : l.dropWhile p = l.filter (fun a => !p a) := by
  induction l with
  | nil => rfl
  | cons a t ih =>
    obtain ⟨h1, h2⟩ := List.pairwise_cons.mp h
    by_cases c : p a = true
    · rw [List.dropWhile_cons, if_pos c, ih h2, List.filter_cons, if_neg (by simp [c])]
    · rw [List.dropWhile_cons, if_neg c]
      symm
      apply List.filter_eq_self.mpr
      intro x hx
      rcases List.mem_cons.mp hx with rfl | hx
      · simp [c]
      · cases e : p x
        · rfl
        · exact absurd (h1 x hx e) c
theorem own_ex {tmo : Int64} {ss : List Int64} {m : Nat} (hs : own_SS m ss) : ∀ n : Nat, n ≤ m → own_Qn tmo ss n = ((List.range (n + 1)).filter (fun j => decide (j = n) || !decide (tmo < ss.getD n 0 - ss.getD j 0))).map (fun j => (ss.getD j 0, (0 : Int32))) := by
  intro n
  induction n with
  | zero => intro _; rfl
  | succ n ih =>
    intro hn
    have hd : ∀ a b : Nat, a ≤ b → b ≤ m → (ss.getD b 0 - ss.getD a 0).toInt = (ss.getD b 0).toInt - (ss.getD a 0).toInt ∧ 0 ≤ (ss.getD b 0).toInt - (ss.getD a 0).toInt := fun a b hab hb => by
      by_cases e : a = b
      · subst e; refine ⟨own_df (by omega) (by omega), by omega⟩
      · have q := hs.2 a b (by omega) hb
        refine ⟨own_df (by omega) (by omega), by omega⟩
    show own_P tmo (own_Qn tmo ss n) (ss.getD (n + 1) 0) = _
    unfold own_P own_dr
    rw [ih (by omega), List.dropWhile_map, own_dw, List.filter_filter, List.range_succ (n := n + 1), List.filter_append, List.map_append]
    · congr 1
      · congr 1
        apply List.filter_congr
        intro j hj
        have hj' := List.mem_range.mp hj
        have e1 : decide (j = n + 1) = false := decide_eq_false (by omega)
        rw [e1, Bool.false_or]
        show (!decide (tmo < ss.getD (n + 1) 0 - ss.getD j 0) && (decide (j = n) || !decide (tmo < ss.getD n 0 - ss.getD j 0))) = !decide (tmo < ss.getD (n + 1) 0 - ss.getD j 0)
        cases c : decide (tmo < ss.getD (n + 1) 0 - ss.getD j 0)
        · have c' := of_decide_eq_false c
          have : (decide (j = n) || !decide (tmo < ss.getD n 0 - ss.getD j 0)) = true := by
            have a1 := hd j (n + 1) (by omega) hn
            have a2 := hd j n (by omega) (by omega)
            have a3 := hd n (n + 1) (by omega) hn
            rw [Int64.lt_iff_toInt_lt] at c'
            have : ¬ tmo < ss.getD n 0 - ss.getD j 0 := by rw [Int64.lt_iff_toInt_lt]; omega
            rw [decide_eq_false this]; cases decide (j = n) <;> rfl
          rw [this]; rfl
        · rfl
      · simp
    · apply List.Pairwise.filter
      refine List.Pairwise.imp_of_mem (R := (· < ·)) ?_ List.pairwise_lt_range
      intro a b ha hb hab hp
      have hb' := List.mem_range.mp hb
      have a1 := hd a (n + 1) (by omega) hn
      have a2 := hd b (n + 1) (by omega) hn
      have a3 := hs.2 a b hab (by omega)
      simp only [Function.comp, decide_eq_true_eq] at hp ⊢
      rw [Int64.lt_iff_toInt_lt] at hp ⊢
      omega
theorem own_mem {tmo : Int64} {ss : List Int64} {m : Nat} (hs : own_SS m ss) {n : Nat} (hn : n ≤ m) {e : Int64 × Int32} : e ∈ own_Qn tmo ss n ↔ ∃ j : Nat, j ≤ n ∧ (j = n ∨ ¬ tmo < ss.getD n 0 - ss.getD j 0) ∧ e = (ss.getD j 0, (0 : Int32)) := by
  rw [own_ex hs n hn, List.mem_map]
  constructor
  · rintro ⟨j, hj, rfl⟩
    rw [List.mem_filter, List.mem_range] at hj
    refine ⟨j, by omega, ?_, rfl⟩
    have := hj.2
    simpa using this
  · rintro ⟨j, h1, h2, rfl⟩
    refine ⟨j, ?_, rfl⟩
    rw [List.mem_filter, List.mem_range]
    exact ⟨by omega, by simpa using h2⟩
theorem own_pw {tmo : Int64} {ss : List Int64} {m : Nat} (hs : own_SS m ss) {n : Nat} (hn : n ≤ m) : List.Pairwise (fun a b : Int64 × Int32 => a.1.toInt < b.1.toInt) (own_Qn tmo ss n) := by
  rw [own_ex hs n hn, List.pairwise_map]
  apply List.Pairwise.filter
  refine List.Pairwise.imp_of_mem (R := (· < ·)) ?_ List.pairwise_lt_range
  intro a b ha hb hab
  have hb' := List.mem_range.mp hb
  exact (hs.2 a b hab (by omega)).1
theorem own_srt_of {q : List (Int64 × Int32)} (h : List.Pairwise (fun a b : Int64 × Int32 => a.1.toInt < b.1.toInt) q) : own_srt q := fun i j hij hj => List.pairwise_iff_getElem.mp h i j (by omega) hj hij
theorem own_drf {now tmo : Int64} {q : List (Int64 × Int32)} (h : List.Pairwise (fun a b : Int64 × Int32 => a.1.toInt < b.1.toInt) q) (hx : ∀ e ∈ q, (now - e.1).toInt = now.toInt - e.1.toInt) : own_dr now tmo q = q.filter (fun e => !decide (tmo < now - e.1)) := by
  unfold own_dr
  apply own_dw
  refine List.Pairwise.imp_of_mem ?_ h
  intro a b ha hb hab hp
  have h1 := hx a ha
  have h2 := hx b hb
  simp only [decide_eq_true_eq] at hp ⊢
  rw [Int64.lt_iff_toInt_lt] at hp ⊢
  omega
theorem own_an1 {e : Int64} {q : List (Int64 × Int32)} (h : (e, (0 : Int32)) ∈ q) : own_an e q = 1 := by
  unfold own_an
  rw [if_pos]
  exact List.any_eq_true.mpr ⟨_, h, by simp⟩
theorem own_an0 {e : Int64} {q : List (Int64 × Int32)} (h : ¬ (e, (0 : Int32)) ∈ q) : own_an e q = 0 := by
  unfold own_an
  rw [if_neg]
  intro hx
  obtain ⟨x, hx1, hx2⟩ := List.any_eq_true.mp hx
  simp only [Bool.and_eq_true, decide_eq_true_eq] at hx2
  apply h
  have : x = (e, (0 : Int32)) := Prod.ext hx2.1 hx2.2
  rw [← this]; exact hx1
theorem own_nx {now : Int64} {tmo : Int64} {ss : List Int64} {m : Nat} (hs : own_SS m ss) (hnow : 0 ≤ now.toInt - (ss.getD m 0).toInt ∧ now.toInt - (ss.getD m 0).toInt ≤ 6000) : ∀ j : Nat, j ≤ m → (now - ss.getD j 0).toInt = now.toInt - (ss.getD j 0).toInt ∧ (ss.getD m 0 - ss.getD j 0).toInt = (ss.getD m 0).toInt - (ss.getD j 0).toInt := fun j hj => by
  by_cases e : j = m
  · subst e; exact ⟨own_df (by omega) (by omega), own_df (by omega) (by omega)⟩
  · have q := hs.2 j m (by omega) (Nat.le_refl _)
    exact ⟨own_df (by omega) (by omega), own_df (by omega) (by omega)⟩
theorem own_uni {ss : List Int64} {m : Nat} (hs : own_SS m ss) {i j : Nat} (hi : i ≤ m) (hj : j ≤ m) (e : ss.getD i 0 = ss.getD j 0) : i = j := by
  rcases Nat.lt_trichotomy i j with g | g | g
  · have := hs.2 i j g hj; rw [e] at this; omega
  · exact g
  · have := hs.2 j i g hi; rw [e] at this; omega
theorem own_dm {now : Int64} {tmo : Int64} {ss : List Int64} {m : Nat} (hs : own_SS m ss) (hnow : 0 ≤ now.toInt - (ss.getD m 0).toInt ∧ now.toInt - (ss.getD m 0).toInt ≤ 6000) {e : Int64 × Int32} : e ∈ own_dr now tmo (own_Qn tmo ss m) ↔ ∃ j : Nat, j ≤ m ∧ ¬ tmo < now - ss.getD j 0 ∧ e = (ss.getD j 0, (0 : Int32)) := by
  have nx := own_nx (tmo := tmo) hs hnow
  rw [own_drf (own_pw hs (Nat.le_refl _)) (fun x hx => by
    obtain ⟨j, hj, -, rfl⟩ := (own_mem hs (Nat.le_refl _)).mp hx
    exact (nx j hj).1), List.mem_filter, own_mem hs (Nat.le_refl _)]
  constructor
  · rintro ⟨⟨j, h1, h2, rfl⟩, h3⟩
    exact ⟨j, h1, by simpa using h3, rfl⟩
  · rintro ⟨j, h1, h2, rfl⟩
    refine ⟨⟨j, h1, ?_, rfl⟩, by simpa using h2⟩
    right
    have a := nx j h1
    rw [Int64.lt_iff_toInt_lt] at h2 ⊢
    omega
/-- the first answer, where nothing was answered before -/
theorem own_A1 {now : Int64} {tmo : Int64} {ss : List Int64} {m : Nat} (hs : own_SS m ss) (hnow : 0 ≤ now.toInt - (ss.getD m 0).toInt ∧ now.toInt - (ss.getD m 0).toInt ≤ 6000) {k : Nat} (hk : k ≤ m) : own_an (ss.getD k 0) (own_dr now tmo (own_Qn tmo ss m)) = if tmo < now - ss.getD k 0 then 0 else 1 := by
  split
  · rename_i h
    apply own_an0
    intro hm
    obtain ⟨j, h1, h2, h3⟩ := (own_dm hs hnow).mp hm
    have e := own_uni hs hk h1 (Prod.mk.inj h3).1
    subst e; exact h2 h
  · rename_i h
    exact own_an1 ((own_dm hs hnow).mpr ⟨k, hk, h, rfl⟩)
theorem own_mkp {a : Int64} {q : List (Int64 × Int32)} (h : List.Pairwise (fun a b : Int64 × Int32 => a.1.toInt < b.1.toInt) q) : List.Pairwise (fun a b : Int64 × Int32 => a.1.toInt < b.1.toInt) (own_mk a q) := by
  unfold own_mk
  rw [List.pairwise_map]
  refine h.imp ?_
  intro x y hxy
  have f : ∀ z : Int64 × Int32, (if z.1 = a then (z.1, (1 : Int32)) else z).1 = z.1 := fun z => by split <;> rfl
  rw [f, f]; exact hxy
theorem own_dpw {now tmo : Int64} {q : List (Int64 × Int32)} (h : List.Pairwise (fun a b : Int64 × Int32 => a.1.toInt < b.1.toInt) q) : List.Pairwise (fun a b : Int64 × Int32 => a.1.toInt < b.1.toInt) (own_dr now tmo q) := by
  unfold own_dr
  exact h.sublist (List.dropWhile_sublist _)
theorem own_mk_mem {a e : Int64} {q : List (Int64 × Int32)} : (e, (0 : Int32)) ∈ own_mk a q ↔ e ≠ a ∧ (e, (0 : Int32)) ∈ q := by
  unfold own_mk
  rw [List.mem_map]
  constructor
  · rintro ⟨x, hx, hq⟩
    split at hq
    · exact absurd (Prod.mk.inj hq).2 (by decide)
    · rename_i g
      subst hq
      exact ⟨g, hx⟩
  · rintro ⟨h1, h2⟩
    exact ⟨_, h2, by rw [if_neg h1]⟩
theorem own_mk_fst {a : Int64} {q : List (Int64 × Int32)} {x : Int64 × Int32} (h : x ∈ own_mk a q) : ∃ y ∈ q, x.1 = y.1 := by
  unfold own_mk at h
  obtain ⟨y, hy, rfl⟩ := List.mem_map.mp h
  refine ⟨y, hy, ?_⟩
  split <;> rfl
/-- the second answer: a was asked at now1 before -/
theorem own_A2 {now now1 : Int64} {tmo : Int64} {ss : List Int64} {m : Nat} (hs : own_SS m ss) (h1 : 0 ≤ now1.toInt - (ss.getD m 0).toInt ∧ now1.toInt - (ss.getD m 0).toInt ≤ 6000) (hnow : 0 ≤ now.toInt - (ss.getD m 0).toInt ∧ now.toInt - (ss.getD m 0).toInt ≤ 6000) (hle : now1.toInt ≤ now.toInt) {a e : Int64} : (e, (0 : Int32)) ∈ own_dr now tmo (own_mk a (own_dr now1 tmo (own_Qn tmo ss m))) ↔ e ≠ a ∧ ∃ j : Nat, j ≤ m ∧ ¬ tmo < now - ss.getD j 0 ∧ e = ss.getD j 0 := by
  have nx := own_nx (tmo := tmo) hs hnow
  have nx1 := own_nx (tmo := tmo) hs h1
  rw [own_drf (own_mkp (own_dpw (own_pw hs (Nat.le_refl _)))) (fun x hx => by
    obtain ⟨y, hy, e⟩ := own_mk_fst hx
    obtain ⟨j, hj, -, rfl⟩ := (own_dm hs h1).mp hy
    rw [e]; exact (nx j hj).1), List.mem_filter, own_mk_mem, own_dm hs h1]
  constructor
  · rintro ⟨⟨g1, j, g2, g3, g4⟩, g5⟩
    have e1 := (Prod.mk.inj g4).1
    exact ⟨g1, j, g2, by rw [← e1]; simpa using g5, e1⟩
  · rintro ⟨g1, j, g2, g3, rfl⟩
    refine ⟨⟨g1, j, g2, ?_, rfl⟩, by simpa using g3⟩
    have b1 := nx j g2
    have b2 := nx1 j g2
    rw [Int64.lt_iff_toInt_lt] at g3 ⊢
    omega
theorem own_ap0 : own_AP 8 [(0 : Int64), (0 : Int64), (0 : Int64), (0 : Int64), (0 : Int64), (0 : Int64), (0 : Int64), (0 : Int64)] [(0 : Int32), (0 : Int32), (0 : Int32), (0 : Int32), (0 : Int32), (0 : Int32), (0 : Int32), (0 : Int32)] (0 : Int32) (0 : Int32) [] :=
  ⟨rfl, rfl, Or.inl rfl, by decide, by decide, rfl, by decide, (fun e he => nomatch he), fun i h => absurd h (Nat.not_lt_zero _)⟩
theorem own_hlt {now tmo : Int64} {q : List (Int64 × Int32)} {n : Nat} (h : q.length ≤ n) (hn : n < 8) : (own_dr now tmo q).length < 8 := by
  have := own_dl (now := now) (tmo := tmo) (q := q); omega
theorem own_hlt8 {now tmo : Int64} {q : List (Int64 × Int32)} (h : q.length ≤ 8) (hn : ¬ (own_dr now tmo q).length = 8) : (own_dr now tmo q).length < 8 := by
  have := own_dl (now := now) (tmo := tmo) (q := q); omega
theorem own_st {m G : Nat} {ss : List Int64} (hl : ss.length = m + 1) (hG : m * G ≤ 6000) (hs : ∀ i : Nat, i < m → (ss.getD i 0).toInt < (ss.getD (i + 1) 0).toInt ∧ (ss.getD (i + 1) 0).toInt - (ss.getD i 0).toInt ≤ G) : own_SS m ss := by
  refine ⟨hl, fun i j hij hj => ?_⟩
  have key : ∀ d : Nat, i + d + 1 ≤ m → (ss.getD i 0).toInt < (ss.getD (i + d + 1) 0).toInt ∧ (ss.getD (i + d + 1) 0).toInt - (ss.getD i 0).toInt ≤ ((d + 1) * G : Nat) := by
    intro d
    induction d with
    | zero => intro h; have := hs i (by omega); simp only [Nat.add_zero, Nat.zero_add, Nat.one_mul]; exact this
    | succ d ih =>
      intro h
      have a := ih (by omega)
      have b := hs (i + d + 1) (by omega)
      have e : (d + 1 + 1) * G = (d + 1) * G + G := by rw [Nat.add_mul (d + 1) 1 G, Nat.one_mul]
      rw [e]
      rw [show i + (d + 1) + 1 = i + d + 1 + 1 from rfl]
      omega
  obtain ⟨d, rfl⟩ : ∃ d, j = i + d + 1 := ⟨j - i - 1, by omega⟩
  have a := key d hj
  have : (d + 1) * G ≤ m * G := Nat.mul_le_mul_right _ (by omega)
  omega
theorem own_ixl {ss : List Int64} {k : Int32} {m : Nat} (hS : own_SS m ss) (h : 0 ≤ k.toInt ∧ k.toInt ≤ m) : 0 ≤ k.toInt ∧ k.toInt < (ss.length : Int) := by
  have := hS.1; omega
theorem d1_0 : decode method_2_code 0 = .ok (.ldc2_w 7, 3) := by decide +kernel
theorem d1_3 : decode method_2_code 3 = .ok (.lload_n 0, 1) := by decide +kernel
theorem d1_4 : decode method_2_code 4 = .ok (.bipush 8, 2) := by decide +kernel
theorem d1_6 : decode method_2_code 6 = .ok (.iload_n 2, 1) := by decide +kernel
theorem d1_7 : decode method_2_code 7 = .ok (.imul, 1) := by decide +kernel
theorem d1_8 : decode method_2_code 8 = .ok (.lushr, 1) := by decide +kernel
theorem d1_9 : decode method_2_code 9 = .ok (.ldc2_w 9, 3) := by decide +kernel
theorem d1_12 : decode method_2_code 12 = .ok (.land, 1) := by decide +kernel
theorem d1_13 : decode method_2_code 13 = .ok (.lconst 1, 1) := by decide +kernel
theorem d1_14 : decode method_2_code 14 = .ok (.ladd, 1) := by decide +kernel
theorem d1_15 : decode method_2_code 15 = .ok (.lmul, 1) := by decide +kernel
theorem d1_16 : decode method_2_code 16 = .ok (.lreturn, 1) := by decide +kernel
theorem pn_1 : plainName "com/example/talthybius/talthybius/AwaitedPingsSentPinLaw" = true := by first | (simp [plainName, overriddenIn]; done) | decide +kernel
theorem ef_gapF (m : MethodId) (x0 : Int64) (x1 : Int32) : entryFrame m #[(.long x0), (.int x1)] 3 = mkF m 0 #[.val (.long x0), .second, .val (.int x1)] [] := by first | (simp [entryFrame, mkF, argsToLocals, Value.category]; done) | rfl
def gapF (p1 : Int64) (p2 : Int32) : Int64 := ((2 : Int64) * ((((p1.toUInt64 >>> (((8 : Int32) * p2) &&& 0x3f).toInt64.toUInt64).toInt64) &&& (255 : Int64)) + (1 : Int64)))
def QgapF (RES : Int64) (h0 : Heap) (n0 : Nat) (v : Option Value) (h : Heap) (L : List Loc) : Prop := v = some (.long RES) ∧ Fr n0 L ∧ h = h0
set_option maxRecDepth 65536 in
set_option maxHeartbeats 40000000 in
theorem rm_gapF (l : Launch) (Z : State) (a0 : Array Value) (hw : ∀ d ∈ tables_1, d.before a0 Z = true) (ws : List Jvm.Cond) (p1 : Int64) (p2 : Int32)  (h0 : Heap) (n0 : Nat) (Z0 : n0 ≤ h0.size) :
    MetFree l (⟨"com/example/talthybius/talthybius/AwaitedPingsSentPinLaw", "gap", "(JI)J"⟩ : MethodName) (head1 (Jvm.Cond.code (⟨"com/example/talthybius/talthybius/AwaitedPingsSentPinLaw", "gap", "(JI)J"⟩ : MethodName) method_2_code 3 (some .long) :: ws) ({ frames := 0, cells := 0, slots := 0, locals := 0 } : Room)) (fun A_ U => A_ = #[(.long p1), (.int p2)] ∧ Z.Warmed39 U.vm ∧ U.heap = h0) (fun _ _ _ _ _ => True) (fun _ U o U' => ∃ v L, o = .returned v ∧ QgapF (gapF p1 p2) h0 n0 v U'.heap L ∧ FrameEnd U o U' L ({ frames := 0, cells := 0, slots := 0, locals := 0 } : Room).cells ({ frames := 0, cells := 0, slots := 0, locals := 0 } : Room).slots) := by
  refine MetFree.of_bodySF (plainFor_of_name pn_1) hisR ?_
  intro p e s m args below meth c s₁ Bd hml0 hP hK
  obtain ⟨rfl, hZ, hh⟩ := hP
  have hx := Bd.exec
  have hby := Bd.bytes
  have hml : c.maxLocals = 3 := hml0
  have hown : s.vm.findClass "com/example/talthybius/talthybius/AwaitedPingsSentPinLaw" = some m.cls := findClass_of_methodNamed Bd.named
  have hnm := (name_of_methodNamed Bd.named Bd.method).1
  have X0 : Stand p l e ({ frames := 0, cells := 0, slots := 0, locals := 0 } : Room) s m #[(.long p1), (.int p2)] below meth c s₁ [] 0 0 := Stand.of_body Bd
  have e0 : s₁.heap = h0 := by rw [← hh, Bd.state]; rfl
  have N0 := Fr.nil n0
  obtain ⟨RES, hf⟩ : ∃ z, z = gapF p1 p2 := ⟨_, rfl⟩
  rw [← hf]
  rw [gapF] at hf
  suffices HGO : Go p e below s (QgapF RES h0 n0) ({ frames := 0, cells := 0, slots := 0, locals := 0 } : Room).cells ({ frames := 0, cells := 0, slots := 0, locals := 0 } : Room).slots s₁ (mkF m 0 #[.val (.long p1), .second, .val (.int p2)] []) from Go.cast (ef_gapF m p1 p2) HGO
  refine Go.step (T' := s₁) (f' := (mkF m 16 #[.val (.long p1), .second, .val (.int p2)] [(.long ((2 : Int64) * ((((p1.toUInt64 >>> (((8 : Int32) * p2) &&& 0x3f).toInt64.toUInt64).toInt64) &&& (255 : Int64)) + (1 : Int64))))])) (fun t kt => ?_) ?_
  · show Steps p.tables e below (s₁.setTop (mkF m 0 #[.val (.long p1), .second, .val (.int p2)] [])) _
    refine X0.ldc2Long hx hown (mvT hZ (hw _ (List.mem_of_getElem? (i := 6) rfl))) (g := (mkF m 0 #[.val (.long p1), .second, .val (.int p2)] [])) rfl (hb hby d1_0) _ ?_
    show Steps p.tables e below (s₁.setTop (mkF m 3 #[.val (.long p1), .second, .val (.int p2)] [(.long (2 : Int64))])) _
    refine XS.lloadN X0.here hx rfl (hb hby d1_3) rfl ?_
    show Steps p.tables e below (s₁.setTop (mkF m 4 #[.val (.long p1), .second, .val (.int p2)] [(.long p1), (.long (2 : Int64))])) _
    refine XS.bipush X0.here hx rfl (hb hby d1_4) ?_
    show Steps p.tables e below (s₁.setTop (mkF m 6 #[.val (.long p1), .second, .val (.int p2)] [(.int (8 : Int32)), (.long p1), (.long (2 : Int64))])) _
    refine XS.iloadN X0.here hx rfl (hb hby d1_6) rfl ?_
    show Steps p.tables e below (s₁.setTop (mkF m 7 #[.val (.long p1), .second, .val (.int p2)] [(.int p2), (.int (8 : Int32)), (.long p1), (.long (2 : Int64))])) _
    refine XS.imul X0.here hx rfl (hb hby d1_7) rfl ?_
    show Steps p.tables e below (s₁.setTop (mkF m 8 #[.val (.long p1), .second, .val (.int p2)] [(.int ((8 : Int32) * p2)), (.long p1), (.long (2 : Int64))])) _
    refine XS.lushr X0.here hx rfl (hb hby d1_8) rfl ?_
    show Steps p.tables e below (s₁.setTop (mkF m 9 #[.val (.long p1), .second, .val (.int p2)] [(.long ((p1.toUInt64 >>> (((8 : Int32) * p2) &&& 0x3f).toInt64.toUInt64).toInt64)), (.long (2 : Int64))])) _
    refine X0.ldc2Long hx hown (mvT hZ (hw _ (List.mem_of_getElem? (i := 7) rfl))) (g := (mkF m 9 #[.val (.long p1), .second, .val (.int p2)] [(.long ((p1.toUInt64 >>> (((8 : Int32) * p2) &&& 0x3f).toInt64.toUInt64).toInt64)), (.long (2 : Int64))])) rfl (hb hby d1_9) _ ?_
    show Steps p.tables e below (s₁.setTop (mkF m 12 #[.val (.long p1), .second, .val (.int p2)] [(.long (255 : Int64)), (.long ((p1.toUInt64 >>> (((8 : Int32) * p2) &&& 0x3f).toInt64.toUInt64).toInt64)), (.long (2 : Int64))])) _
    refine XS.land X0.here hx rfl (hb hby d1_12) rfl ?_
    show Steps p.tables e below (s₁.setTop (mkF m 13 #[.val (.long p1), .second, .val (.int p2)] [(.long (((p1.toUInt64 >>> (((8 : Int32) * p2) &&& 0x3f).toInt64.toUInt64).toInt64) &&& (255 : Int64))), (.long (2 : Int64))])) _
    refine XS.lconst X0.here hx rfl (hb hby d1_13) ?_
    show Steps p.tables e below (s₁.setTop (mkF m 14 #[.val (.long p1), .second, .val (.int p2)] [(.long (1 : Int64)), (.long (((p1.toUInt64 >>> (((8 : Int32) * p2) &&& 0x3f).toInt64.toUInt64).toInt64) &&& (255 : Int64))), (.long (2 : Int64))])) _
    refine XS.ladd X0.here hx rfl (hb hby d1_14) rfl ?_
    show Steps p.tables e below (s₁.setTop (mkF m 15 #[.val (.long p1), .second, .val (.int p2)] [(.long ((((p1.toUInt64 >>> (((8 : Int32) * p2) &&& 0x3f).toInt64.toUInt64).toInt64) &&& (255 : Int64)) + (1 : Int64))), (.long (2 : Int64))])) _
    refine XS.lmul X0.here hx rfl (hb hby d1_15) rfl ?_
    exact kt
  refine Go.fin X0 (v := some (.long ((2 : Int64) * ((((p1.toUInt64 >>> (((8 : Int32) * p2) &&& 0x3f).toInt64.toUInt64).toInt64) &&& (255 : Int64)) + (1 : Int64))))) (fun h => by rw [Bd.returns] at h; cases h) Bd.notSynchronized ?_ (Nat.le_trans (Nat.le_refl 0) (by decide)) (Nat.le_trans (Nat.le_refl 0) (by decide)) (fun fs hr => X0.lreturnOut hx Bd.returns (hb hby d1_16) hr)
  · exact ⟨by rw [hf], N0, e0⟩
theorem d7_0 : decode method_3_code 0 = .ok (.lload_n 0, 1) := by decide +kernel
theorem d7_1 : decode method_3_code 1 = .ok (.lload_n 2, 1) := by decide +kernel
theorem d7_2 : decode method_3_code 2 = .ok (.lsub, 1) := by decide +kernel
theorem d7_3 : decode method_3_code 3 = .ok (.lload 4, 2) := by decide +kernel
theorem d7_5 : decode method_3_code 5 = .ok (.lcmp, 1) := by decide +kernel
theorem d7_6 : decode method_3_code 6 = .ok (.ifCond .gt 7, 3) := by decide +kernel
theorem d7_9 : decode method_3_code 9 = .ok (.iconst 1, 1) := by decide +kernel
theorem d7_10 : decode method_3_code 10 = .ok (.goto 4, 3) := by decide +kernel
theorem d7_13 : decode method_3_code 13 = .ok (.iconst 0, 1) := by decide +kernel
theorem d7_14 : decode method_3_code 14 = .ok (.ireturn, 1) := by decide +kernel
theorem ef_aliF (m : MethodId) (x0 : Int64) (x1 : Int64) (x2 : Int64) : entryFrame m #[(.long x0), (.long x1), (.long x2)] 6 = mkF m 0 #[.val (.long x0), .second, .val (.long x1), .second, .val (.long x2), .second] [] := by first | (simp [entryFrame, mkF, argsToLocals, Value.category]; done) | rfl
def aliF (p1 : Int64) (p2 : Int64) (p3 : Int64) : Int32 := (if p3 < (p1 - p2) then (0 : Int32) else (1 : Int32))
def QaliF (RES : Int32) (h0 : Heap) (n0 : Nat) (v : Option Value) (h : Heap) (L : List Loc) : Prop := v = some (.int RES) ∧ Fr n0 L ∧ h = h0
set_option maxRecDepth 65536 in
set_option maxHeartbeats 40000000 in
theorem rm_aliF (l : Launch) (Z : State) (a0 : Array Value) (hw : ∀ d ∈ tables_1, d.before a0 Z = true) (ws : List Jvm.Cond) (p1 : Int64) (p2 : Int64) (p3 : Int64)  (h0 : Heap) (n0 : Nat) (Z0 : n0 ≤ h0.size) :
    MetFree l (⟨"com/example/talthybius/talthybius/AwaitedPingsSentPinLaw", "alive", "(JJJ)I"⟩ : MethodName) (head1 (Jvm.Cond.code (⟨"com/example/talthybius/talthybius/AwaitedPingsSentPinLaw", "alive", "(JJJ)I"⟩ : MethodName) method_3_code 6 (some .int) :: ws) ({ frames := 0, cells := 0, slots := 0, locals := 0 } : Room)) (fun A_ U => A_ = #[(.long p1), (.long p2), (.long p3)] ∧ Z.Warmed39 U.vm ∧ U.heap = h0) (fun _ _ _ _ _ => True) (fun _ U o U' => ∃ v L, o = .returned v ∧ QaliF (aliF p1 p2 p3) h0 n0 v U'.heap L ∧ FrameEnd U o U' L ({ frames := 0, cells := 0, slots := 0, locals := 0 } : Room).cells ({ frames := 0, cells := 0, slots := 0, locals := 0 } : Room).slots) := by
  refine MetFree.of_bodySF (plainFor_of_name pn_1) hisR ?_
  intro p e s m args below meth c s₁ Bd hml0 hP hK
  obtain ⟨rfl, hZ, hh⟩ := hP
  have hx := Bd.exec
  have hby := Bd.bytes
  have hml : c.maxLocals = 6 := hml0
  have hown : s.vm.findClass "com/example/talthybius/talthybius/AwaitedPingsSentPinLaw" = some m.cls := findClass_of_methodNamed Bd.named
  have hnm := (name_of_methodNamed Bd.named Bd.method).1
  have X0 : Stand p l e ({ frames := 0, cells := 0, slots := 0, locals := 0 } : Room) s m #[(.long p1), (.long p2), (.long p3)] below meth c s₁ [] 0 0 := Stand.of_body Bd
  have e0 : s₁.heap = h0 := by rw [← hh, Bd.state]; rfl
  have N0 := Fr.nil n0
  obtain ⟨RES, hf⟩ : ∃ z, z = aliF p1 p2 p3 := ⟨_, rfl⟩
  rw [← hf]
  rw [aliF] at hf
  suffices HGO : Go p e below s (QaliF RES h0 n0) ({ frames := 0, cells := 0, slots := 0, locals := 0 } : Room).cells ({ frames := 0, cells := 0, slots := 0, locals := 0 } : Room).slots s₁ (mkF m 0 #[.val (.long p1), .second, .val (.long p2), .second, .val (.long p3), .second] []) from Go.cast (ef_aliF m p1 p2 p3) HGO
  refine Go.step (T' := s₁) (f' := (mkF m 6 #[.val (.long p1), .second, .val (.long p2), .second, .val (.long p3), .second] [(.int (lcmpW (p1 - p2) p3))])) (fun t kt => ?_) ?_
  · show Steps p.tables e below (s₁.setTop (mkF m 0 #[.val (.long p1), .second, .val (.long p2), .second, .val (.long p3), .second] [])) _
    refine XS.lloadN X0.here hx rfl (hb hby d7_0) rfl ?_
    show Steps p.tables e below (s₁.setTop (mkF m 1 #[.val (.long p1), .second, .val (.long p2), .second, .val (.long p3), .second] [(.long p1)])) _
    refine XS.lloadN X0.here hx rfl (hb hby d7_1) rfl ?_
    show Steps p.tables e below (s₁.setTop (mkF m 2 #[.val (.long p1), .second, .val (.long p2), .second, .val (.long p3), .second] [(.long p2), (.long p1)])) _
    refine XS.lsub X0.here hx rfl (hb hby d7_2) rfl ?_
    show Steps p.tables e below (s₁.setTop (mkF m 3 #[.val (.long p1), .second, .val (.long p2), .second, .val (.long p3), .second] [(.long (p1 - p2))])) _
    refine XS.lload X0.here hx rfl (hb hby d7_3) rfl ?_
    show Steps p.tables e below (s₁.setTop (mkF m 5 #[.val (.long p1), .second, .val (.long p2), .second, .val (.long p3), .second] [(.long p3), (.long (p1 - p2))])) _
    refine XS.lcmp X0.here hx rfl (hb hby d7_5) rfl ?_
    exact kt
  by_cases hc1 : p3 < (p1 - p2)
  · rw [if_pos hc1] at hf
    refine Go.step (T' := s₁) (f' := (mkF m 13 #[.val (.long p1), .second, .val (.long p2), .second, .val (.long p3), .second] [])) (fun t kt => ?_) ?_
    · show Steps p.tables e below (s₁.setTop (mkF m 6 #[.val (.long p1), .second, .val (.long p2), .second, .val (.long p3), .second] [(.int (lcmpW (p1 - p2) p3))])) _
      refine XS.ifYes X0.here hx rfl (pc0 := 6) (pc' := 13) rfl (hb hby d7_6) rfl ((if0 _ _).trans (tlt ((lw_gt _ _).mpr hc1)).2.2.1) (by decide) (by decide) ?_
      exact kt
    refine Go.step (T' := s₁) (f' := (mkF m 14 #[.val (.long p1), .second, .val (.long p2), .second, .val (.long p3), .second] [(.int (0 : Int32))])) (fun t kt => ?_) ?_
    · show Steps p.tables e below (s₁.setTop (mkF m 13 #[.val (.long p1), .second, .val (.long p2), .second, .val (.long p3), .second] [])) _
      refine XS.iconst X0.here hx rfl (hb hby d7_13) ?_
      exact kt
    refine Go.fin X0 (v := some (.int (0 : Int32))) (fun h => by rw [Bd.returns] at h; cases h) Bd.notSynchronized ?_ (Nat.le_trans (Nat.le_refl 0) (by decide)) (Nat.le_trans (Nat.le_refl 0) (by decide)) (fun fs hr => retI X0 hx Bd.returns (hb hby d7_14) hr)
    · exact ⟨by rw [hf], N0, e0⟩
  · rw [if_neg hc1] at hf
    refine Go.step (T' := s₁) (f' := (mkF m 9 #[.val (.long p1), .second, .val (.long p2), .second, .val (.long p3), .second] [])) (fun t kt => ?_) ?_
    · show Steps p.tables e below (s₁.setTop (mkF m 6 #[.val (.long p1), .second, .val (.long p2), .second, .val (.long p3), .second] [(.int (lcmpW (p1 - p2) p3))])) _
      refine XS.ifNo X0.here hx rfl (hb hby d7_6) rfl ((if0 _ _).trans (flt (fun q => hc1 ((lw_gt _ _).mp q))).2.2.1) ?_
      exact kt
    refine Go.step (T' := s₁) (f' := (mkF m 14 #[.val (.long p1), .second, .val (.long p2), .second, .val (.long p3), .second] [(.int (1 : Int32))])) (fun t kt => ?_) ?_
    · show Steps p.tables e below (s₁.setTop (mkF m 9 #[.val (.long p1), .second, .val (.long p2), .second, .val (.long p3), .second] [])) _
      refine XS.iconst X0.here hx rfl (hb hby d7_9) ?_
      show Steps p.tables e below (s₁.setTop (mkF m 10 #[.val (.long p1), .second, .val (.long p2), .second, .val (.long p3), .second] [(.int (1 : Int32))])) _
      refine XS.goto X0.here hx rfl (pc0 := 10) (pc' := 14) rfl (hb hby d7_10) (by decide) (by decide) ?_
      exact kt
    refine Go.fin X0 (v := some (.int (1 : Int32))) (fun h => by rw [Bd.returns] at h; cases h) Bd.notSynchronized ?_ (Nat.le_trans (Nat.le_refl 0) (by decide)) (Nat.le_trans (Nat.le_refl 0) (by decide)) (fun fs hr => retI X0 hx Bd.returns (hb hby d7_14) hr)
    · exact ⟨by rw [hf], N0, e0⟩
theorem d8_0 : decode prog_10_method_4_code 0 = .ok (.aload_n 0, 1) := by decide +kernel
theorem d8_1 : decode prog_10_method_4_code 1 = .ok (.getfield 25, 3) := by decide +kernel
theorem d8_4 : decode prog_10_method_4_code 4 = .ok (.ireturn, 1) := by decide +kernel
theorem ef_sizF (m : MethodId) (x0 : Addr) : entryFrame m #[(.ref x0)] 1 = mkF m 0 #[.val (.ref x0)] [] := by first | (simp [entryFrame, mkF, argsToLocals, Value.category]; done) | rfl
def sizF (cnt : Int32) : Int32 := cnt
def QsizF (Z : State) (a : Addr) (cnt : Int32) (RES : Int32) (h0 : Heap) (n0 : Nat) (v : Option Value) (h : Heap) (L : List Loc) : Prop := v = some (.int RES) ∧ Fr n0 L ∧ h = h0
set_option maxRecDepth 65536 in
set_option maxHeartbeats 40000000 in
theorem rm_sizF (l : Launch) (Z : State) (a0 : Array Value) (hw : ∀ d ∈ tables_1, d.before a0 Z = true) (ws : List Jvm.Cond) (a : Addr) (cnt : Int32) (h0 : Heap) (n0 : Nat) (Z0 : n0 ≤ h0.size) (F0 : Fld Z h0 a "com/example/talthybius/talthybius/AwaitedPings" "count" "I" (.int cnt)) :
    MetFree l (⟨"com/example/talthybius/talthybius/AwaitedPings", "size", "()I"⟩ : MethodName) (head1 (Jvm.Cond.code (⟨"com/example/talthybius/talthybius/AwaitedPings", "size", "()I"⟩ : MethodName) prog_10_method_4_code 1 (some .int) :: ws) ({ frames := 0, cells := 0, slots := 0, locals := 0 } : Room)) (fun A_ U => A_ = #[(.ref a)] ∧ Z.Warmed39 U.vm ∧ U.heap = h0) (fun _ _ _ _ _ => True) (fun _ U o U' => ∃ v L, o = .returned v ∧ QsizF Z a cnt (sizF cnt) h0 n0 v U'.heap L ∧ FrameEnd U o U' L ({ frames := 0, cells := 0, slots := 0, locals := 0 } : Room).cells ({ frames := 0, cells := 0, slots := 0, locals := 0 } : Room).slots) := by
  refine MetFree.of_bodySF (plainFor_of_name pn_0) hisR ?_
  intro p e s m args below meth c s₁ Bd hml0 hP hK
  obtain ⟨rfl, hZ, hh⟩ := hP
  have hx := Bd.exec
  have hby := Bd.bytes
  have hml : c.maxLocals = 1 := hml0
  have hown : s.vm.findClass "com/example/talthybius/talthybius/AwaitedPings" = some m.cls := findClass_of_methodNamed Bd.named
  have hnm := (name_of_methodNamed Bd.named Bd.method).1
  have X0 : Stand p l e ({ frames := 0, cells := 0, slots := 0, locals := 0 } : Room) s m #[(.ref a)] below meth c s₁ [] 0 0 := Stand.of_body Bd
  have e0 : s₁.heap = h0 := by rw [← hh, Bd.state]; rfl
  have N0 := Fr.nil n0
  obtain ⟨RES, hf⟩ : ∃ z, z = sizF cnt := ⟨_, rfl⟩
  rw [← hf]
  rw [sizF] at hf
  suffices HGO : Go p e below s (QsizF Z a cnt RES h0 n0) ({ frames := 0, cells := 0, slots := 0, locals := 0 } : Room).cells ({ frames := 0, cells := 0, slots := 0, locals := 0 } : Room).slots s₁ (mkF m 0 #[.val (.ref a)] []) from Go.cast (ef_sizF m a) HGO
  obtain ⟨T1, X1, e1, st1⟩ := getF X0 hx hZ hown (host := "") (Or.inl (hw _ (List.mem_of_getElem? (i := 33) rfl))) Via.refl e0 F0 (g := (mkF m 1 #[.val (.ref a)] [(.ref a)])) rfl rfl (hb hby d8_1)
  refine Go.step (T' := T1) (f' := (mkF m 4 #[.val (.ref a)] [(.int cnt)])) (fun t kt => ?_) ?_
  · show Steps p.tables e below (s₁.setTop (mkF m 0 #[.val (.ref a)] [])) _
    refine XS.aloadN X0.here hx rfl (hb hby d8_0) rfl rfl ?_
    show Steps p.tables e below (s₁.setTop (mkF m 1 #[.val (.ref a)] [(.ref a)])) _
    refine st1 _ ?_
    exact kt
  refine Go.fin X1 (v := some (.int cnt)) (fun h => by rw [Bd.returns] at h; cases h) Bd.notSynchronized ?_ (Nat.le_trans (Nat.le_refl 0) (by decide)) (Nat.le_trans (Nat.le_refl 0) (by decide)) (fun fs hr => retI X1 hx Bd.returns (hb hby d8_4) hr)
  · exact ⟨by rw [hf], N0, e1⟩
theorem own_2x (x : Int64) : 2 ≤ ((2 : Int64) * ((x &&& (255 : Int64)) + (1 : Int64))).toInt ∧ ((2 : Int64) * ((x &&& (255 : Int64)) + (1 : Int64))).toInt ≤ 512 := by
  have a := c_maskL x 255 8 (by decide) (by decide)
  have k1 : (1 : Int64).toInt = 1 := rfl
  have k2 : (2 : Int64).toInt = 2 := rfl
  generalize (x &&& (255 : Int64)) = y at *
  have b := c_ladd y 1; have r := rng64 (y + 1)
  have d := c_lmul 2 (y + 1); have r2 := rng64 (2 * (y + 1))
  rw [k2] at d
  omega
theorem own_gap (g : Int64) (i : Int32) : 2 ≤ (gapF g i).toInt ∧ (gapF g i).toInt ≤ 512 := own_2x _
theorem own_sp {a b : Int64} (h : a.toInt ≤ 4611686018427387904 + 8192) (e : ∃ d : Int64, (2 ≤ d.toInt ∧ d.toInt ≤ 512) ∧ b = a + d) : a.toInt < b.toInt ∧ b.toInt - a.toInt ≤ 512 := by
  obtain ⟨d, hd, rfl⟩ := e
  have a1 := c_ladd a d
  have r1 := rng64 (a + d); have r3 := rng64 a
  omega
theorem own_t9 {s0 s1 s2 s3 s4 s5 s6 s7 s8 s9 : Int64} (h : s0.toInt ≤ 4611686018427387904) (e1 : ∃ d : Int64, (2 ≤ d.toInt ∧ d.toInt ≤ 512) ∧ s1 = s0 + d) (e2 : ∃ d : Int64, (2 ≤ d.toInt ∧ d.toInt ≤ 512) ∧ s2 = s1 + d) (e3 : ∃ d : Int64, (2 ≤ d.toInt ∧ d.toInt ≤ 512) ∧ s3 = s2 + d) (e4 : ∃ d : Int64, (2 ≤ d.toInt ∧ d.toInt ≤ 512) ∧ s4 = s3 + d) (e5 : ∃ d : Int64, (2 ≤ d.toInt ∧ d.toInt ≤ 512) ∧ s5 = s4 + d) (e6 : ∃ d : Int64, (2 ≤ d.toInt ∧ d.toInt ≤ 512) ∧ s6 = s5 + d) (e7 : ∃ d : Int64, (2 ≤ d.toInt ∧ d.toInt ≤ 512) ∧ s7 = s6 + d) (e8 : ∃ d : Int64, (2 ≤ d.toInt ∧ d.toInt ≤ 512) ∧ s8 = s7 + d) (e9 : ∃ d : Int64, (2 ≤ d.toInt ∧ d.toInt ≤ 512) ∧ s9 = s8 + d) : own_SS 9 [s0, s1, s2, s3, s4, s5, s6, s7, s8, s9] := by
  have a1 := own_sp (by omega) e1
  have a2 := own_sp (by omega) e2
  have a3 := own_sp (by omega) e3
  have a4 := own_sp (by omega) e4
  have a5 := own_sp (by omega) e5
  have a6 := own_sp (by omega) e6
  have a7 := own_sp (by omega) e7
  have a8 := own_sp (by omega) e8
  have a9 := own_sp (by omega) e9
  refine own_st (G := 512) rfl (by decide) fun i hi => ?_
  match i, hi with
  | 0, _ => exact (show s0.toInt < s1.toInt ∧ s1.toInt - s0.toInt ≤ (512 : Nat) by omega)
  | 1, _ => exact (show s1.toInt < s2.toInt ∧ s2.toInt - s1.toInt ≤ (512 : Nat) by omega)
  | 2, _ => exact (show s2.toInt < s3.toInt ∧ s3.toInt - s2.toInt ≤ (512 : Nat) by omega)
  | 3, _ => exact (show s3.toInt < s4.toInt ∧ s4.toInt - s3.toInt ≤ (512 : Nat) by omega)
  | 4, _ => exact (show s4.toInt < s5.toInt ∧ s5.toInt - s4.toInt ≤ (512 : Nat) by omega)
  | 5, _ => exact (show s5.toInt < s6.toInt ∧ s6.toInt - s5.toInt ≤ (512 : Nat) by omega)
  | 6, _ => exact (show s6.toInt < s7.toInt ∧ s7.toInt - s6.toInt ≤ (512 : Nat) by omega)
  | 7, _ => exact (show s7.toInt < s8.toInt ∧ s8.toInt - s7.toInt ≤ (512 : Nat) by omega)
  | 8, _ => exact (show s8.toInt < s9.toInt ∧ s9.toInt - s8.toInt ≤ (512 : Nat) by omega)
theorem own_hf (b : Int64) : (b >>> ((1 : Int32) &&& 0x3f).toInt64).toInt ≤ 4611686018427387904 := by
  have := c_lshr b 1 1 (by decide)
  have := rng64 b
  omega
theorem own_t7 (x : Int64) : 0 ≤ (x &&& (8191 : Int64)).toInt := by
  have := c_maskL x 8191 13 (by decide) (by decide)
  omega
theorem own_len {p : Nat → Bool} : ((List.range 10).filter p).length = (p 0).toNat + (p 1).toNat + (p 2).toNat + (p 3).toNat + (p 4).toNat + (p 5).toNat + (p 6).toNat + (p 7).toNat + (p 8).toNat + (p 9).toNat := by
  have h : ∀ (a : Nat) (l : List Nat), ((a :: l).filter p).length = (p a).toNat + (l.filter p).length := by
    intro a l
    rw [List.filter_cons]
    cases p a
    · simp
    · simp; omega
  rw [show List.range 10 = [0, 1, 2, 3, 4, 5, 6, 7, 8, 9] from rfl, h, h, h, h, h, h, h, h, h, h, List.filter_nil, List.length_nil]
  omega
theorem own_ali (a b t : Int64) : 0 ≤ (aliF a b t).toInt ∧ (aliF a b t).toInt ≤ 1 := by
  unfold aliF
  split <;> decide
theorem own_sum {a0 a1 a2 a3 a4 a5 a6 a7 a8 a9 : Int32} (h0 : 0 ≤ a0.toInt ∧ a0.toInt ≤ 1) (h1 : 0 ≤ a1.toInt ∧ a1.toInt ≤ 1) (h2 : 0 ≤ a2.toInt ∧ a2.toInt ≤ 1) (h3 : 0 ≤ a3.toInt ∧ a3.toInt ≤ 1) (h4 : 0 ≤ a4.toInt ∧ a4.toInt ≤ 1) (h5 : 0 ≤ a5.toInt ∧ a5.toInt ≤ 1) (h6 : 0 ≤ a6.toInt ∧ a6.toInt ≤ 1) (h7 : 0 ≤ a7.toInt ∧ a7.toInt ≤ 1) (h8 : 0 ≤ a8.toInt ∧ a8.toInt ≤ 1) (h9 : 0 ≤ a9.toInt ∧ a9.toInt ≤ 1) : (a0 + a1 + a2 + a3 + a4 + a5 + a6 + a7 + a8 + a9).toInt = a0.toInt + a1.toInt + a2.toInt + a3.toInt + a4.toInt + a5.toInt + a6.toInt + a7.toInt + a8.toInt + a9.toInt := by
  have b1 := own_add (x := a0) (y := a1) (by omega) (by omega)
  have b2 := own_add (x := a0 + a1) (y := a2) (by omega) (by omega)
  have b3 := own_add (x := a0 + a1 + a2) (y := a3) (by omega) (by omega)
  have b4 := own_add (x := a0 + a1 + a2 + a3) (y := a4) (by omega) (by omega)
  have b5 := own_add (x := a0 + a1 + a2 + a3 + a4) (y := a5) (by omega) (by omega)
  have b6 := own_add (x := a0 + a1 + a2 + a3 + a4 + a5) (y := a6) (by omega) (by omega)
  have b7 := own_add (x := a0 + a1 + a2 + a3 + a4 + a5 + a6) (y := a7) (by omega) (by omega)
  have b8 := own_add (x := a0 + a1 + a2 + a3 + a4 + a5 + a6 + a7) (y := a8) (by omega) (by omega)
  have b9 := own_add (x := a0 + a1 + a2 + a3 + a4 + a5 + a6 + a7 + a8) (y := a9) (by omega) (by omega)
  omega
theorem own_size {ss : List Int64} {x7 : Int64} (hS : own_SS 9 ss) (h7 : 0 ≤ x7.toInt) : ((own_Qn x7 ss 9).length : Int) = (aliF (ss.getD 9 0) (ss.getD 0 0) x7).toInt + (aliF (ss.getD 9 0) (ss.getD 1 0) x7).toInt + (aliF (ss.getD 9 0) (ss.getD 2 0) x7).toInt + (aliF (ss.getD 9 0) (ss.getD 3 0) x7).toInt + (aliF (ss.getD 9 0) (ss.getD 4 0) x7).toInt + (aliF (ss.getD 9 0) (ss.getD 5 0) x7).toInt + (aliF (ss.getD 9 0) (ss.getD 6 0) x7).toInt + (aliF (ss.getD 9 0) (ss.getD 7 0) x7).toInt + (aliF (ss.getD 9 0) (ss.getD 8 0) x7).toInt + (aliF (ss.getD 9 0) (ss.getD 9 0) x7).toInt := by
  rw [own_ex hS 9 (Nat.le_refl _), List.length_map, own_len]
  have t : ∀ j : Nat, j < 9 → (((decide (j = 9) || !decide (x7 < ss.getD 9 0 - ss.getD j 0)).toNat : Nat) : Int) = (aliF (ss.getD 9 0) (ss.getD j 0) x7).toInt := by
    intro j hj
    unfold aliF
    rw [decide_eq_false (by omega : ¬ j = 9), Bool.false_or]
    by_cases c : x7 < ss.getD 9 0 - ss.getD j 0
    · rw [if_pos c, decide_eq_true c]; rfl
    · rw [if_neg c, decide_eq_false c]; rfl
  have t9 : (((decide (9 = 9) || !decide (x7 < ss.getD 9 0 - ss.getD 9 0)).toNat : Nat) : Int) = (aliF (ss.getD 9 0) (ss.getD 9 0) x7).toInt := by
    unfold aliF
    have e : (ss.getD 9 0 - ss.getD 9 0).toInt = 0 := by rw [own_df (by omega) (by omega)]; omega
    rw [if_neg (by rw [Int64.lt_iff_toInt_lt, e]; omega)]
    rfl
  have t0 := t 0 (by decide)
  have t1 := t 1 (by decide)
  have t2 := t 2 (by decide)
  have t3 := t 3 (by decide)
  have t4 := t 4 (by decide)
  have t5 := t 5 (by decide)
  have t6 := t 6 (by decide)
  have t7 := t 7 (by decide)
  have t8 := t 8 (by decide)
  show (((decide (0 = 9) || !decide (x7 < ss.getD 9 0 - ss.getD 0 0)).toNat + (decide (1 = 9) || !decide (x7 < ss.getD 9 0 - ss.getD 1 0)).toNat + (decide (2 = 9) || !decide (x7 < ss.getD 9 0 - ss.getD 2 0)).toNat + (decide (3 = 9) || !decide (x7 < ss.getD 9 0 - ss.getD 3 0)).toNat + (decide (4 = 9) || !decide (x7 < ss.getD 9 0 - ss.getD 4 0)).toNat + (decide (5 = 9) || !decide (x7 < ss.getD 9 0 - ss.getD 5 0)).toNat + (decide (6 = 9) || !decide (x7 < ss.getD 9 0 - ss.getD 6 0)).toNat + (decide (7 = 9) || !decide (x7 < ss.getD 9 0 - ss.getD 7 0)).toNat + (decide (8 = 9) || !decide (x7 < ss.getD 9 0 - ss.getD 8 0)).toNat + (decide (9 = 9) || !decide (x7 < ss.getD 9 0 - ss.getD 9 0)).toNat : Nat) : Int) = _
  omega
theorem own_n13 {ss : List Int64} {x7 : Int64} (hS : own_SS 9 ss) (h7 : 0 ≤ x7.toInt) : ((aliF (ss.getD 9 0) (ss.getD 0 0) x7) + (aliF (ss.getD 9 0) (ss.getD 1 0) x7) + (aliF (ss.getD 9 0) (ss.getD 2 0) x7) + (aliF (ss.getD 9 0) (ss.getD 3 0) x7) + (aliF (ss.getD 9 0) (ss.getD 4 0) x7) + (aliF (ss.getD 9 0) (ss.getD 5 0) x7) + (aliF (ss.getD 9 0) (ss.getD 6 0) x7) + (aliF (ss.getD 9 0) (ss.getD 7 0) x7) + (aliF (ss.getD 9 0) (ss.getD 8 0) x7) + (aliF (ss.getD 9 0) (ss.getD 9 0) x7)).toInt = ((own_Qn x7 ss 9).length : Int) := by
  rw [own_size hS h7]
  exact own_sum (own_ali _ _ _) (own_ali _ _ _) (own_ali _ _ _) (own_ali _ _ _) (own_ali _ _ _) (own_ali _ _ _) (own_ali _ _ _) (own_ali _ _ _) (own_ali _ _ _) (own_ali _ _ _)
theorem own_jk (p : Int32) : 0 ≤ ((p &&& (2147483647 : Int32)) % (10 : Int32)).toInt ∧ ((p &&& (2147483647 : Int32)) % (10 : Int32)).toInt ≤ (9 : Nat) ∧ 0 ≤ (((((p &&& (2147483647 : Int32)) % (10 : Int32)) + (1 : Int32)) + (((p &&& (2147483647 : Int32)) / (10 : Int32)) % (9 : Int32))) % (10 : Int32)).toInt ∧ (((((p &&& (2147483647 : Int32)) % (10 : Int32)) + (1 : Int32)) + (((p &&& (2147483647 : Int32)) / (10 : Int32)) % (9 : Int32))) % (10 : Int32)).toInt ≤ (9 : Nat) ∧ ((p &&& (2147483647 : Int32)) % (10 : Int32)).toInt ≠ (((((p &&& (2147483647 : Int32)) % (10 : Int32)) + (1 : Int32)) + (((p &&& (2147483647 : Int32)) / (10 : Int32)) % (9 : Int32))) % (10 : Int32)).toInt := by
  have h := c_and p 2147483647 (by decide)
  generalize (p &&& (2147483647 : Int32)) = y at *
  have k1 : (1 : Int32).toInt = 1 := rfl
  have k9 : (9 : Int32).toInt = 9 := rfl
  have k10 : (10 : Int32).toInt = 10 := rfl
  have a := own_rem y 10 h.1
  have b := own_div y 10 h.1 (by decide)
  rw [k10] at a b
  have d := own_rem (y / 10) 9 (by omega)
  rw [k9] at d
  have e := own_add (x := y % 10) (y := 1) (by omega) (by omega)
  have f := own_add (x := y % 10 + 1) (y := (y / 10) % 9) (by omega) (by omega)
  have g := own_rem (y % 10 + 1 + (y / 10) % 9) 10 (by omega)
  rw [k10] at g
  omega
theorem own_k9 {x : Int32} (h0 : 0 ≤ x.toInt) (h : x.toInt ≤ (9 : Nat)) : x.toNatClampNeg ≤ 9 := by
  rw [own_cl h0]; omega
theorem own_s9 {x11 : Int64} {ss : List Int64} (h : x11 = ss.getD 9 0) : 0 ≤ x11.toInt - (ss.getD 9 0).toInt ∧ x11.toInt - (ss.getD 9 0).toInt ≤ 6000 := by
  subst h; omega
theorem own_hl9 {NN : Nat} {sl : List Int64} {al : List Int32} {o c : Int32} {q : List (Int64 × Int32)} {t x : Int64} (hA : own_AP NN sl al o c q) (hl : q.length ≤ 9) (h : ¬ (NN = 8 ∧ (own_dr t x q).length = 8)) : (own_dr t x q).length < NN := by
  have := own_dl (now := t) (tmo := x) (q := q)
  have h1 := hA.2.2.1; have h2 := hA.2.2.2.2.2.2.1
  omega
theorem own_hA8 {NN : Nat} {sl : List Int64} {al : List Int32} {o c : Int32} {q : List (Int64 × Int32)} (h : NN = 8) (hA : own_AP NN sl al o c q) : own_AP 8 sl al o c q := h ▸ hA
theorem own_cn {NN : Nat} {sl : List Int64} {al : List Int32} {o c x : Int32} {q : List (Int64 × Int32)} (hA : own_AP NN sl al o c q) (h : x.toInt = (q.length : Int)) : c = x := by
  have := hA.2.2.2.2.2.1
  exact Int32.toInt_inj.mp (by omega)
theorem own_tn {a b : Int} (ha : 0 ≤ a) (hb' : 0 ≤ b) (e : a.toNat = b.toNat) : a = b := by omega
theorem own_B2 {ss : List Int64} {x7 x11 : Int64} {x15 x16 : Int32} (hS : own_SS 9 ss) (h11 : x11 = ss.getD 9 0) (hj : 0 ≤ x15.toInt ∧ x15.toInt ≤ (9 : Nat) ∧ 0 ≤ x16.toInt ∧ x16.toInt ≤ (9 : Nat) ∧ x15.toInt ≠ x16.toInt) : own_an (ss.getD x16.toNatClampNeg 0) (own_dr x11 x7 (own_mk (ss.getD x15.toNatClampNeg 0) (own_dr x11 x7 (own_Qn x7 ss 9)))) = if x7 < x11 - ss.getD x16.toNatClampNeg 0 then 0 else 1 := by
  obtain ⟨j0, j9, k0, k9, ne⟩ := hj
  have a2 := own_A2 (now := x11) (now1 := x11) (tmo := x7) hS (own_s9 h11) (own_s9 h11) (Int.le_refl _) (a := ss.getD x15.toNatClampNeg 0) (e := ss.getD x16.toNatClampNeg 0)
  generalize own_Qn x7 ss 9 = Q at *
  split
  · rename_i h
    apply own_an0
    rw [a2]
    rintro ⟨-, j, g1, g2, g3⟩
    have e := own_uni hS (own_k9 k0 k9) g1 g3
    subst e; exact g2 h
  · rename_i h
    apply own_an1
    rw [a2]
    refine ⟨fun g => ?_, _, own_k9 k0 k9, h, rfl⟩
    have e := own_uni hS (own_k9 k0 k9) (own_k9 j0 j9) g
    rw [own_cl j0, own_cl k0] at e
    exact ne (own_tn j0 k0 e.symm)
theorem pd_4 : parseMethodDescriptor "(JI)J" = some ⟨[.long, .int], some .long⟩ := by decide +kernel
theorem pd_5 : parseMethodDescriptor "(JJJ)I" = some ⟨[.long, .long, .long], some .int⟩ := by decide +kernel
theorem pd_6 : parseMethodDescriptor "()I" = some ⟨[], some .int⟩ := by decide +kernel
theorem pd_7 : parseMethodDescriptor "(JJ)Z" = some ⟨[.long, .long], some .boolean⟩ := by decide +kernel
theorem ef_0 (m : MethodId) (x0 : Int64) (x1 : Int64) (x2 : Int32) (x3 : Int32) (x4 : Int32) : entryFrame m #[(.long x0), (.long x1), (.int x2), (.int x3), (.int x4)] maxLocals = mkF m 0 #[.val (.long x0), .second, .val (.long x1), .second, .val (.int x2), .val (.int x3), .val (.int x4), .unset, .unset, .unset, .unset, .unset, .unset, .unset, .unset, .unset, .unset, .unset, .unset, .unset] [] := by first | (simp [entryFrame, mkF, argsToLocals, Value.category, maxLocals]; done) | rfl
def Q0 (Z : State) (p1 : Int64) (p2 : Int64) (p3 : Int32) (p4 : Int32) (p5 : Int32)  (h0 : Heap) (n0 : Nat) (v : Option Value) (h : Heap) (L : List Loc) : Prop := v = some (.int (1 : Int32)) ∧ Fr n0 L
set_option maxRecDepth 65536 in
set_option maxHeartbeats 40000000 in
theorem rm_0 (l : Launch) (Z : State) (a0 : Array Value) (hw : ∀ d ∈ tables_1, d.before a0 Z = true) (ws : List Jvm.Cond) (p1 : Int64) (p2 : Int64) (p3 : Int32) (p4 : Int32) (p5 : Int32)  (h0 : Heap) (n0 : Nat) (Z0 : n0 ≤ h0.size) :
    MetFree l x (head1 (Jvm.Cond.code x code maxLocals ret :: ws) room_1) (fun A_ U => A_ = #[(.long p1), (.long p2), (.int p3), (.int p4), (.int p5)] ∧ Z.Warmed39 U.vm ∧ U.heap = h0) (fun _ _ _ _ _ => True) (fun _ U o U' => ∃ v L, o = .returned v ∧ Q0 Z p1 p2 p3 p4 p5 h0 n0 v U'.heap L ∧ FrameEnd U o U' L 24 192) := by
  refine MetFree.of_bodySF (plainFor_of_name pn_1) hisR ?_
  intro p e s m args below meth c s₁ Bd hml0 hP hK
  obtain ⟨rfl, hZ, hh⟩ := hP
  have hx := Bd.exec
  have hby := Bd.bytes
  have hml : c.maxLocals = 20 := hml0
  have hown : s.vm.findClass "com/example/talthybius/talthybius/AwaitedPingsSentPinLaw" = some m.cls := findClass_of_methodNamed Bd.named
  have hnm := (name_of_methodNamed Bd.named Bd.method).1
  have X0 : Stand p l e room_1 s m #[(.long p1), (.long p2), (.int p3), (.int p4), (.int p5)] below meth c s₁ [] 0 0 := Stand.of_body Bd
  have e0 : s₁.heap = h0 := by rw [← hh, Bd.state]; rfl
  have N0 := Fr.nil n0
  suffices HGO : Go p e below s (Q0 Z p1 p2 p3 p4 p5 h0 n0) 24 192 s₁ (mkF m 0 #[.val (.long p1), .second, .val (.long p2), .second, .val (.int p3), .val (.int p4), .val (.int p5), .unset, .unset, .unset, .unset, .unset, .unset, .unset, .unset, .unset, .unset, .unset, .unset, .unset] []) from Go.cast (ef_0 m p1 p2 p3 p4 p5) HGO
  have S434 : ∀ (T : State) (locs : List Loc) (cells slots : Nat) (X : Stand p l e room_1 s m #[(.long p1), (.long p2), (.int p3), (.int p4), (.int p5)] below meth c T locs cells slots) (hcl : cells ≤ 8) (hsl : slots ≤ 95) (h : Heap) (eT : T.heap = h) (N : Fr n0 locs) (x7 : Int64) (x11 : Int64) (x13 : Int32) (x14 : Int32) (x15 : Int32) (x16 : Int32)  (b1 : Addr) (b50 : Addr) (s2_102 : Addr) (a2_102 : Addr) (ss : List Int64) (c1 : Int32) (o1 : Int32) (sl : List Int64) (al : List Int32) (NN : Nat) (K : Keep h0 h []) (fc0 : VA Z h b1 .long (ss.map Value.long)) (fc1 : Exa Z h b50 "com/example/talthybius/talthybius/AwaitedPings") (fc2 : Fld Z h b50 "com/example/talthybius/talthybius/AwaitedPings" "sentAt" "[J" (.ref s2_102)) (fc3 : Fld Z h b50 "com/example/talthybius/talthybius/AwaitedPings" "answered" "[Z" (.ref a2_102)) (fc4 : Fld Z h b50 "com/example/talthybius/talthybius/AwaitedPings" "timeoutNanos" "J" (.long x7)) (fc5 : Fld Z h b50 "com/example/talthybius/talthybius/AwaitedPings" "count" "I" (.int c1)) (fc6 : Fld Z h b50 "com/example/talthybius/talthybius/AwaitedPings" "oldest" "I" (.int o1)) (fc7 : VA Z h s2_102 .long (sl.map Value.long)) (fc8 : VA Z h a2_102 .boolean (al.map Value.int)) (g_b1 : n0 ≤ b1) (g_b50 : n0 ≤ b50) (g_s2_102 : n0 ≤ s2_102) (g_a2_102 : n0 ≤ a2_102) (sz_b1 : h0.size ≤ b1) (sz_b50 : h0.size ≤ b50) (sz_s2_102 : h0.size ≤ s2_102) (sz_a2_102 : h0.size ≤ a2_102) (ne_b1_b50 : b1 ≠ b50) (ne_b1_s2_102 : b1 ≠ s2_102) (ne_b50_s2_102 : b50 ≠ s2_102) (ne_b1_a2_102 : b1 ≠ a2_102) (ne_b50_a2_102 : b50 ≠ a2_102) (ne_s2_102_a2_102 : s2_102 ≠ a2_102) (hA : own_AP NN sl al o1 c1 (own_Qn x7 ss 9)) (hS : own_SS 9 ss) (h7 : 0 ≤ x7.toInt) (h11 : x11 = ss.getD 9 0) (h13 : x13.toInt = ((own_Qn x7 ss 9).length : Int)) (hjk : 0 ≤ x15.toInt ∧ x15.toInt ≤ (9 : Nat) ∧ 0 ≤ x16.toInt ∧ x16.toInt ≤ (9 : Nat) ∧ x15.toInt ≠ x16.toInt), Go p e below s (Q0 Z p1 p2 p3 p4 p5 h0 n0) 24 192 T (mkF m 434 #[.val (.long p1), .second, .val (.long p2), .second, .val (.int p3), .val (.int p4), .val (.int p5), .val (.long x7), .second, .val (.ref b1), .val (.ref b50), .val (.long x11), .second, .val (.int x13), .val (.int x14), .val (.int x15), .val (.int x16), .unset, .unset, .unset] []) := by
    intro T locs cells slots X hcl hsl h eT N x7 x11 x13 x14 x15 x16 b1 b50 s2_102 a2_102 ss c1 o1 sl al NN K fc0 fc1 fc2 fc3 fc4 fc5 fc6 fc7 fc8 g_b1 g_b50 g_s2_102 g_a2_102 sz_b1 sz_b50 sz_s2_102 sz_a2_102 ne_b1_b50 ne_b1_s2_102 ne_b50_s2_102 ne_b1_a2_102 ne_b50_a2_102 ne_s2_102_a2_102 hA hS h7 h11 h13 hjk
    have Zh : n0 ≤ h.size := Nat.le_trans Z0 K.1
    obtain ⟨cq1, kq1, q1a, q1b, q1c⟩ := isOf hZ eT (fc1 : Exa Z h b50 "com/example/talthybius/talthybius/AwaitedPings")
    obtain ⟨_, _, ⟨T1, L1, k1, n1⟩, -, X1, ⟨Lc1, hQ1, l1, y1, z1⟩, st1⟩ := X.virtualBack hx (y := (⟨"com/example/talthybius/talthybius/AwaitedPings", "size", "()I"⟩ : MethodName)) (z := (⟨"com/example/talthybius/talthybius/AwaitedPings", "size", "()I"⟩ : MethodName)) hown (mvT hZ (hw _ (List.mem_of_getElem? (i := 45) rfl))) (mvT hZ (hw _ (List.mem_of_getElem? (i := 46) rfl))) (notFace_of_selects (args := #[]) (mvT hZ (hw _ (List.mem_of_getElem? (i := 48) rfl)))) (mvT hZ (hw _ (List.mem_of_getElem? (i := 48) rfl))) (mvT hZ (hw _ (List.mem_of_getElem? (i := 47) rfl))) (by decide) (backOf (W := 0) (rm_sizF l Z a0 hw [] b50 c1 h n0 Zh fc5 ) hZ (hw _ (List.mem_of_getElem? (i := 49) rfl)) (hw _ (List.mem_of_getElem? (i := 10) rfl)) (by decide) (by decide)) q1a q1c (g := (mkF m 436 #[.val (.long p1), .second, .val (.long p2), .second, .val (.int p3), .val (.int p4), .val (.int p5), .val (.long x7), .second, .val (.ref b1), .val (.ref b50), .val (.long x11), .second, .val (.int x13), .val (.int x14), .val (.int x15), .val (.int x16), .unset, .unset, .unset] [(.ref b50)])) rfl (by rw [hml]; rfl) (Steps.refl _) (argsL := []) (rest := []) (lenOf pd_6 rfl) rfl (by show 2 * 0 + _ ≤ _; exact Nat.le_of_eq rfl) (hb hby at_436) (fun _ _ => ⟨rfl, eT, (Nat.le_trans (Nat.add_le_add_right hcl 0) (by decide)), (Nat.le_trans (Nat.add_le_add_right hsl 0) (by decide))⟩)
    dsimp only [Pt.U, Pt.locs, Pt.cells, Pt.slots] at X1 l1 y1 z1 st1 hQ1
    subst l1 y1 z1
    obtain ⟨rfl, N1q, e1⟩ := hQ1
    have N1 := Fr.app N N1q
    refine Go.step (T' := T1) (f' := (mkF m 441 #[.val (.long p1), .second, .val (.long p2), .second, .val (.int p3), .val (.int p4), .val (.int p5), .val (.long x7), .second, .val (.ref b1), .val (.ref b50), .val (.long x11), .second, .val (.int x13), .val (.int x14), .val (.int x15), .val (.int x16), .unset, .unset, .unset] [(.int x13), (.int c1)])) (fun t kt => ?_) ?_
    · show Steps p.tables e below (T.setTop (mkF m 434 #[.val (.long p1), .second, .val (.long p2), .second, .val (.int p3), .val (.int p4), .val (.int p5), .val (.long x7), .second, .val (.ref b1), .val (.ref b50), .val (.long x11), .second, .val (.int x13), .val (.int x14), .val (.int x15), .val (.int x16), .unset, .unset, .unset] [])) _
      refine XS.aload X.here hx rfl (hb hby at_434) rfl rfl ?_
      show Steps p.tables e below (T.setTop (mkF m 436 #[.val (.long p1), .second, .val (.long p2), .second, .val (.int p3), .val (.int p4), .val (.int p5), .val (.long x7), .second, .val (.ref b1), .val (.ref b50), .val (.long x11), .second, .val (.int x13), .val (.int x14), .val (.int x15), .val (.int x16), .unset, .unset, .unset] [(.ref b50)])) _
      refine st1.trans ?_
      show Steps p.tables e below (T1.setTop (mkF m 439 #[.val (.long p1), .second, .val (.long p2), .second, .val (.int p3), .val (.int p4), .val (.int p5), .val (.long x7), .second, .val (.ref b1), .val (.ref b50), .val (.long x11), .second, .val (.int x13), .val (.int x14), .val (.int x15), .val (.int x16), .unset, .unset, .unset] [(.int c1)])) _
      refine XS.iload X1.here hx rfl (hb hby at_439) rfl ?_
      exact kt
    have hd2 : c1 = x13 := own_cn hA h13
    have ix3 : 0 ≤ (x15).toInt ∧ (x15).toInt < ((ss).length : Int) := own_ixl hS ⟨hjk.1, hjk.2.1⟩
    obtain ⟨cq4, kq4, q4a, q4b, q4c⟩ := isOf hZ e1 (fc1 : Exa Z h b50 "com/example/talthybius/talthybius/AwaitedPings")
    obtain ⟨_, _, ⟨T4, L4, k4, n4⟩, -, X4, ⟨Lc4, hQ4, l4, y4, z4⟩, st4⟩ := X1.virtualBack hx (y := (⟨"com/example/talthybius/talthybius/AwaitedPings", "answer", "(JJ)Z"⟩ : MethodName)) (z := (⟨"com/example/talthybius/talthybius/AwaitedPings", "answer", "(JJ)Z"⟩ : MethodName)) hown (mvT hZ (hw _ (List.mem_of_getElem? (i := 50) rfl))) (mvT hZ (hw _ (List.mem_of_getElem? (i := 51) rfl))) (notFace_of_selects (args := #[]) (mvT hZ (hw _ (List.mem_of_getElem? (i := 53) rfl)))) (mvT hZ (hw _ (List.mem_of_getElem? (i := 53) rfl))) (mvT hZ (hw _ (List.mem_of_getElem? (i := 52) rfl))) (by decide) (backOf (W := 0) (rm_ansA l Z a0 hw [] b50 (ss.getD x15.toNatClampNeg (0 : Int64)) x11 s2_102 a2_102 x7 o1 c1 sl al NN (own_Qn x7 ss 9) h n0 Zh fc1 fc4 fc2 fc3 fc6 fc5 fc7 fc8 g_b50 g_a2_102 ne_b50_s2_102 ne_b50_a2_102 ne_s2_102_a2_102 hA (own_srt_of (own_pw hS (Nat.le_refl _)))) hZ (hw _ (List.mem_of_getElem? (i := 54) rfl)) (hw _ (List.mem_of_getElem? (i := 10) rfl)) (by decide) (by decide)) q4a q4c (g := (mkF m 460 #[.val (.long p1), .second, .val (.long p2), .second, .val (.int p3), .val (.int p4), .val (.int p5), .val (.long x7), .second, .val (.ref b1), .val (.ref b50), .val (.long x11), .second, .val (.int x13), .val (.int x14), .val (.int x15), .val (.int x16), .val (.int (1 : Int32)), .unset, .unset] [(.long x11), (.long (ss.getD x15.toNatClampNeg (0 : Int64))), (.ref b50)])) rfl (by rw [hml]; rfl) (Steps.refl _) (argsL := [(.long (ss.getD x15.toNatClampNeg (0 : Int64))), (.long x11)]) (rest := []) (lenOf pd_7 rfl) rfl (by show 2 * 0 + _ ≤ _; exact Nat.le_of_eq rfl) (hb hby at_460) (fun _ _ => ⟨rfl, e1, (Nat.le_trans (Nat.add_le_add_right (Nat.add_le_add_right hcl 0) 0) (by decide)), (Nat.le_trans (Nat.add_le_add_right (Nat.add_le_add_right hsl 0) 0) (by decide))⟩)
    dsimp only [Pt.U, Pt.locs, Pt.cells, Pt.slots] at X4 l4 y4 z4 st4 hQ4
    subst l4 y4 z4
    obtain ⟨o1_4, c1_4, al1_4, b_4, rfl, N4q, Kq4, pf4_0, pf4_1, pf4_2, pf4_3, pf4_4, pf4_5, ph4_0⟩ := hQ4
    have G5 : VA Z T4.heap b1 .long (ss.map Value.long) := fc0.keep Kq4 (ninS ne_b1_b50 (ninS ne_b1_a2_102 nin0))
    have G6 : Exa Z T4.heap b50 "com/example/talthybius/talthybius/AwaitedPings" := Exa.keep fc1 Kq4
    have G7 : VA Z T4.heap s2_102 .long (sl.map Value.long) := fc7.keep Kq4 (ninS (Ne.symm ne_b50_s2_102) (ninS ne_s2_102_a2_102 nin0))
    have K4 : Keep h0 T4.heap [] := Keep.trans K Kq4 (allS (Or.inr sz_b50) (allS (Or.inr sz_a2_102) all0))
    have Z4 : n0 ≤ T4.heap.size := Nat.le_trans Z0 K4.1
    have N4 := Fr.app N1 N4q
    have hR := ph4_0
    have hb1 : b_4 = if x7 < x11 - ss.getD x15.toNatClampNeg 0 then (0 : Int32) else 1 := hR.2.trans (own_A1 (now := x11) (tmo := x7) hS (own_s9 h11) (own_k9 hjk.1 hjk.2.1))
    have ix8 : 0 ≤ (x16).toInt ∧ (x16).toInt < ((ss).length : Int) := own_ixl hS ⟨hjk.2.2.1, hjk.2.2.2.1⟩
    obtain ⟨cq9, kq9, q9a, q9b, q9c⟩ := isOf hZ rfl (G6 : Exa Z T4.heap b50 "com/example/talthybius/talthybius/AwaitedPings")
    obtain ⟨_, _, ⟨T9, L9, k9, n9⟩, -, X9, ⟨Lc9, hQ9, l9, y9, z9⟩, st9⟩ := X4.virtualBack hx (y := (⟨"com/example/talthybius/talthybius/AwaitedPings", "answer", "(JJ)Z"⟩ : MethodName)) (z := (⟨"com/example/talthybius/talthybius/AwaitedPings", "answer", "(JJ)Z"⟩ : MethodName)) hown (mvT hZ (hw _ (List.mem_of_getElem? (i := 50) rfl))) (mvT hZ (hw _ (List.mem_of_getElem? (i := 51) rfl))) (notFace_of_selects (args := #[]) (mvT hZ (hw _ (List.mem_of_getElem? (i := 53) rfl)))) (mvT hZ (hw _ (List.mem_of_getElem? (i := 53) rfl))) (mvT hZ (hw _ (List.mem_of_getElem? (i := 52) rfl))) (by decide) (backOf (W := 0) (rm_ansA l Z a0 hw [] b50 (ss.getD x16.toNatClampNeg (0 : Int64)) x11 s2_102 a2_102 x7 o1_4 c1_4 sl al1_4 NN (own_mk (ss.getD x15.toNatClampNeg 0) (own_dr x11 x7 (own_Qn x7 ss 9))) T4.heap n0 Z4 G6 pf4_0 pf4_1 pf4_2 pf4_3 pf4_4 G7 pf4_5 g_b50 g_a2_102 ne_b50_s2_102 ne_b50_a2_102 ne_s2_102_a2_102 hR.1 (own_srt_of (own_mkp (own_dpw (own_pw hS (Nat.le_refl _)))))) hZ (hw _ (List.mem_of_getElem? (i := 54) rfl)) (hw _ (List.mem_of_getElem? (i := 10) rfl)) (by decide) (by decide)) q9a q9c (g := (mkF m 474 #[.val (.long p1), .second, .val (.long p2), .second, .val (.int p3), .val (.int p4), .val (.int p5), .val (.long x7), .second, .val (.ref b1), .val (.ref b50), .val (.long x11), .second, .val (.int x13), .val (.int x14), .val (.int x15), .val (.int x16), .val (.int (1 : Int32)), .val (.int b_4), .unset] [(.long x11), (.long (ss.getD x16.toNatClampNeg (0 : Int64))), (.ref b50)])) rfl (by rw [hml]; rfl) (Steps.refl _) (argsL := [(.long (ss.getD x16.toNatClampNeg (0 : Int64))), (.long x11)]) (rest := []) (lenOf pd_7 rfl) rfl (by show 2 * 0 + _ ≤ _; exact Nat.le_of_eq rfl) (hb hby at_474) (fun _ _ => ⟨rfl, rfl, (Nat.le_trans (Nat.add_le_add_right (Nat.add_le_add_right (Nat.add_le_add_right hcl 0) 0) 0) (by decide)), (Nat.le_trans (Nat.add_le_add_right (Nat.add_le_add_right (Nat.add_le_add_right hsl 0) 0) 0) (by decide))⟩)
    dsimp only [Pt.U, Pt.locs, Pt.cells, Pt.slots] at X9 l9 y9 z9 st9 hQ9
    subst l9 y9 z9
    obtain ⟨o1_9, c1_9, al1_9, b_9, rfl, N9q, Kq9, pf9_0, pf9_1, pf9_2, pf9_3, pf9_4, pf9_5, ph9_0⟩ := hQ9
    have G10 : VA Z T9.heap b1 .long (ss.map Value.long) := G5.keep Kq9 (ninS ne_b1_b50 (ninS ne_b1_a2_102 nin0))
    have G11 : Exa Z T9.heap b50 "com/example/talthybius/talthybius/AwaitedPings" := Exa.keep G6 Kq9
    have G12 : VA Z T9.heap s2_102 .long (sl.map Value.long) := G7.keep Kq9 (ninS (Ne.symm ne_b50_s2_102) (ninS ne_s2_102_a2_102 nin0))
    have K9 : Keep h0 T9.heap [] := Keep.trans K4 Kq9 (allS (Or.inr sz_b50) (allS (Or.inr sz_a2_102) all0))
    have Z9 : n0 ≤ T9.heap.size := Nat.le_trans Z0 K9.1
    have N9 := Fr.app N4 N9q
    have hb2 : b_9 = if x7 < x11 - ss.getD x16.toNatClampNeg 0 then (0 : Int32) else 1 := ph9_0.2.trans (own_B2 hS h11 hjk)
    have ix13 : 0 ≤ (x15).toInt ∧ (x15).toInt < ((ss).length : Int) := own_ixl hS ⟨hjk.1, hjk.2.1⟩
    refine Go.step (T' := T9) (f' := (mkF m 497 #[.val (.long p1), .second, .val (.long p2), .second, .val (.int p3), .val (.int p4), .val (.int p5), .val (.long x7), .second, .val (.ref b1), .val (.ref b50), .val (.long x11), .second, .val (.int x13), .val (.int x14), .val (.int x15), .val (.int x16), .val (.int (1 : Int32)), .val (.int b_4), .val (.int b_9)] [(.int (lcmpW (x11 - (ss.getD x15.toNatClampNeg (0 : Int64))) x7)), (.int b_4)])) (fun t kt => ?_) ?_
    · show Steps p.tables e below (T1.setTop (mkF m 441 #[.val (.long p1), .second, .val (.long p2), .second, .val (.int p3), .val (.int p4), .val (.int p5), .val (.long x7), .second, .val (.ref b1), .val (.ref b50), .val (.long x11), .second, .val (.int x13), .val (.int x14), .val (.int x15), .val (.int x16), .unset, .unset, .unset] [(.int x13), (.int c1)])) _
      refine XS.icmpNo X1.here hx rfl (hb hby at_441) rfl (teq hd2).2 ?_
      show Steps p.tables e below (T1.setTop (mkF m 444 #[.val (.long p1), .second, .val (.long p2), .second, .val (.int p3), .val (.int p4), .val (.int p5), .val (.long x7), .second, .val (.ref b1), .val (.ref b50), .val (.long x11), .second, .val (.int x13), .val (.int x14), .val (.int x15), .val (.int x16), .unset, .unset, .unset] [])) _
      refine XS.iconst X1.here hx rfl (hb hby at_444) ?_
      show Steps p.tables e below (T1.setTop (mkF m 445 #[.val (.long p1), .second, .val (.long p2), .second, .val (.int p3), .val (.int p4), .val (.int p5), .val (.long x7), .second, .val (.ref b1), .val (.ref b50), .val (.long x11), .second, .val (.int x13), .val (.int x14), .val (.int x15), .val (.int x16), .unset, .unset, .unset] [(.int (1 : Int32))])) _
      refine XS.goto X1.here hx rfl (pc0 := 445) (pc' := 449) rfl (hb hby at_445) (by decide) (by decide) ?_
      show Steps p.tables e below (T1.setTop (mkF m 449 #[.val (.long p1), .second, .val (.long p2), .second, .val (.int p3), .val (.int p4), .val (.int p5), .val (.long x7), .second, .val (.ref b1), .val (.ref b50), .val (.long x11), .second, .val (.int x13), .val (.int x14), .val (.int x15), .val (.int x16), .unset, .unset, .unset] [(.int (1 : Int32))])) _
      refine XS.istore X1.here hx rfl (hb hby at_449) rfl (l' := #[.val (.long p1), .second, .val (.long p2), .second, .val (.int p3), .val (.int p4), .val (.int p5), .val (.long x7), .second, .val (.ref b1), .val (.ref b50), .val (.long x11), .second, .val (.int x13), .val (.int x14), .val (.int x15), .val (.int x16), .val (.int (1 : Int32)), .unset, .unset]) rfl ?_
      show Steps p.tables e below (T1.setTop (mkF m 451 #[.val (.long p1), .second, .val (.long p2), .second, .val (.int p3), .val (.int p4), .val (.int p5), .val (.long x7), .second, .val (.ref b1), .val (.ref b50), .val (.long x11), .second, .val (.int x13), .val (.int x14), .val (.int x15), .val (.int x16), .val (.int (1 : Int32)), .unset, .unset] [])) _
      refine XS.aload X1.here hx rfl (hb hby at_451) rfl rfl ?_
      show Steps p.tables e below (T1.setTop (mkF m 453 #[.val (.long p1), .second, .val (.long p2), .second, .val (.int p3), .val (.int p4), .val (.int p5), .val (.long x7), .second, .val (.ref b1), .val (.ref b50), .val (.long x11), .second, .val (.int x13), .val (.int x14), .val (.int x15), .val (.int x16), .val (.int (1 : Int32)), .unset, .unset] [(.ref b50)])) _
      refine XS.aload X1.here hx rfl (hb hby at_453) rfl rfl ?_
      show Steps p.tables e below (T1.setTop (mkF m 455 #[.val (.long p1), .second, .val (.long p2), .second, .val (.int p3), .val (.int p4), .val (.int p5), .val (.long x7), .second, .val (.ref b1), .val (.ref b50), .val (.long x11), .second, .val (.int x13), .val (.int x14), .val (.int x15), .val (.int x16), .val (.int (1 : Int32)), .unset, .unset] [(.ref b1), (.ref b50)])) _
      refine XS.iload X1.here hx rfl (hb hby at_455) rfl ?_
      show Steps p.tables e below (T1.setTop (mkF m 457 #[.val (.long p1), .second, .val (.long p2), .second, .val (.int p3), .val (.int p4), .val (.int p5), .val (.long x7), .second, .val (.ref b1), .val (.ref b50), .val (.long x11), .second, .val (.int x13), .val (.int x14), .val (.int x15), .val (.int x16), .val (.int (1 : Int32)), .unset, .unset] [(.int x15), (.ref b1), (.ref b50)])) _
      refine ldJ X1 hx hZ e1 fc0 ix3.1 ix3.2 (g := (mkF m 457 #[.val (.long p1), .second, .val (.long p2), .second, .val (.int p3), .val (.int p4), .val (.int p5), .val (.long x7), .second, .val (.ref b1), .val (.ref b50), .val (.long x11), .second, .val (.int x13), .val (.int x14), .val (.int x15), .val (.int x16), .val (.int (1 : Int32)), .unset, .unset] [(.int x15), (.ref b1), (.ref b50)])) rfl rfl (hb hby at_457) _ ?_
      show Steps p.tables e below (T1.setTop (mkF m 458 #[.val (.long p1), .second, .val (.long p2), .second, .val (.int p3), .val (.int p4), .val (.int p5), .val (.long x7), .second, .val (.ref b1), .val (.ref b50), .val (.long x11), .second, .val (.int x13), .val (.int x14), .val (.int x15), .val (.int x16), .val (.int (1 : Int32)), .unset, .unset] [(.long (ss.getD x15.toNatClampNeg (0 : Int64))), (.ref b50)])) _
      refine XS.lload X1.here hx rfl (hb hby at_458) rfl ?_
      show Steps p.tables e below (T1.setTop (mkF m 460 #[.val (.long p1), .second, .val (.long p2), .second, .val (.int p3), .val (.int p4), .val (.int p5), .val (.long x7), .second, .val (.ref b1), .val (.ref b50), .val (.long x11), .second, .val (.int x13), .val (.int x14), .val (.int x15), .val (.int x16), .val (.int (1 : Int32)), .unset, .unset] [(.long x11), (.long (ss.getD x15.toNatClampNeg (0 : Int64))), (.ref b50)])) _
      refine st4.trans ?_
      show Steps p.tables e below (T4.setTop (mkF m 463 #[.val (.long p1), .second, .val (.long p2), .second, .val (.int p3), .val (.int p4), .val (.int p5), .val (.long x7), .second, .val (.ref b1), .val (.ref b50), .val (.long x11), .second, .val (.int x13), .val (.int x14), .val (.int x15), .val (.int x16), .val (.int (1 : Int32)), .unset, .unset] [(.int b_4)])) _
      refine XS.istore X4.here hx rfl (hb hby at_463) rfl (l' := #[.val (.long p1), .second, .val (.long p2), .second, .val (.int p3), .val (.int p4), .val (.int p5), .val (.long x7), .second, .val (.ref b1), .val (.ref b50), .val (.long x11), .second, .val (.int x13), .val (.int x14), .val (.int x15), .val (.int x16), .val (.int (1 : Int32)), .val (.int b_4), .unset]) rfl ?_
      show Steps p.tables e below (T4.setTop (mkF m 465 #[.val (.long p1), .second, .val (.long p2), .second, .val (.int p3), .val (.int p4), .val (.int p5), .val (.long x7), .second, .val (.ref b1), .val (.ref b50), .val (.long x11), .second, .val (.int x13), .val (.int x14), .val (.int x15), .val (.int x16), .val (.int (1 : Int32)), .val (.int b_4), .unset] [])) _
      refine XS.aload X4.here hx rfl (hb hby at_465) rfl rfl ?_
      show Steps p.tables e below (T4.setTop (mkF m 467 #[.val (.long p1), .second, .val (.long p2), .second, .val (.int p3), .val (.int p4), .val (.int p5), .val (.long x7), .second, .val (.ref b1), .val (.ref b50), .val (.long x11), .second, .val (.int x13), .val (.int x14), .val (.int x15), .val (.int x16), .val (.int (1 : Int32)), .val (.int b_4), .unset] [(.ref b50)])) _
      refine XS.aload X4.here hx rfl (hb hby at_467) rfl rfl ?_
      show Steps p.tables e below (T4.setTop (mkF m 469 #[.val (.long p1), .second, .val (.long p2), .second, .val (.int p3), .val (.int p4), .val (.int p5), .val (.long x7), .second, .val (.ref b1), .val (.ref b50), .val (.long x11), .second, .val (.int x13), .val (.int x14), .val (.int x15), .val (.int x16), .val (.int (1 : Int32)), .val (.int b_4), .unset] [(.ref b1), (.ref b50)])) _
      refine XS.iload X4.here hx rfl (hb hby at_469) rfl ?_
      show Steps p.tables e below (T4.setTop (mkF m 471 #[.val (.long p1), .second, .val (.long p2), .second, .val (.int p3), .val (.int p4), .val (.int p5), .val (.long x7), .second, .val (.ref b1), .val (.ref b50), .val (.long x11), .second, .val (.int x13), .val (.int x14), .val (.int x15), .val (.int x16), .val (.int (1 : Int32)), .val (.int b_4), .unset] [(.int x16), (.ref b1), (.ref b50)])) _
      refine ldJ X4 hx hZ rfl G5 ix8.1 ix8.2 (g := (mkF m 471 #[.val (.long p1), .second, .val (.long p2), .second, .val (.int p3), .val (.int p4), .val (.int p5), .val (.long x7), .second, .val (.ref b1), .val (.ref b50), .val (.long x11), .second, .val (.int x13), .val (.int x14), .val (.int x15), .val (.int x16), .val (.int (1 : Int32)), .val (.int b_4), .unset] [(.int x16), (.ref b1), (.ref b50)])) rfl rfl (hb hby at_471) _ ?_
      show Steps p.tables e below (T4.setTop (mkF m 472 #[.val (.long p1), .second, .val (.long p2), .second, .val (.int p3), .val (.int p4), .val (.int p5), .val (.long x7), .second, .val (.ref b1), .val (.ref b50), .val (.long x11), .second, .val (.int x13), .val (.int x14), .val (.int x15), .val (.int x16), .val (.int (1 : Int32)), .val (.int b_4), .unset] [(.long (ss.getD x16.toNatClampNeg (0 : Int64))), (.ref b50)])) _
      refine XS.lload X4.here hx rfl (hb hby at_472) rfl ?_
      show Steps p.tables e below (T4.setTop (mkF m 474 #[.val (.long p1), .second, .val (.long p2), .second, .val (.int p3), .val (.int p4), .val (.int p5), .val (.long x7), .second, .val (.ref b1), .val (.ref b50), .val (.long x11), .second, .val (.int x13), .val (.int x14), .val (.int x15), .val (.int x16), .val (.int (1 : Int32)), .val (.int b_4), .unset] [(.long x11), (.long (ss.getD x16.toNatClampNeg (0 : Int64))), (.ref b50)])) _
      refine st9.trans ?_
      show Steps p.tables e below (T9.setTop (mkF m 477 #[.val (.long p1), .second, .val (.long p2), .second, .val (.int p3), .val (.int p4), .val (.int p5), .val (.long x7), .second, .val (.ref b1), .val (.ref b50), .val (.long x11), .second, .val (.int x13), .val (.int x14), .val (.int x15), .val (.int x16), .val (.int (1 : Int32)), .val (.int b_4), .unset] [(.int b_9)])) _
      refine XS.istore X9.here hx rfl (hb hby at_477) rfl (l' := #[.val (.long p1), .second, .val (.long p2), .second, .val (.int p3), .val (.int p4), .val (.int p5), .val (.long x7), .second, .val (.ref b1), .val (.ref b50), .val (.long x11), .second, .val (.int x13), .val (.int x14), .val (.int x15), .val (.int x16), .val (.int (1 : Int32)), .val (.int b_4), .val (.int b_9)]) rfl ?_
      show Steps p.tables e below (T9.setTop (mkF m 479 #[.val (.long p1), .second, .val (.long p2), .second, .val (.int p3), .val (.int p4), .val (.int p5), .val (.long x7), .second, .val (.ref b1), .val (.ref b50), .val (.long x11), .second, .val (.int x13), .val (.int x14), .val (.int x15), .val (.int x16), .val (.int (1 : Int32)), .val (.int b_4), .val (.int b_9)] [])) _
      refine XS.iload X9.here hx rfl (hb hby at_479) rfl ?_
      show Steps p.tables e below (T9.setTop (mkF m 481 #[.val (.long p1), .second, .val (.long p2), .second, .val (.int p3), .val (.int p4), .val (.int p5), .val (.long x7), .second, .val (.ref b1), .val (.ref b50), .val (.long x11), .second, .val (.int x13), .val (.int x14), .val (.int x15), .val (.int x16), .val (.int (1 : Int32)), .val (.int b_4), .val (.int b_9)] [(.int (1 : Int32))])) _
      refine XS.ifNo X9.here hx rfl (hb hby at_481) rfl ((if0 _ _).trans (feq (by decide : ¬ ((1 : Int32) = (0 : Int32)))).1) ?_
      show Steps p.tables e below (T9.setTop (mkF m 484 #[.val (.long p1), .second, .val (.long p2), .second, .val (.int p3), .val (.int p4), .val (.int p5), .val (.long x7), .second, .val (.ref b1), .val (.ref b50), .val (.long x11), .second, .val (.int x13), .val (.int x14), .val (.int x15), .val (.int x16), .val (.int (1 : Int32)), .val (.int b_4), .val (.int b_9)] [])) _
      refine XS.iload X9.here hx rfl (hb hby at_484) rfl ?_
      show Steps p.tables e below (T9.setTop (mkF m 486 #[.val (.long p1), .second, .val (.long p2), .second, .val (.int p3), .val (.int p4), .val (.int p5), .val (.long x7), .second, .val (.ref b1), .val (.ref b50), .val (.long x11), .second, .val (.int x13), .val (.int x14), .val (.int x15), .val (.int x16), .val (.int (1 : Int32)), .val (.int b_4), .val (.int b_9)] [(.int b_4)])) _
      refine XS.lload X9.here hx rfl (hb hby at_486) rfl ?_
      show Steps p.tables e below (T9.setTop (mkF m 488 #[.val (.long p1), .second, .val (.long p2), .second, .val (.int p3), .val (.int p4), .val (.int p5), .val (.long x7), .second, .val (.ref b1), .val (.ref b50), .val (.long x11), .second, .val (.int x13), .val (.int x14), .val (.int x15), .val (.int x16), .val (.int (1 : Int32)), .val (.int b_4), .val (.int b_9)] [(.long x11), (.int b_4)])) _
      refine XS.aload X9.here hx rfl (hb hby at_488) rfl rfl ?_
      show Steps p.tables e below (T9.setTop (mkF m 490 #[.val (.long p1), .second, .val (.long p2), .second, .val (.int p3), .val (.int p4), .val (.int p5), .val (.long x7), .second, .val (.ref b1), .val (.ref b50), .val (.long x11), .second, .val (.int x13), .val (.int x14), .val (.int x15), .val (.int x16), .val (.int (1 : Int32)), .val (.int b_4), .val (.int b_9)] [(.ref b1), (.long x11), (.int b_4)])) _
      refine XS.iload X9.here hx rfl (hb hby at_490) rfl ?_
      show Steps p.tables e below (T9.setTop (mkF m 492 #[.val (.long p1), .second, .val (.long p2), .second, .val (.int p3), .val (.int p4), .val (.int p5), .val (.long x7), .second, .val (.ref b1), .val (.ref b50), .val (.long x11), .second, .val (.int x13), .val (.int x14), .val (.int x15), .val (.int x16), .val (.int (1 : Int32)), .val (.int b_4), .val (.int b_9)] [(.int x15), (.ref b1), (.long x11), (.int b_4)])) _
      refine ldJ X9 hx hZ rfl G10 ix13.1 ix13.2 (g := (mkF m 492 #[.val (.long p1), .second, .val (.long p2), .second, .val (.int p3), .val (.int p4), .val (.int p5), .val (.long x7), .second, .val (.ref b1), .val (.ref b50), .val (.long x11), .second, .val (.int x13), .val (.int x14), .val (.int x15), .val (.int x16), .val (.int (1 : Int32)), .val (.int b_4), .val (.int b_9)] [(.int x15), (.ref b1), (.long x11), (.int b_4)])) rfl rfl (hb hby at_492) _ ?_
      show Steps p.tables e below (T9.setTop (mkF m 493 #[.val (.long p1), .second, .val (.long p2), .second, .val (.int p3), .val (.int p4), .val (.int p5), .val (.long x7), .second, .val (.ref b1), .val (.ref b50), .val (.long x11), .second, .val (.int x13), .val (.int x14), .val (.int x15), .val (.int x16), .val (.int (1 : Int32)), .val (.int b_4), .val (.int b_9)] [(.long (ss.getD x15.toNatClampNeg (0 : Int64))), (.long x11), (.int b_4)])) _
      refine XS.lsub X9.here hx rfl (hb hby at_493) rfl ?_
      show Steps p.tables e below (T9.setTop (mkF m 494 #[.val (.long p1), .second, .val (.long p2), .second, .val (.int p3), .val (.int p4), .val (.int p5), .val (.long x7), .second, .val (.ref b1), .val (.ref b50), .val (.long x11), .second, .val (.int x13), .val (.int x14), .val (.int x15), .val (.int x16), .val (.int (1 : Int32)), .val (.int b_4), .val (.int b_9)] [(.long (x11 - (ss.getD x15.toNatClampNeg (0 : Int64)))), (.int b_4)])) _
      refine XS.lload X9.here hx rfl (hb hby at_494) rfl ?_
      show Steps p.tables e below (T9.setTop (mkF m 496 #[.val (.long p1), .second, .val (.long p2), .second, .val (.int p3), .val (.int p4), .val (.int p5), .val (.long x7), .second, .val (.ref b1), .val (.ref b50), .val (.long x11), .second, .val (.int x13), .val (.int x14), .val (.int x15), .val (.int x16), .val (.int (1 : Int32)), .val (.int b_4), .val (.int b_9)] [(.long x7), (.long (x11 - (ss.getD x15.toNatClampNeg (0 : Int64)))), (.int b_4)])) _
      refine XS.lcmp X9.here hx rfl (hb hby at_496) rfl ?_
      exact kt
    by_cases hc14 : x7 < (x11 - (ss.getD x15.toNatClampNeg (0 : Int64)))
    · have _ := hc14
      refine Go.step (T' := T9) (f' := (mkF m 504 #[.val (.long p1), .second, .val (.long p2), .second, .val (.int p3), .val (.int p4), .val (.int p5), .val (.long x7), .second, .val (.ref b1), .val (.ref b50), .val (.long x11), .second, .val (.int x13), .val (.int x14), .val (.int x15), .val (.int x16), .val (.int (1 : Int32)), .val (.int b_4), .val (.int b_9)] [(.int b_4)])) (fun t kt => ?_) ?_
      · show Steps p.tables e below (T9.setTop (mkF m 497 #[.val (.long p1), .second, .val (.long p2), .second, .val (.int p3), .val (.int p4), .val (.int p5), .val (.long x7), .second, .val (.ref b1), .val (.ref b50), .val (.long x11), .second, .val (.int x13), .val (.int x14), .val (.int x15), .val (.int x16), .val (.int (1 : Int32)), .val (.int b_4), .val (.int b_9)] [(.int (lcmpW (x11 - (ss.getD x15.toNatClampNeg (0 : Int64))) x7)), (.int b_4)])) _
        refine XS.ifYes X9.here hx rfl (pc0 := 497) (pc' := 504) rfl (hb hby at_497) rfl ((if0 _ _).trans (tlt ((lw_gt _ _).mpr hc14)).2.2.1) (by decide) (by decide) ?_
        exact kt
      refine Go.step (T' := T9) (f' := (mkF m 505 #[.val (.long p1), .second, .val (.long p2), .second, .val (.int p3), .val (.int p4), .val (.int p5), .val (.long x7), .second, .val (.ref b1), .val (.ref b50), .val (.long x11), .second, .val (.int x13), .val (.int x14), .val (.int x15), .val (.int x16), .val (.int (1 : Int32)), .val (.int b_4), .val (.int b_9)] [(.int (0 : Int32)), (.int b_4)])) (fun t kt => ?_) ?_
      · show Steps p.tables e below (T9.setTop (mkF m 504 #[.val (.long p1), .second, .val (.long p2), .second, .val (.int p3), .val (.int p4), .val (.int p5), .val (.long x7), .second, .val (.ref b1), .val (.ref b50), .val (.long x11), .second, .val (.int x13), .val (.int x14), .val (.int x15), .val (.int x16), .val (.int (1 : Int32)), .val (.int b_4), .val (.int b_9)] [(.int b_4)])) _
        refine XS.iconst X9.here hx rfl (hb hby at_504) ?_
        exact kt
      have hd15 : b_4 = (0 : Int32) := hb1.trans (if_pos (by assumption))
      have ix16 : 0 ≤ (x16).toInt ∧ (x16).toInt < ((ss).length : Int) := own_ixl hS ⟨hjk.2.2.1, hjk.2.2.2.1⟩
      refine Go.step (T' := T9) (f' := (mkF m 521 #[.val (.long p1), .second, .val (.long p2), .second, .val (.int p3), .val (.int p4), .val (.int p5), .val (.long x7), .second, .val (.ref b1), .val (.ref b50), .val (.long x11), .second, .val (.int x13), .val (.int x14), .val (.int x15), .val (.int x16), .val (.int (1 : Int32)), .val (.int b_4), .val (.int b_9)] [(.int (lcmpW (x11 - (ss.getD x16.toNatClampNeg (0 : Int64))) x7)), (.int b_9)])) (fun t kt => ?_) ?_
      · show Steps p.tables e below (T9.setTop (mkF m 505 #[.val (.long p1), .second, .val (.long p2), .second, .val (.int p3), .val (.int p4), .val (.int p5), .val (.long x7), .second, .val (.ref b1), .val (.ref b50), .val (.long x11), .second, .val (.int x13), .val (.int x14), .val (.int x15), .val (.int x16), .val (.int (1 : Int32)), .val (.int b_4), .val (.int b_9)] [(.int (0 : Int32)), (.int b_4)])) _
        refine XS.icmpNo X9.here hx rfl (hb hby at_505) rfl (teq hd15).2 ?_
        show Steps p.tables e below (T9.setTop (mkF m 508 #[.val (.long p1), .second, .val (.long p2), .second, .val (.int p3), .val (.int p4), .val (.int p5), .val (.long x7), .second, .val (.ref b1), .val (.ref b50), .val (.long x11), .second, .val (.int x13), .val (.int x14), .val (.int x15), .val (.int x16), .val (.int (1 : Int32)), .val (.int b_4), .val (.int b_9)] [])) _
        refine XS.iload X9.here hx rfl (hb hby at_508) rfl ?_
        show Steps p.tables e below (T9.setTop (mkF m 510 #[.val (.long p1), .second, .val (.long p2), .second, .val (.int p3), .val (.int p4), .val (.int p5), .val (.long x7), .second, .val (.ref b1), .val (.ref b50), .val (.long x11), .second, .val (.int x13), .val (.int x14), .val (.int x15), .val (.int x16), .val (.int (1 : Int32)), .val (.int b_4), .val (.int b_9)] [(.int b_9)])) _
        refine XS.lload X9.here hx rfl (hb hby at_510) rfl ?_
        show Steps p.tables e below (T9.setTop (mkF m 512 #[.val (.long p1), .second, .val (.long p2), .second, .val (.int p3), .val (.int p4), .val (.int p5), .val (.long x7), .second, .val (.ref b1), .val (.ref b50), .val (.long x11), .second, .val (.int x13), .val (.int x14), .val (.int x15), .val (.int x16), .val (.int (1 : Int32)), .val (.int b_4), .val (.int b_9)] [(.long x11), (.int b_9)])) _
        refine XS.aload X9.here hx rfl (hb hby at_512) rfl rfl ?_
        show Steps p.tables e below (T9.setTop (mkF m 514 #[.val (.long p1), .second, .val (.long p2), .second, .val (.int p3), .val (.int p4), .val (.int p5), .val (.long x7), .second, .val (.ref b1), .val (.ref b50), .val (.long x11), .second, .val (.int x13), .val (.int x14), .val (.int x15), .val (.int x16), .val (.int (1 : Int32)), .val (.int b_4), .val (.int b_9)] [(.ref b1), (.long x11), (.int b_9)])) _
        refine XS.iload X9.here hx rfl (hb hby at_514) rfl ?_
        show Steps p.tables e below (T9.setTop (mkF m 516 #[.val (.long p1), .second, .val (.long p2), .second, .val (.int p3), .val (.int p4), .val (.int p5), .val (.long x7), .second, .val (.ref b1), .val (.ref b50), .val (.long x11), .second, .val (.int x13), .val (.int x14), .val (.int x15), .val (.int x16), .val (.int (1 : Int32)), .val (.int b_4), .val (.int b_9)] [(.int x16), (.ref b1), (.long x11), (.int b_9)])) _
        refine ldJ X9 hx hZ rfl G10 ix16.1 ix16.2 (g := (mkF m 516 #[.val (.long p1), .second, .val (.long p2), .second, .val (.int p3), .val (.int p4), .val (.int p5), .val (.long x7), .second, .val (.ref b1), .val (.ref b50), .val (.long x11), .second, .val (.int x13), .val (.int x14), .val (.int x15), .val (.int x16), .val (.int (1 : Int32)), .val (.int b_4), .val (.int b_9)] [(.int x16), (.ref b1), (.long x11), (.int b_9)])) rfl rfl (hb hby at_516) _ ?_
        show Steps p.tables e below (T9.setTop (mkF m 517 #[.val (.long p1), .second, .val (.long p2), .second, .val (.int p3), .val (.int p4), .val (.int p5), .val (.long x7), .second, .val (.ref b1), .val (.ref b50), .val (.long x11), .second, .val (.int x13), .val (.int x14), .val (.int x15), .val (.int x16), .val (.int (1 : Int32)), .val (.int b_4), .val (.int b_9)] [(.long (ss.getD x16.toNatClampNeg (0 : Int64))), (.long x11), (.int b_9)])) _
        refine XS.lsub X9.here hx rfl (hb hby at_517) rfl ?_
        show Steps p.tables e below (T9.setTop (mkF m 518 #[.val (.long p1), .second, .val (.long p2), .second, .val (.int p3), .val (.int p4), .val (.int p5), .val (.long x7), .second, .val (.ref b1), .val (.ref b50), .val (.long x11), .second, .val (.int x13), .val (.int x14), .val (.int x15), .val (.int x16), .val (.int (1 : Int32)), .val (.int b_4), .val (.int b_9)] [(.long (x11 - (ss.getD x16.toNatClampNeg (0 : Int64)))), (.int b_9)])) _
        refine XS.lload X9.here hx rfl (hb hby at_518) rfl ?_
        show Steps p.tables e below (T9.setTop (mkF m 520 #[.val (.long p1), .second, .val (.long p2), .second, .val (.int p3), .val (.int p4), .val (.int p5), .val (.long x7), .second, .val (.ref b1), .val (.ref b50), .val (.long x11), .second, .val (.int x13), .val (.int x14), .val (.int x15), .val (.int x16), .val (.int (1 : Int32)), .val (.int b_4), .val (.int b_9)] [(.long x7), (.long (x11 - (ss.getD x16.toNatClampNeg (0 : Int64)))), (.int b_9)])) _
        refine XS.lcmp X9.here hx rfl (hb hby at_520) rfl ?_
        exact kt
      by_cases hc17 : x7 < (x11 - (ss.getD x16.toNatClampNeg (0 : Int64)))
      · have _ := hc17
        refine Go.step (T' := T9) (f' := (mkF m 528 #[.val (.long p1), .second, .val (.long p2), .second, .val (.int p3), .val (.int p4), .val (.int p5), .val (.long x7), .second, .val (.ref b1), .val (.ref b50), .val (.long x11), .second, .val (.int x13), .val (.int x14), .val (.int x15), .val (.int x16), .val (.int (1 : Int32)), .val (.int b_4), .val (.int b_9)] [(.int b_9)])) (fun t kt => ?_) ?_
        · show Steps p.tables e below (T9.setTop (mkF m 521 #[.val (.long p1), .second, .val (.long p2), .second, .val (.int p3), .val (.int p4), .val (.int p5), .val (.long x7), .second, .val (.ref b1), .val (.ref b50), .val (.long x11), .second, .val (.int x13), .val (.int x14), .val (.int x15), .val (.int x16), .val (.int (1 : Int32)), .val (.int b_4), .val (.int b_9)] [(.int (lcmpW (x11 - (ss.getD x16.toNatClampNeg (0 : Int64))) x7)), (.int b_9)])) _
          refine XS.ifYes X9.here hx rfl (pc0 := 521) (pc' := 528) rfl (hb hby at_521) rfl ((if0 _ _).trans (tlt ((lw_gt _ _).mpr hc17)).2.2.1) (by decide) (by decide) ?_
          exact kt
        refine Go.step (T' := T9) (f' := (mkF m 529 #[.val (.long p1), .second, .val (.long p2), .second, .val (.int p3), .val (.int p4), .val (.int p5), .val (.long x7), .second, .val (.ref b1), .val (.ref b50), .val (.long x11), .second, .val (.int x13), .val (.int x14), .val (.int x15), .val (.int x16), .val (.int (1 : Int32)), .val (.int b_4), .val (.int b_9)] [(.int (0 : Int32)), (.int b_9)])) (fun t kt => ?_) ?_
        · show Steps p.tables e below (T9.setTop (mkF m 528 #[.val (.long p1), .second, .val (.long p2), .second, .val (.int p3), .val (.int p4), .val (.int p5), .val (.long x7), .second, .val (.ref b1), .val (.ref b50), .val (.long x11), .second, .val (.int x13), .val (.int x14), .val (.int x15), .val (.int x16), .val (.int (1 : Int32)), .val (.int b_4), .val (.int b_9)] [(.int b_9)])) _
          refine XS.iconst X9.here hx rfl (hb hby at_528) ?_
          exact kt
        have hd18 : b_9 = (0 : Int32) := hb2.trans (if_pos (by assumption))
        refine Go.step (T' := T9) (f' := (mkF m 537 #[.val (.long p1), .second, .val (.long p2), .second, .val (.int p3), .val (.int p4), .val (.int p5), .val (.long x7), .second, .val (.ref b1), .val (.ref b50), .val (.long x11), .second, .val (.int x13), .val (.int x14), .val (.int x15), .val (.int x16), .val (.int (1 : Int32)), .val (.int b_4), .val (.int b_9)] [(.int (1 : Int32))])) (fun t kt => ?_) ?_
        · show Steps p.tables e below (T9.setTop (mkF m 529 #[.val (.long p1), .second, .val (.long p2), .second, .val (.int p3), .val (.int p4), .val (.int p5), .val (.long x7), .second, .val (.ref b1), .val (.ref b50), .val (.long x11), .second, .val (.int x13), .val (.int x14), .val (.int x15), .val (.int x16), .val (.int (1 : Int32)), .val (.int b_4), .val (.int b_9)] [(.int (0 : Int32)), (.int b_9)])) _
          refine XS.icmpNo X9.here hx rfl (hb hby at_529) rfl (teq hd18).2 ?_
          show Steps p.tables e below (T9.setTop (mkF m 532 #[.val (.long p1), .second, .val (.long p2), .second, .val (.int p3), .val (.int p4), .val (.int p5), .val (.long x7), .second, .val (.ref b1), .val (.ref b50), .val (.long x11), .second, .val (.int x13), .val (.int x14), .val (.int x15), .val (.int x16), .val (.int (1 : Int32)), .val (.int b_4), .val (.int b_9)] [])) _
          refine XS.iconst X9.here hx rfl (hb hby at_532) ?_
          show Steps p.tables e below (T9.setTop (mkF m 533 #[.val (.long p1), .second, .val (.long p2), .second, .val (.int p3), .val (.int p4), .val (.int p5), .val (.long x7), .second, .val (.ref b1), .val (.ref b50), .val (.long x11), .second, .val (.int x13), .val (.int x14), .val (.int x15), .val (.int x16), .val (.int (1 : Int32)), .val (.int b_4), .val (.int b_9)] [(.int (1 : Int32))])) _
          refine XS.goto X9.here hx rfl (pc0 := 533) (pc' := 537) rfl (hb hby at_533) (by decide) (by decide) ?_
          exact kt
        refine Go.fin X9 (v := some (.int (1 : Int32))) (fun h => by rw [Bd.returns] at h; cases h) Bd.notSynchronized ?_ (Nat.le_trans (Nat.add_le_add_right (Nat.add_le_add_right (Nat.add_le_add_right hcl 0) 0) 0) (by decide)) (Nat.le_trans (Nat.add_le_add_right (Nat.add_le_add_right (Nat.add_le_add_right hsl 0) 0) 0) (by decide)) (fun fs hr => retN X9 hx (t := .boolean) Bd.returns (by simp) (hb hby at_537) hr)
        · show Q0 Z p1 p2 p3 p4 p5 h0 n0 _ T9.heap _
          exact ⟨rfl, N9⟩
      · have _ := hc17
        refine Go.step (T' := T9) (f' := (mkF m 524 #[.val (.long p1), .second, .val (.long p2), .second, .val (.int p3), .val (.int p4), .val (.int p5), .val (.long x7), .second, .val (.ref b1), .val (.ref b50), .val (.long x11), .second, .val (.int x13), .val (.int x14), .val (.int x15), .val (.int x16), .val (.int (1 : Int32)), .val (.int b_4), .val (.int b_9)] [(.int b_9)])) (fun t kt => ?_) ?_
        · show Steps p.tables e below (T9.setTop (mkF m 521 #[.val (.long p1), .second, .val (.long p2), .second, .val (.int p3), .val (.int p4), .val (.int p5), .val (.long x7), .second, .val (.ref b1), .val (.ref b50), .val (.long x11), .second, .val (.int x13), .val (.int x14), .val (.int x15), .val (.int x16), .val (.int (1 : Int32)), .val (.int b_4), .val (.int b_9)] [(.int (lcmpW (x11 - (ss.getD x16.toNatClampNeg (0 : Int64))) x7)), (.int b_9)])) _
          refine XS.ifNo X9.here hx rfl (hb hby at_521) rfl ((if0 _ _).trans (flt (fun q => hc17 ((lw_gt _ _).mp q))).2.2.1) ?_
          exact kt
        refine Go.step (T' := T9) (f' := (mkF m 529 #[.val (.long p1), .second, .val (.long p2), .second, .val (.int p3), .val (.int p4), .val (.int p5), .val (.long x7), .second, .val (.ref b1), .val (.ref b50), .val (.long x11), .second, .val (.int x13), .val (.int x14), .val (.int x15), .val (.int x16), .val (.int (1 : Int32)), .val (.int b_4), .val (.int b_9)] [(.int (1 : Int32)), (.int b_9)])) (fun t kt => ?_) ?_
        · show Steps p.tables e below (T9.setTop (mkF m 524 #[.val (.long p1), .second, .val (.long p2), .second, .val (.int p3), .val (.int p4), .val (.int p5), .val (.long x7), .second, .val (.ref b1), .val (.ref b50), .val (.long x11), .second, .val (.int x13), .val (.int x14), .val (.int x15), .val (.int x16), .val (.int (1 : Int32)), .val (.int b_4), .val (.int b_9)] [(.int b_9)])) _
          refine XS.iconst X9.here hx rfl (hb hby at_524) ?_
          show Steps p.tables e below (T9.setTop (mkF m 525 #[.val (.long p1), .second, .val (.long p2), .second, .val (.int p3), .val (.int p4), .val (.int p5), .val (.long x7), .second, .val (.ref b1), .val (.ref b50), .val (.long x11), .second, .val (.int x13), .val (.int x14), .val (.int x15), .val (.int x16), .val (.int (1 : Int32)), .val (.int b_4), .val (.int b_9)] [(.int (1 : Int32)), (.int b_9)])) _
          refine XS.goto X9.here hx rfl (pc0 := 525) (pc' := 529) rfl (hb hby at_525) (by decide) (by decide) ?_
          exact kt
        have hd19 : b_9 = (1 : Int32) := hb2.trans (if_neg (by assumption))
        refine Go.step (T' := T9) (f' := (mkF m 537 #[.val (.long p1), .second, .val (.long p2), .second, .val (.int p3), .val (.int p4), .val (.int p5), .val (.long x7), .second, .val (.ref b1), .val (.ref b50), .val (.long x11), .second, .val (.int x13), .val (.int x14), .val (.int x15), .val (.int x16), .val (.int (1 : Int32)), .val (.int b_4), .val (.int b_9)] [(.int (1 : Int32))])) (fun t kt => ?_) ?_
        · show Steps p.tables e below (T9.setTop (mkF m 529 #[.val (.long p1), .second, .val (.long p2), .second, .val (.int p3), .val (.int p4), .val (.int p5), .val (.long x7), .second, .val (.ref b1), .val (.ref b50), .val (.long x11), .second, .val (.int x13), .val (.int x14), .val (.int x15), .val (.int x16), .val (.int (1 : Int32)), .val (.int b_4), .val (.int b_9)] [(.int (1 : Int32)), (.int b_9)])) _
          refine XS.icmpNo X9.here hx rfl (hb hby at_529) rfl (teq hd19).2 ?_
          show Steps p.tables e below (T9.setTop (mkF m 532 #[.val (.long p1), .second, .val (.long p2), .second, .val (.int p3), .val (.int p4), .val (.int p5), .val (.long x7), .second, .val (.ref b1), .val (.ref b50), .val (.long x11), .second, .val (.int x13), .val (.int x14), .val (.int x15), .val (.int x16), .val (.int (1 : Int32)), .val (.int b_4), .val (.int b_9)] [])) _
          refine XS.iconst X9.here hx rfl (hb hby at_532) ?_
          show Steps p.tables e below (T9.setTop (mkF m 533 #[.val (.long p1), .second, .val (.long p2), .second, .val (.int p3), .val (.int p4), .val (.int p5), .val (.long x7), .second, .val (.ref b1), .val (.ref b50), .val (.long x11), .second, .val (.int x13), .val (.int x14), .val (.int x15), .val (.int x16), .val (.int (1 : Int32)), .val (.int b_4), .val (.int b_9)] [(.int (1 : Int32))])) _
          refine XS.goto X9.here hx rfl (pc0 := 533) (pc' := 537) rfl (hb hby at_533) (by decide) (by decide) ?_
          exact kt
        refine Go.fin X9 (v := some (.int (1 : Int32))) (fun h => by rw [Bd.returns] at h; cases h) Bd.notSynchronized ?_ (Nat.le_trans (Nat.add_le_add_right (Nat.add_le_add_right (Nat.add_le_add_right hcl 0) 0) 0) (by decide)) (Nat.le_trans (Nat.add_le_add_right (Nat.add_le_add_right (Nat.add_le_add_right hsl 0) 0) 0) (by decide)) (fun fs hr => retN X9 hx (t := .boolean) Bd.returns (by simp) (hb hby at_537) hr)
        · show Q0 Z p1 p2 p3 p4 p5 h0 n0 _ T9.heap _
          exact ⟨rfl, N9⟩
    · have _ := hc14
      refine Go.step (T' := T9) (f' := (mkF m 500 #[.val (.long p1), .second, .val (.long p2), .second, .val (.int p3), .val (.int p4), .val (.int p5), .val (.long x7), .second, .val (.ref b1), .val (.ref b50), .val (.long x11), .second, .val (.int x13), .val (.int x14), .val (.int x15), .val (.int x16), .val (.int (1 : Int32)), .val (.int b_4), .val (.int b_9)] [(.int b_4)])) (fun t kt => ?_) ?_
      · show Steps p.tables e below (T9.setTop (mkF m 497 #[.val (.long p1), .second, .val (.long p2), .second, .val (.int p3), .val (.int p4), .val (.int p5), .val (.long x7), .second, .val (.ref b1), .val (.ref b50), .val (.long x11), .second, .val (.int x13), .val (.int x14), .val (.int x15), .val (.int x16), .val (.int (1 : Int32)), .val (.int b_4), .val (.int b_9)] [(.int (lcmpW (x11 - (ss.getD x15.toNatClampNeg (0 : Int64))) x7)), (.int b_4)])) _
        refine XS.ifNo X9.here hx rfl (hb hby at_497) rfl ((if0 _ _).trans (flt (fun q => hc14 ((lw_gt _ _).mp q))).2.2.1) ?_
        exact kt
      refine Go.step (T' := T9) (f' := (mkF m 505 #[.val (.long p1), .second, .val (.long p2), .second, .val (.int p3), .val (.int p4), .val (.int p5), .val (.long x7), .second, .val (.ref b1), .val (.ref b50), .val (.long x11), .second, .val (.int x13), .val (.int x14), .val (.int x15), .val (.int x16), .val (.int (1 : Int32)), .val (.int b_4), .val (.int b_9)] [(.int (1 : Int32)), (.int b_4)])) (fun t kt => ?_) ?_
      · show Steps p.tables e below (T9.setTop (mkF m 500 #[.val (.long p1), .second, .val (.long p2), .second, .val (.int p3), .val (.int p4), .val (.int p5), .val (.long x7), .second, .val (.ref b1), .val (.ref b50), .val (.long x11), .second, .val (.int x13), .val (.int x14), .val (.int x15), .val (.int x16), .val (.int (1 : Int32)), .val (.int b_4), .val (.int b_9)] [(.int b_4)])) _
        refine XS.iconst X9.here hx rfl (hb hby at_500) ?_
        show Steps p.tables e below (T9.setTop (mkF m 501 #[.val (.long p1), .second, .val (.long p2), .second, .val (.int p3), .val (.int p4), .val (.int p5), .val (.long x7), .second, .val (.ref b1), .val (.ref b50), .val (.long x11), .second, .val (.int x13), .val (.int x14), .val (.int x15), .val (.int x16), .val (.int (1 : Int32)), .val (.int b_4), .val (.int b_9)] [(.int (1 : Int32)), (.int b_4)])) _
        refine XS.goto X9.here hx rfl (pc0 := 501) (pc' := 505) rfl (hb hby at_501) (by decide) (by decide) ?_
        exact kt
      have hd20 : b_4 = (1 : Int32) := hb1.trans (if_neg (by assumption))
      have ix21 : 0 ≤ (x16).toInt ∧ (x16).toInt < ((ss).length : Int) := own_ixl hS ⟨hjk.2.2.1, hjk.2.2.2.1⟩
      refine Go.step (T' := T9) (f' := (mkF m 521 #[.val (.long p1), .second, .val (.long p2), .second, .val (.int p3), .val (.int p4), .val (.int p5), .val (.long x7), .second, .val (.ref b1), .val (.ref b50), .val (.long x11), .second, .val (.int x13), .val (.int x14), .val (.int x15), .val (.int x16), .val (.int (1 : Int32)), .val (.int b_4), .val (.int b_9)] [(.int (lcmpW (x11 - (ss.getD x16.toNatClampNeg (0 : Int64))) x7)), (.int b_9)])) (fun t kt => ?_) ?_
      · show Steps p.tables e below (T9.setTop (mkF m 505 #[.val (.long p1), .second, .val (.long p2), .second, .val (.int p3), .val (.int p4), .val (.int p5), .val (.long x7), .second, .val (.ref b1), .val (.ref b50), .val (.long x11), .second, .val (.int x13), .val (.int x14), .val (.int x15), .val (.int x16), .val (.int (1 : Int32)), .val (.int b_4), .val (.int b_9)] [(.int (1 : Int32)), (.int b_4)])) _
        refine XS.icmpNo X9.here hx rfl (hb hby at_505) rfl (teq hd20).2 ?_
        show Steps p.tables e below (T9.setTop (mkF m 508 #[.val (.long p1), .second, .val (.long p2), .second, .val (.int p3), .val (.int p4), .val (.int p5), .val (.long x7), .second, .val (.ref b1), .val (.ref b50), .val (.long x11), .second, .val (.int x13), .val (.int x14), .val (.int x15), .val (.int x16), .val (.int (1 : Int32)), .val (.int b_4), .val (.int b_9)] [])) _
        refine XS.iload X9.here hx rfl (hb hby at_508) rfl ?_
        show Steps p.tables e below (T9.setTop (mkF m 510 #[.val (.long p1), .second, .val (.long p2), .second, .val (.int p3), .val (.int p4), .val (.int p5), .val (.long x7), .second, .val (.ref b1), .val (.ref b50), .val (.long x11), .second, .val (.int x13), .val (.int x14), .val (.int x15), .val (.int x16), .val (.int (1 : Int32)), .val (.int b_4), .val (.int b_9)] [(.int b_9)])) _
        refine XS.lload X9.here hx rfl (hb hby at_510) rfl ?_
        show Steps p.tables e below (T9.setTop (mkF m 512 #[.val (.long p1), .second, .val (.long p2), .second, .val (.int p3), .val (.int p4), .val (.int p5), .val (.long x7), .second, .val (.ref b1), .val (.ref b50), .val (.long x11), .second, .val (.int x13), .val (.int x14), .val (.int x15), .val (.int x16), .val (.int (1 : Int32)), .val (.int b_4), .val (.int b_9)] [(.long x11), (.int b_9)])) _
        refine XS.aload X9.here hx rfl (hb hby at_512) rfl rfl ?_
        show Steps p.tables e below (T9.setTop (mkF m 514 #[.val (.long p1), .second, .val (.long p2), .second, .val (.int p3), .val (.int p4), .val (.int p5), .val (.long x7), .second, .val (.ref b1), .val (.ref b50), .val (.long x11), .second, .val (.int x13), .val (.int x14), .val (.int x15), .val (.int x16), .val (.int (1 : Int32)), .val (.int b_4), .val (.int b_9)] [(.ref b1), (.long x11), (.int b_9)])) _
        refine XS.iload X9.here hx rfl (hb hby at_514) rfl ?_
        show Steps p.tables e below (T9.setTop (mkF m 516 #[.val (.long p1), .second, .val (.long p2), .second, .val (.int p3), .val (.int p4), .val (.int p5), .val (.long x7), .second, .val (.ref b1), .val (.ref b50), .val (.long x11), .second, .val (.int x13), .val (.int x14), .val (.int x15), .val (.int x16), .val (.int (1 : Int32)), .val (.int b_4), .val (.int b_9)] [(.int x16), (.ref b1), (.long x11), (.int b_9)])) _
        refine ldJ X9 hx hZ rfl G10 ix21.1 ix21.2 (g := (mkF m 516 #[.val (.long p1), .second, .val (.long p2), .second, .val (.int p3), .val (.int p4), .val (.int p5), .val (.long x7), .second, .val (.ref b1), .val (.ref b50), .val (.long x11), .second, .val (.int x13), .val (.int x14), .val (.int x15), .val (.int x16), .val (.int (1 : Int32)), .val (.int b_4), .val (.int b_9)] [(.int x16), (.ref b1), (.long x11), (.int b_9)])) rfl rfl (hb hby at_516) _ ?_
        show Steps p.tables e below (T9.setTop (mkF m 517 #[.val (.long p1), .second, .val (.long p2), .second, .val (.int p3), .val (.int p4), .val (.int p5), .val (.long x7), .second, .val (.ref b1), .val (.ref b50), .val (.long x11), .second, .val (.int x13), .val (.int x14), .val (.int x15), .val (.int x16), .val (.int (1 : Int32)), .val (.int b_4), .val (.int b_9)] [(.long (ss.getD x16.toNatClampNeg (0 : Int64))), (.long x11), (.int b_9)])) _
        refine XS.lsub X9.here hx rfl (hb hby at_517) rfl ?_
        show Steps p.tables e below (T9.setTop (mkF m 518 #[.val (.long p1), .second, .val (.long p2), .second, .val (.int p3), .val (.int p4), .val (.int p5), .val (.long x7), .second, .val (.ref b1), .val (.ref b50), .val (.long x11), .second, .val (.int x13), .val (.int x14), .val (.int x15), .val (.int x16), .val (.int (1 : Int32)), .val (.int b_4), .val (.int b_9)] [(.long (x11 - (ss.getD x16.toNatClampNeg (0 : Int64)))), (.int b_9)])) _
        refine XS.lload X9.here hx rfl (hb hby at_518) rfl ?_
        show Steps p.tables e below (T9.setTop (mkF m 520 #[.val (.long p1), .second, .val (.long p2), .second, .val (.int p3), .val (.int p4), .val (.int p5), .val (.long x7), .second, .val (.ref b1), .val (.ref b50), .val (.long x11), .second, .val (.int x13), .val (.int x14), .val (.int x15), .val (.int x16), .val (.int (1 : Int32)), .val (.int b_4), .val (.int b_9)] [(.long x7), (.long (x11 - (ss.getD x16.toNatClampNeg (0 : Int64)))), (.int b_9)])) _
        refine XS.lcmp X9.here hx rfl (hb hby at_520) rfl ?_
        exact kt
      by_cases hc22 : x7 < (x11 - (ss.getD x16.toNatClampNeg (0 : Int64)))
      · have _ := hc22
        refine Go.step (T' := T9) (f' := (mkF m 528 #[.val (.long p1), .second, .val (.long p2), .second, .val (.int p3), .val (.int p4), .val (.int p5), .val (.long x7), .second, .val (.ref b1), .val (.ref b50), .val (.long x11), .second, .val (.int x13), .val (.int x14), .val (.int x15), .val (.int x16), .val (.int (1 : Int32)), .val (.int b_4), .val (.int b_9)] [(.int b_9)])) (fun t kt => ?_) ?_
        · show Steps p.tables e below (T9.setTop (mkF m 521 #[.val (.long p1), .second, .val (.long p2), .second, .val (.int p3), .val (.int p4), .val (.int p5), .val (.long x7), .second, .val (.ref b1), .val (.ref b50), .val (.long x11), .second, .val (.int x13), .val (.int x14), .val (.int x15), .val (.int x16), .val (.int (1 : Int32)), .val (.int b_4), .val (.int b_9)] [(.int (lcmpW (x11 - (ss.getD x16.toNatClampNeg (0 : Int64))) x7)), (.int b_9)])) _
          refine XS.ifYes X9.here hx rfl (pc0 := 521) (pc' := 528) rfl (hb hby at_521) rfl ((if0 _ _).trans (tlt ((lw_gt _ _).mpr hc22)).2.2.1) (by decide) (by decide) ?_
          exact kt
        refine Go.step (T' := T9) (f' := (mkF m 529 #[.val (.long p1), .second, .val (.long p2), .second, .val (.int p3), .val (.int p4), .val (.int p5), .val (.long x7), .second, .val (.ref b1), .val (.ref b50), .val (.long x11), .second, .val (.int x13), .val (.int x14), .val (.int x15), .val (.int x16), .val (.int (1 : Int32)), .val (.int b_4), .val (.int b_9)] [(.int (0 : Int32)), (.int b_9)])) (fun t kt => ?_) ?_
        · show Steps p.tables e below (T9.setTop (mkF m 528 #[.val (.long p1), .second, .val (.long p2), .second, .val (.int p3), .val (.int p4), .val (.int p5), .val (.long x7), .second, .val (.ref b1), .val (.ref b50), .val (.long x11), .second, .val (.int x13), .val (.int x14), .val (.int x15), .val (.int x16), .val (.int (1 : Int32)), .val (.int b_4), .val (.int b_9)] [(.int b_9)])) _
          refine XS.iconst X9.here hx rfl (hb hby at_528) ?_
          exact kt
        have hd23 : b_9 = (0 : Int32) := hb2.trans (if_pos (by assumption))
        refine Go.step (T' := T9) (f' := (mkF m 537 #[.val (.long p1), .second, .val (.long p2), .second, .val (.int p3), .val (.int p4), .val (.int p5), .val (.long x7), .second, .val (.ref b1), .val (.ref b50), .val (.long x11), .second, .val (.int x13), .val (.int x14), .val (.int x15), .val (.int x16), .val (.int (1 : Int32)), .val (.int b_4), .val (.int b_9)] [(.int (1 : Int32))])) (fun t kt => ?_) ?_
        · show Steps p.tables e below (T9.setTop (mkF m 529 #[.val (.long p1), .second, .val (.long p2), .second, .val (.int p3), .val (.int p4), .val (.int p5), .val (.long x7), .second, .val (.ref b1), .val (.ref b50), .val (.long x11), .second, .val (.int x13), .val (.int x14), .val (.int x15), .val (.int x16), .val (.int (1 : Int32)), .val (.int b_4), .val (.int b_9)] [(.int (0 : Int32)), (.int b_9)])) _
          refine XS.icmpNo X9.here hx rfl (hb hby at_529) rfl (teq hd23).2 ?_
          show Steps p.tables e below (T9.setTop (mkF m 532 #[.val (.long p1), .second, .val (.long p2), .second, .val (.int p3), .val (.int p4), .val (.int p5), .val (.long x7), .second, .val (.ref b1), .val (.ref b50), .val (.long x11), .second, .val (.int x13), .val (.int x14), .val (.int x15), .val (.int x16), .val (.int (1 : Int32)), .val (.int b_4), .val (.int b_9)] [])) _
          refine XS.iconst X9.here hx rfl (hb hby at_532) ?_
          show Steps p.tables e below (T9.setTop (mkF m 533 #[.val (.long p1), .second, .val (.long p2), .second, .val (.int p3), .val (.int p4), .val (.int p5), .val (.long x7), .second, .val (.ref b1), .val (.ref b50), .val (.long x11), .second, .val (.int x13), .val (.int x14), .val (.int x15), .val (.int x16), .val (.int (1 : Int32)), .val (.int b_4), .val (.int b_9)] [(.int (1 : Int32))])) _
          refine XS.goto X9.here hx rfl (pc0 := 533) (pc' := 537) rfl (hb hby at_533) (by decide) (by decide) ?_
          exact kt
        refine Go.fin X9 (v := some (.int (1 : Int32))) (fun h => by rw [Bd.returns] at h; cases h) Bd.notSynchronized ?_ (Nat.le_trans (Nat.add_le_add_right (Nat.add_le_add_right (Nat.add_le_add_right hcl 0) 0) 0) (by decide)) (Nat.le_trans (Nat.add_le_add_right (Nat.add_le_add_right (Nat.add_le_add_right hsl 0) 0) 0) (by decide)) (fun fs hr => retN X9 hx (t := .boolean) Bd.returns (by simp) (hb hby at_537) hr)
        · show Q0 Z p1 p2 p3 p4 p5 h0 n0 _ T9.heap _
          exact ⟨rfl, N9⟩
      · have _ := hc22
        refine Go.step (T' := T9) (f' := (mkF m 524 #[.val (.long p1), .second, .val (.long p2), .second, .val (.int p3), .val (.int p4), .val (.int p5), .val (.long x7), .second, .val (.ref b1), .val (.ref b50), .val (.long x11), .second, .val (.int x13), .val (.int x14), .val (.int x15), .val (.int x16), .val (.int (1 : Int32)), .val (.int b_4), .val (.int b_9)] [(.int b_9)])) (fun t kt => ?_) ?_
        · show Steps p.tables e below (T9.setTop (mkF m 521 #[.val (.long p1), .second, .val (.long p2), .second, .val (.int p3), .val (.int p4), .val (.int p5), .val (.long x7), .second, .val (.ref b1), .val (.ref b50), .val (.long x11), .second, .val (.int x13), .val (.int x14), .val (.int x15), .val (.int x16), .val (.int (1 : Int32)), .val (.int b_4), .val (.int b_9)] [(.int (lcmpW (x11 - (ss.getD x16.toNatClampNeg (0 : Int64))) x7)), (.int b_9)])) _
          refine XS.ifNo X9.here hx rfl (hb hby at_521) rfl ((if0 _ _).trans (flt (fun q => hc22 ((lw_gt _ _).mp q))).2.2.1) ?_
          exact kt
        refine Go.step (T' := T9) (f' := (mkF m 529 #[.val (.long p1), .second, .val (.long p2), .second, .val (.int p3), .val (.int p4), .val (.int p5), .val (.long x7), .second, .val (.ref b1), .val (.ref b50), .val (.long x11), .second, .val (.int x13), .val (.int x14), .val (.int x15), .val (.int x16), .val (.int (1 : Int32)), .val (.int b_4), .val (.int b_9)] [(.int (1 : Int32)), (.int b_9)])) (fun t kt => ?_) ?_
        · show Steps p.tables e below (T9.setTop (mkF m 524 #[.val (.long p1), .second, .val (.long p2), .second, .val (.int p3), .val (.int p4), .val (.int p5), .val (.long x7), .second, .val (.ref b1), .val (.ref b50), .val (.long x11), .second, .val (.int x13), .val (.int x14), .val (.int x15), .val (.int x16), .val (.int (1 : Int32)), .val (.int b_4), .val (.int b_9)] [(.int b_9)])) _
          refine XS.iconst X9.here hx rfl (hb hby at_524) ?_
          show Steps p.tables e below (T9.setTop (mkF m 525 #[.val (.long p1), .second, .val (.long p2), .second, .val (.int p3), .val (.int p4), .val (.int p5), .val (.long x7), .second, .val (.ref b1), .val (.ref b50), .val (.long x11), .second, .val (.int x13), .val (.int x14), .val (.int x15), .val (.int x16), .val (.int (1 : Int32)), .val (.int b_4), .val (.int b_9)] [(.int (1 : Int32)), (.int b_9)])) _
          refine XS.goto X9.here hx rfl (pc0 := 525) (pc' := 529) rfl (hb hby at_525) (by decide) (by decide) ?_
          exact kt
        have hd24 : b_9 = (1 : Int32) := hb2.trans (if_neg (by assumption))
        refine Go.step (T' := T9) (f' := (mkF m 537 #[.val (.long p1), .second, .val (.long p2), .second, .val (.int p3), .val (.int p4), .val (.int p5), .val (.long x7), .second, .val (.ref b1), .val (.ref b50), .val (.long x11), .second, .val (.int x13), .val (.int x14), .val (.int x15), .val (.int x16), .val (.int (1 : Int32)), .val (.int b_4), .val (.int b_9)] [(.int (1 : Int32))])) (fun t kt => ?_) ?_
        · show Steps p.tables e below (T9.setTop (mkF m 529 #[.val (.long p1), .second, .val (.long p2), .second, .val (.int p3), .val (.int p4), .val (.int p5), .val (.long x7), .second, .val (.ref b1), .val (.ref b50), .val (.long x11), .second, .val (.int x13), .val (.int x14), .val (.int x15), .val (.int x16), .val (.int (1 : Int32)), .val (.int b_4), .val (.int b_9)] [(.int (1 : Int32)), (.int b_9)])) _
          refine XS.icmpNo X9.here hx rfl (hb hby at_529) rfl (teq hd24).2 ?_
          show Steps p.tables e below (T9.setTop (mkF m 532 #[.val (.long p1), .second, .val (.long p2), .second, .val (.int p3), .val (.int p4), .val (.int p5), .val (.long x7), .second, .val (.ref b1), .val (.ref b50), .val (.long x11), .second, .val (.int x13), .val (.int x14), .val (.int x15), .val (.int x16), .val (.int (1 : Int32)), .val (.int b_4), .val (.int b_9)] [])) _
          refine XS.iconst X9.here hx rfl (hb hby at_532) ?_
          show Steps p.tables e below (T9.setTop (mkF m 533 #[.val (.long p1), .second, .val (.long p2), .second, .val (.int p3), .val (.int p4), .val (.int p5), .val (.long x7), .second, .val (.ref b1), .val (.ref b50), .val (.long x11), .second, .val (.int x13), .val (.int x14), .val (.int x15), .val (.int x16), .val (.int (1 : Int32)), .val (.int b_4), .val (.int b_9)] [(.int (1 : Int32))])) _
          refine XS.goto X9.here hx rfl (pc0 := 533) (pc' := 537) rfl (hb hby at_533) (by decide) (by decide) ?_
          exact kt
        refine Go.fin X9 (v := some (.int (1 : Int32))) (fun h => by rw [Bd.returns] at h; cases h) Bd.notSynchronized ?_ (Nat.le_trans (Nat.add_le_add_right (Nat.add_le_add_right (Nat.add_le_add_right hcl 0) 0) 0) (by decide)) (Nat.le_trans (Nat.add_le_add_right (Nat.add_le_add_right (Nat.add_le_add_right hsl 0) 0) 0) (by decide)) (fun fs hr => retN X9 hx (t := .boolean) Bd.returns (by simp) (hb hby at_537) hr)
        · show Q0 Z p1 p2 p3 p4 p5 h0 n0 _ T9.heap _
          exact ⟨rfl, N9⟩
  have S270 : ∀ (T : State) (locs : List Loc) (cells slots : Nat) (X : Stand p l e room_1 s m #[(.long p1), (.long p2), (.int p3), (.int p4), (.int p5)] below meth c T locs cells slots) (hcl : cells ≤ 8) (hsl : slots ≤ 95) (h : Heap) (eT : T.heap = h) (N : Fr n0 locs) (x7 : Int64)  (b1 : Addr) (b50 : Addr) (s2_102 : Addr) (a2_102 : Addr) (ss : List Int64) (c1 : Int32) (o1 : Int32) (sl : List Int64) (al : List Int32) (NN : Nat) (K : Keep h0 h []) (fc0 : VA Z h b1 .long (ss.map Value.long)) (fc1 : Exa Z h b50 "com/example/talthybius/talthybius/AwaitedPings") (fc2 : Fld Z h b50 "com/example/talthybius/talthybius/AwaitedPings" "sentAt" "[J" (.ref s2_102)) (fc3 : Fld Z h b50 "com/example/talthybius/talthybius/AwaitedPings" "answered" "[Z" (.ref a2_102)) (fc4 : Fld Z h b50 "com/example/talthybius/talthybius/AwaitedPings" "timeoutNanos" "J" (.long x7)) (fc5 : Fld Z h b50 "com/example/talthybius/talthybius/AwaitedPings" "count" "I" (.int c1)) (fc6 : Fld Z h b50 "com/example/talthybius/talthybius/AwaitedPings" "oldest" "I" (.int o1)) (fc7 : VA Z h s2_102 .long (sl.map Value.long)) (fc8 : VA Z h a2_102 .boolean (al.map Value.int)) (g_b1 : n0 ≤ b1) (g_b50 : n0 ≤ b50) (g_s2_102 : n0 ≤ s2_102) (g_a2_102 : n0 ≤ a2_102) (sz_b1 : h0.size ≤ b1) (sz_b50 : h0.size ≤ b50) (sz_s2_102 : h0.size ≤ s2_102) (sz_a2_102 : h0.size ≤ a2_102) (ne_b1_b50 : b1 ≠ b50) (ne_b1_s2_102 : b1 ≠ s2_102) (ne_b50_s2_102 : b50 ≠ s2_102) (ne_b1_a2_102 : b1 ≠ a2_102) (ne_b50_a2_102 : b50 ≠ a2_102) (ne_s2_102_a2_102 : s2_102 ≠ a2_102) (hA : own_AP NN sl al o1 c1 (own_Qn x7 ss 9)) (hS : own_SS 9 ss) (h7 : 0 ≤ x7.toInt), Go p e below s (Q0 Z p1 p2 p3 p4 p5 h0 n0) 24 192 T (mkF m 270 #[.val (.long p1), .second, .val (.long p2), .second, .val (.int p3), .val (.int p4), .val (.int p5), .val (.long x7), .second, .val (.ref b1), .val (.ref b50), .unset, .unset, .unset, .unset, .unset, .unset, .unset, .unset, .unset] []) := by
    intro T locs cells slots X hcl hsl h eT N x7 b1 b50 s2_102 a2_102 ss c1 o1 sl al NN K fc0 fc1 fc2 fc3 fc4 fc5 fc6 fc7 fc8 g_b1 g_b50 g_s2_102 g_a2_102 sz_b1 sz_b50 sz_s2_102 sz_a2_102 ne_b1_b50 ne_b1_s2_102 ne_b50_s2_102 ne_b1_a2_102 ne_b50_a2_102 ne_s2_102_a2_102 hA hS h7
    have Zh : n0 ≤ h.size := Nat.le_trans Z0 K.1
    have ix25 : 0 ≤ ((9 : Int32)).toInt ∧ ((9 : Int32)).toInt < ((ss).length : Int) := own_ixl hS (by decide)
    have ix26 : 0 ≤ ((0 : Int32)).toInt ∧ ((0 : Int32)).toInt < ((ss).length : Int) := own_ixl hS (by decide)
    obtain ⟨_, _, ⟨T27, L27, k27, n27⟩, -, X27, ⟨Lc27, hQ27, l27, y27, z27⟩, st27⟩ := Jvm.LawKit.callS X hx (y := (⟨"com/example/talthybius/talthybius/AwaitedPingsSentPinLaw", "alive", "(JJJ)I"⟩ : MethodName)) hown (mvT hZ (hw _ (List.mem_of_getElem? (i := 41) rfl))) (mvT hZ (hw _ (List.mem_of_getElem? (i := 42) rfl))) (mvT hZ (hw _ (List.mem_of_getElem? (i := 4) rfl))) (mvT hZ (hw _ (List.mem_of_getElem? (i := 43) rfl))) (by decide) (backOf (W := 0) (rm_aliF l Z a0 hw [] (ss.getD 9 (0 : Int64)) (ss.getD 0 (0 : Int64)) x7  h n0 Zh ) hZ (hw _ (List.mem_of_getElem? (i := 43) rfl)) (hw _ (List.mem_of_getElem? (i := 4) rfl)) (by decide) (by decide)) (g := (mkF m 285 #[.val (.long p1), .second, .val (.long p2), .second, .val (.int p3), .val (.int p4), .val (.int p5), .val (.long x7), .second, .val (.ref b1), .val (.ref b50), .val (.long (ss.getD 9 (0 : Int64))), .second, .unset, .unset, .unset, .unset, .unset, .unset, .unset] [(.long x7), (.long (ss.getD 0 (0 : Int64))), (.long (ss.getD 9 (0 : Int64)))])) rfl (by rw [hml]; rfl) (argsL := [(.long (ss.getD 9 (0 : Int64))), (.long (ss.getD 0 (0 : Int64))), (.long x7)]) (rest := []) (lenOf pd_5 rfl) rfl (by show 2 * 0 + _ ≤ _; exact Nat.le_of_eq rfl) (hb hby at_285) (fun _ _ => ⟨rfl, eT, (Nat.le_trans (Nat.add_le_add_right hcl 0) (by decide)), (Nat.le_trans (Nat.add_le_add_right hsl 0) (by decide))⟩)
    dsimp only [Pt.U, Pt.locs, Pt.cells, Pt.slots] at X27 l27 y27 z27 st27 hQ27
    subst l27 y27 z27
    obtain ⟨rfl, N27q, e27⟩ := hQ27
    have N27 := Fr.app N N27q
    have ix28 : 0 ≤ ((1 : Int32)).toInt ∧ ((1 : Int32)).toInt < ((ss).length : Int) := own_ixl hS (by decide)
    obtain ⟨_, _, ⟨T29, L29, k29, n29⟩, -, X29, ⟨Lc29, hQ29, l29, y29, z29⟩, st29⟩ := Jvm.LawKit.callS X27 hx (y := (⟨"com/example/talthybius/talthybius/AwaitedPingsSentPinLaw", "alive", "(JJJ)I"⟩ : MethodName)) hown (mvT hZ (hw _ (List.mem_of_getElem? (i := 41) rfl))) (mvT hZ (hw _ (List.mem_of_getElem? (i := 42) rfl))) (mvT hZ (hw _ (List.mem_of_getElem? (i := 4) rfl))) (mvT hZ (hw _ (List.mem_of_getElem? (i := 43) rfl))) (by decide) (backOf (W := 1) (rm_aliF l Z a0 hw [] (ss.getD 9 (0 : Int64)) (ss.getD 1 (0 : Int64)) x7  h n0 Zh ) hZ (hw _ (List.mem_of_getElem? (i := 43) rfl)) (hw _ (List.mem_of_getElem? (i := 4) rfl)) (by decide) (by decide)) (g := (mkF m 296 #[.val (.long p1), .second, .val (.long p2), .second, .val (.int p3), .val (.int p4), .val (.int p5), .val (.long x7), .second, .val (.ref b1), .val (.ref b50), .val (.long (ss.getD 9 (0 : Int64))), .second, .unset, .unset, .unset, .unset, .unset, .unset, .unset] [(.long x7), (.long (ss.getD 1 (0 : Int64))), (.long (ss.getD 9 (0 : Int64))), (.int (aliF (ss.getD 9 (0 : Int64)) (ss.getD 0 (0 : Int64)) x7))])) rfl (by rw [hml]; rfl) (argsL := [(.long (ss.getD 9 (0 : Int64))), (.long (ss.getD 1 (0 : Int64))), (.long x7)]) (rest := [(.int (aliF (ss.getD 9 (0 : Int64)) (ss.getD 0 (0 : Int64)) x7))]) (lenOf pd_5 rfl) rfl (by show 2 * 0 + _ ≤ _; exact Nat.le_of_eq rfl) (hb hby at_296) (fun _ _ => ⟨rfl, e27, (Nat.le_trans (Nat.add_le_add_right (Nat.add_le_add_right hcl 0) 0) (by decide)), (Nat.le_trans (Nat.add_le_add_right (Nat.add_le_add_right hsl 0) 0) (by decide))⟩)
    dsimp only [Pt.U, Pt.locs, Pt.cells, Pt.slots] at X29 l29 y29 z29 st29 hQ29
    subst l29 y29 z29
    obtain ⟨rfl, N29q, e29⟩ := hQ29
    have N29 := Fr.app N27 N29q
    have ix30 : 0 ≤ ((2 : Int32)).toInt ∧ ((2 : Int32)).toInt < ((ss).length : Int) := own_ixl hS (by decide)
    obtain ⟨_, _, ⟨T31, L31, k31, n31⟩, -, X31, ⟨Lc31, hQ31, l31, y31, z31⟩, st31⟩ := Jvm.LawKit.callS X29 hx (y := (⟨"com/example/talthybius/talthybius/AwaitedPingsSentPinLaw", "alive", "(JJJ)I"⟩ : MethodName)) hown (mvT hZ (hw _ (List.mem_of_getElem? (i := 41) rfl))) (mvT hZ (hw _ (List.mem_of_getElem? (i := 42) rfl))) (mvT hZ (hw _ (List.mem_of_getElem? (i := 4) rfl))) (mvT hZ (hw _ (List.mem_of_getElem? (i := 43) rfl))) (by decide) (backOf (W := 1) (rm_aliF l Z a0 hw [] (ss.getD 9 (0 : Int64)) (ss.getD 2 (0 : Int64)) x7  h n0 Zh ) hZ (hw _ (List.mem_of_getElem? (i := 43) rfl)) (hw _ (List.mem_of_getElem? (i := 4) rfl)) (by decide) (by decide)) (g := (mkF m 308 #[.val (.long p1), .second, .val (.long p2), .second, .val (.int p3), .val (.int p4), .val (.int p5), .val (.long x7), .second, .val (.ref b1), .val (.ref b50), .val (.long (ss.getD 9 (0 : Int64))), .second, .unset, .unset, .unset, .unset, .unset, .unset, .unset] [(.long x7), (.long (ss.getD 2 (0 : Int64))), (.long (ss.getD 9 (0 : Int64))), (.int ((aliF (ss.getD 9 (0 : Int64)) (ss.getD 0 (0 : Int64)) x7) + (aliF (ss.getD 9 (0 : Int64)) (ss.getD 1 (0 : Int64)) x7)))])) rfl (by rw [hml]; rfl) (argsL := [(.long (ss.getD 9 (0 : Int64))), (.long (ss.getD 2 (0 : Int64))), (.long x7)]) (rest := [(.int ((aliF (ss.getD 9 (0 : Int64)) (ss.getD 0 (0 : Int64)) x7) + (aliF (ss.getD 9 (0 : Int64)) (ss.getD 1 (0 : Int64)) x7)))]) (lenOf pd_5 rfl) rfl (by show 2 * 0 + _ ≤ _; exact Nat.le_of_eq rfl) (hb hby at_308) (fun _ _ => ⟨rfl, e29, (Nat.le_trans (Nat.add_le_add_right (Nat.add_le_add_right (Nat.add_le_add_right hcl 0) 0) 0) (by decide)), (Nat.le_trans (Nat.add_le_add_right (Nat.add_le_add_right (Nat.add_le_add_right hsl 0) 0) 0) (by decide))⟩)
    dsimp only [Pt.U, Pt.locs, Pt.cells, Pt.slots] at X31 l31 y31 z31 st31 hQ31
    subst l31 y31 z31
    obtain ⟨rfl, N31q, e31⟩ := hQ31
    have N31 := Fr.app N29 N31q
    have ix32 : 0 ≤ ((3 : Int32)).toInt ∧ ((3 : Int32)).toInt < ((ss).length : Int) := own_ixl hS (by decide)
    obtain ⟨_, _, ⟨T33, L33, k33, n33⟩, -, X33, ⟨Lc33, hQ33, l33, y33, z33⟩, st33⟩ := Jvm.LawKit.callS X31 hx (y := (⟨"com/example/talthybius/talthybius/AwaitedPingsSentPinLaw", "alive", "(JJJ)I"⟩ : MethodName)) hown (mvT hZ (hw _ (List.mem_of_getElem? (i := 41) rfl))) (mvT hZ (hw _ (List.mem_of_getElem? (i := 42) rfl))) (mvT hZ (hw _ (List.mem_of_getElem? (i := 4) rfl))) (mvT hZ (hw _ (List.mem_of_getElem? (i := 43) rfl))) (by decide) (backOf (W := 1) (rm_aliF l Z a0 hw [] (ss.getD 9 (0 : Int64)) (ss.getD 3 (0 : Int64)) x7  h n0 Zh ) hZ (hw _ (List.mem_of_getElem? (i := 43) rfl)) (hw _ (List.mem_of_getElem? (i := 4) rfl)) (by decide) (by decide)) (g := (mkF m 320 #[.val (.long p1), .second, .val (.long p2), .second, .val (.int p3), .val (.int p4), .val (.int p5), .val (.long x7), .second, .val (.ref b1), .val (.ref b50), .val (.long (ss.getD 9 (0 : Int64))), .second, .unset, .unset, .unset, .unset, .unset, .unset, .unset] [(.long x7), (.long (ss.getD 3 (0 : Int64))), (.long (ss.getD 9 (0 : Int64))), (.int (((aliF (ss.getD 9 (0 : Int64)) (ss.getD 0 (0 : Int64)) x7) + (aliF (ss.getD 9 (0 : Int64)) (ss.getD 1 (0 : Int64)) x7)) + (aliF (ss.getD 9 (0 : Int64)) (ss.getD 2 (0 : Int64)) x7)))])) rfl (by rw [hml]; rfl) (argsL := [(.long (ss.getD 9 (0 : Int64))), (.long (ss.getD 3 (0 : Int64))), (.long x7)]) (rest := [(.int (((aliF (ss.getD 9 (0 : Int64)) (ss.getD 0 (0 : Int64)) x7) + (aliF (ss.getD 9 (0 : Int64)) (ss.getD 1 (0 : Int64)) x7)) + (aliF (ss.getD 9 (0 : Int64)) (ss.getD 2 (0 : Int64)) x7)))]) (lenOf pd_5 rfl) rfl (by show 2 * 0 + _ ≤ _; exact Nat.le_of_eq rfl) (hb hby at_320) (fun _ _ => ⟨rfl, e31, (Nat.le_trans (Nat.add_le_add_right (Nat.add_le_add_right (Nat.add_le_add_right (Nat.add_le_add_right hcl 0) 0) 0) 0) (by decide)), (Nat.le_trans (Nat.add_le_add_right (Nat.add_le_add_right (Nat.add_le_add_right (Nat.add_le_add_right hsl 0) 0) 0) 0) (by decide))⟩)
    dsimp only [Pt.U, Pt.locs, Pt.cells, Pt.slots] at X33 l33 y33 z33 st33 hQ33
    subst l33 y33 z33
    obtain ⟨rfl, N33q, e33⟩ := hQ33
    have N33 := Fr.app N31 N33q
    have ix34 : 0 ≤ ((4 : Int32)).toInt ∧ ((4 : Int32)).toInt < ((ss).length : Int) := own_ixl hS (by decide)
    obtain ⟨_, _, ⟨T35, L35, k35, n35⟩, -, X35, ⟨Lc35, hQ35, l35, y35, z35⟩, st35⟩ := Jvm.LawKit.callS X33 hx (y := (⟨"com/example/talthybius/talthybius/AwaitedPingsSentPinLaw", "alive", "(JJJ)I"⟩ : MethodName)) hown (mvT hZ (hw _ (List.mem_of_getElem? (i := 41) rfl))) (mvT hZ (hw _ (List.mem_of_getElem? (i := 42) rfl))) (mvT hZ (hw _ (List.mem_of_getElem? (i := 4) rfl))) (mvT hZ (hw _ (List.mem_of_getElem? (i := 43) rfl))) (by decide) (backOf (W := 1) (rm_aliF l Z a0 hw [] (ss.getD 9 (0 : Int64)) (ss.getD 4 (0 : Int64)) x7  h n0 Zh ) hZ (hw _ (List.mem_of_getElem? (i := 43) rfl)) (hw _ (List.mem_of_getElem? (i := 4) rfl)) (by decide) (by decide)) (g := (mkF m 332 #[.val (.long p1), .second, .val (.long p2), .second, .val (.int p3), .val (.int p4), .val (.int p5), .val (.long x7), .second, .val (.ref b1), .val (.ref b50), .val (.long (ss.getD 9 (0 : Int64))), .second, .unset, .unset, .unset, .unset, .unset, .unset, .unset] [(.long x7), (.long (ss.getD 4 (0 : Int64))), (.long (ss.getD 9 (0 : Int64))), (.int ((((aliF (ss.getD 9 (0 : Int64)) (ss.getD 0 (0 : Int64)) x7) + (aliF (ss.getD 9 (0 : Int64)) (ss.getD 1 (0 : Int64)) x7)) + (aliF (ss.getD 9 (0 : Int64)) (ss.getD 2 (0 : Int64)) x7)) + (aliF (ss.getD 9 (0 : Int64)) (ss.getD 3 (0 : Int64)) x7)))])) rfl (by rw [hml]; rfl) (argsL := [(.long (ss.getD 9 (0 : Int64))), (.long (ss.getD 4 (0 : Int64))), (.long x7)]) (rest := [(.int ((((aliF (ss.getD 9 (0 : Int64)) (ss.getD 0 (0 : Int64)) x7) + (aliF (ss.getD 9 (0 : Int64)) (ss.getD 1 (0 : Int64)) x7)) + (aliF (ss.getD 9 (0 : Int64)) (ss.getD 2 (0 : Int64)) x7)) + (aliF (ss.getD 9 (0 : Int64)) (ss.getD 3 (0 : Int64)) x7)))]) (lenOf pd_5 rfl) rfl (by show 2 * 0 + _ ≤ _; exact Nat.le_of_eq rfl) (hb hby at_332) (fun _ _ => ⟨rfl, e33, (Nat.le_trans (Nat.add_le_add_right (Nat.add_le_add_right (Nat.add_le_add_right (Nat.add_le_add_right (Nat.add_le_add_right hcl 0) 0) 0) 0) 0) (by decide)), (Nat.le_trans (Nat.add_le_add_right (Nat.add_le_add_right (Nat.add_le_add_right (Nat.add_le_add_right (Nat.add_le_add_right hsl 0) 0) 0) 0) 0) (by decide))⟩)
    dsimp only [Pt.U, Pt.locs, Pt.cells, Pt.slots] at X35 l35 y35 z35 st35 hQ35
    subst l35 y35 z35
    obtain ⟨rfl, N35q, e35⟩ := hQ35
    have N35 := Fr.app N33 N35q
    have ix36 : 0 ≤ ((5 : Int32)).toInt ∧ ((5 : Int32)).toInt < ((ss).length : Int) := own_ixl hS (by decide)
    obtain ⟨_, _, ⟨T37, L37, k37, n37⟩, -, X37, ⟨Lc37, hQ37, l37, y37, z37⟩, st37⟩ := Jvm.LawKit.callS X35 hx (y := (⟨"com/example/talthybius/talthybius/AwaitedPingsSentPinLaw", "alive", "(JJJ)I"⟩ : MethodName)) hown (mvT hZ (hw _ (List.mem_of_getElem? (i := 41) rfl))) (mvT hZ (hw _ (List.mem_of_getElem? (i := 42) rfl))) (mvT hZ (hw _ (List.mem_of_getElem? (i := 4) rfl))) (mvT hZ (hw _ (List.mem_of_getElem? (i := 43) rfl))) (by decide) (backOf (W := 1) (rm_aliF l Z a0 hw [] (ss.getD 9 (0 : Int64)) (ss.getD 5 (0 : Int64)) x7  h n0 Zh ) hZ (hw _ (List.mem_of_getElem? (i := 43) rfl)) (hw _ (List.mem_of_getElem? (i := 4) rfl)) (by decide) (by decide)) (g := (mkF m 344 #[.val (.long p1), .second, .val (.long p2), .second, .val (.int p3), .val (.int p4), .val (.int p5), .val (.long x7), .second, .val (.ref b1), .val (.ref b50), .val (.long (ss.getD 9 (0 : Int64))), .second, .unset, .unset, .unset, .unset, .unset, .unset, .unset] [(.long x7), (.long (ss.getD 5 (0 : Int64))), (.long (ss.getD 9 (0 : Int64))), (.int (((((aliF (ss.getD 9 (0 : Int64)) (ss.getD 0 (0 : Int64)) x7) + (aliF (ss.getD 9 (0 : Int64)) (ss.getD 1 (0 : Int64)) x7)) + (aliF (ss.getD 9 (0 : Int64)) (ss.getD 2 (0 : Int64)) x7)) + (aliF (ss.getD 9 (0 : Int64)) (ss.getD 3 (0 : Int64)) x7)) + (aliF (ss.getD 9 (0 : Int64)) (ss.getD 4 (0 : Int64)) x7)))])) rfl (by rw [hml]; rfl) (argsL := [(.long (ss.getD 9 (0 : Int64))), (.long (ss.getD 5 (0 : Int64))), (.long x7)]) (rest := [(.int (((((aliF (ss.getD 9 (0 : Int64)) (ss.getD 0 (0 : Int64)) x7) + (aliF (ss.getD 9 (0 : Int64)) (ss.getD 1 (0 : Int64)) x7)) + (aliF (ss.getD 9 (0 : Int64)) (ss.getD 2 (0 : Int64)) x7)) + (aliF (ss.getD 9 (0 : Int64)) (ss.getD 3 (0 : Int64)) x7)) + (aliF (ss.getD 9 (0 : Int64)) (ss.getD 4 (0 : Int64)) x7)))]) (lenOf pd_5 rfl) rfl (by show 2 * 0 + _ ≤ _; exact Nat.le_of_eq rfl) (hb hby at_344) (fun _ _ => ⟨rfl, e35, (Nat.le_trans (Nat.add_le_add_right (Nat.add_le_add_right (Nat.add_le_add_right (Nat.add_le_add_right (Nat.add_le_add_right (Nat.add_le_add_right hcl 0) 0) 0) 0) 0) 0) (by decide)), (Nat.le_trans (Nat.add_le_add_right (Nat.add_le_add_right (Nat.add_le_add_right (Nat.add_le_add_right (Nat.add_le_add_right (Nat.add_le_add_right hsl 0) 0) 0) 0) 0) 0) (by decide))⟩)
    dsimp only [Pt.U, Pt.locs, Pt.cells, Pt.slots] at X37 l37 y37 z37 st37 hQ37
    subst l37 y37 z37
    obtain ⟨rfl, N37q, e37⟩ := hQ37
    have N37 := Fr.app N35 N37q
    have ix38 : 0 ≤ ((6 : Int32)).toInt ∧ ((6 : Int32)).toInt < ((ss).length : Int) := own_ixl hS (by decide)
    obtain ⟨_, _, ⟨T39, L39, k39, n39⟩, -, X39, ⟨Lc39, hQ39, l39, y39, z39⟩, st39⟩ := Jvm.LawKit.callS X37 hx (y := (⟨"com/example/talthybius/talthybius/AwaitedPingsSentPinLaw", "alive", "(JJJ)I"⟩ : MethodName)) hown (mvT hZ (hw _ (List.mem_of_getElem? (i := 41) rfl))) (mvT hZ (hw _ (List.mem_of_getElem? (i := 42) rfl))) (mvT hZ (hw _ (List.mem_of_getElem? (i := 4) rfl))) (mvT hZ (hw _ (List.mem_of_getElem? (i := 43) rfl))) (by decide) (backOf (W := 1) (rm_aliF l Z a0 hw [] (ss.getD 9 (0 : Int64)) (ss.getD 6 (0 : Int64)) x7  h n0 Zh ) hZ (hw _ (List.mem_of_getElem? (i := 43) rfl)) (hw _ (List.mem_of_getElem? (i := 4) rfl)) (by decide) (by decide)) (g := (mkF m 357 #[.val (.long p1), .second, .val (.long p2), .second, .val (.int p3), .val (.int p4), .val (.int p5), .val (.long x7), .second, .val (.ref b1), .val (.ref b50), .val (.long (ss.getD 9 (0 : Int64))), .second, .unset, .unset, .unset, .unset, .unset, .unset, .unset] [(.long x7), (.long (ss.getD 6 (0 : Int64))), (.long (ss.getD 9 (0 : Int64))), (.int ((((((aliF (ss.getD 9 (0 : Int64)) (ss.getD 0 (0 : Int64)) x7) + (aliF (ss.getD 9 (0 : Int64)) (ss.getD 1 (0 : Int64)) x7)) + (aliF (ss.getD 9 (0 : Int64)) (ss.getD 2 (0 : Int64)) x7)) + (aliF (ss.getD 9 (0 : Int64)) (ss.getD 3 (0 : Int64)) x7)) + (aliF (ss.getD 9 (0 : Int64)) (ss.getD 4 (0 : Int64)) x7)) + (aliF (ss.getD 9 (0 : Int64)) (ss.getD 5 (0 : Int64)) x7)))])) rfl (by rw [hml]; rfl) (argsL := [(.long (ss.getD 9 (0 : Int64))), (.long (ss.getD 6 (0 : Int64))), (.long x7)]) (rest := [(.int ((((((aliF (ss.getD 9 (0 : Int64)) (ss.getD 0 (0 : Int64)) x7) + (aliF (ss.getD 9 (0 : Int64)) (ss.getD 1 (0 : Int64)) x7)) + (aliF (ss.getD 9 (0 : Int64)) (ss.getD 2 (0 : Int64)) x7)) + (aliF (ss.getD 9 (0 : Int64)) (ss.getD 3 (0 : Int64)) x7)) + (aliF (ss.getD 9 (0 : Int64)) (ss.getD 4 (0 : Int64)) x7)) + (aliF (ss.getD 9 (0 : Int64)) (ss.getD 5 (0 : Int64)) x7)))]) (lenOf pd_5 rfl) rfl (by show 2 * 0 + _ ≤ _; exact Nat.le_of_eq rfl) (hb hby at_357) (fun _ _ => ⟨rfl, e37, (Nat.le_trans (Nat.add_le_add_right (Nat.add_le_add_right (Nat.add_le_add_right (Nat.add_le_add_right (Nat.add_le_add_right (Nat.add_le_add_right (Nat.add_le_add_right hcl 0) 0) 0) 0) 0) 0) 0) (by decide)), (Nat.le_trans (Nat.add_le_add_right (Nat.add_le_add_right (Nat.add_le_add_right (Nat.add_le_add_right (Nat.add_le_add_right (Nat.add_le_add_right (Nat.add_le_add_right hsl 0) 0) 0) 0) 0) 0) 0) (by decide))⟩)
    dsimp only [Pt.U, Pt.locs, Pt.cells, Pt.slots] at X39 l39 y39 z39 st39 hQ39
    subst l39 y39 z39
    obtain ⟨rfl, N39q, e39⟩ := hQ39
    have N39 := Fr.app N37 N39q
    have ix40 : 0 ≤ ((7 : Int32)).toInt ∧ ((7 : Int32)).toInt < ((ss).length : Int) := own_ixl hS (by decide)
    obtain ⟨_, _, ⟨T41, L41, k41, n41⟩, -, X41, ⟨Lc41, hQ41, l41, y41, z41⟩, st41⟩ := Jvm.LawKit.callS X39 hx (y := (⟨"com/example/talthybius/talthybius/AwaitedPingsSentPinLaw", "alive", "(JJJ)I"⟩ : MethodName)) hown (mvT hZ (hw _ (List.mem_of_getElem? (i := 41) rfl))) (mvT hZ (hw _ (List.mem_of_getElem? (i := 42) rfl))) (mvT hZ (hw _ (List.mem_of_getElem? (i := 4) rfl))) (mvT hZ (hw _ (List.mem_of_getElem? (i := 43) rfl))) (by decide) (backOf (W := 1) (rm_aliF l Z a0 hw [] (ss.getD 9 (0 : Int64)) (ss.getD 7 (0 : Int64)) x7  h n0 Zh ) hZ (hw _ (List.mem_of_getElem? (i := 43) rfl)) (hw _ (List.mem_of_getElem? (i := 4) rfl)) (by decide) (by decide)) (g := (mkF m 370 #[.val (.long p1), .second, .val (.long p2), .second, .val (.int p3), .val (.int p4), .val (.int p5), .val (.long x7), .second, .val (.ref b1), .val (.ref b50), .val (.long (ss.getD 9 (0 : Int64))), .second, .unset, .unset, .unset, .unset, .unset, .unset, .unset] [(.long x7), (.long (ss.getD 7 (0 : Int64))), (.long (ss.getD 9 (0 : Int64))), (.int (((((((aliF (ss.getD 9 (0 : Int64)) (ss.getD 0 (0 : Int64)) x7) + (aliF (ss.getD 9 (0 : Int64)) (ss.getD 1 (0 : Int64)) x7)) + (aliF (ss.getD 9 (0 : Int64)) (ss.getD 2 (0 : Int64)) x7)) + (aliF (ss.getD 9 (0 : Int64)) (ss.getD 3 (0 : Int64)) x7)) + (aliF (ss.getD 9 (0 : Int64)) (ss.getD 4 (0 : Int64)) x7)) + (aliF (ss.getD 9 (0 : Int64)) (ss.getD 5 (0 : Int64)) x7)) + (aliF (ss.getD 9 (0 : Int64)) (ss.getD 6 (0 : Int64)) x7)))])) rfl (by rw [hml]; rfl) (argsL := [(.long (ss.getD 9 (0 : Int64))), (.long (ss.getD 7 (0 : Int64))), (.long x7)]) (rest := [(.int (((((((aliF (ss.getD 9 (0 : Int64)) (ss.getD 0 (0 : Int64)) x7) + (aliF (ss.getD 9 (0 : Int64)) (ss.getD 1 (0 : Int64)) x7)) + (aliF (ss.getD 9 (0 : Int64)) (ss.getD 2 (0 : Int64)) x7)) + (aliF (ss.getD 9 (0 : Int64)) (ss.getD 3 (0 : Int64)) x7)) + (aliF (ss.getD 9 (0 : Int64)) (ss.getD 4 (0 : Int64)) x7)) + (aliF (ss.getD 9 (0 : Int64)) (ss.getD 5 (0 : Int64)) x7)) + (aliF (ss.getD 9 (0 : Int64)) (ss.getD 6 (0 : Int64)) x7)))]) (lenOf pd_5 rfl) rfl (by show 2 * 0 + _ ≤ _; exact Nat.le_of_eq rfl) (hb hby at_370) (fun _ _ => ⟨rfl, e39, (Nat.le_trans (Nat.add_le_add_right (Nat.add_le_add_right (Nat.add_le_add_right (Nat.add_le_add_right (Nat.add_le_add_right (Nat.add_le_add_right (Nat.add_le_add_right (Nat.add_le_add_right hcl 0) 0) 0) 0) 0) 0) 0) 0) (by decide)), (Nat.le_trans (Nat.add_le_add_right (Nat.add_le_add_right (Nat.add_le_add_right (Nat.add_le_add_right (Nat.add_le_add_right (Nat.add_le_add_right (Nat.add_le_add_right (Nat.add_le_add_right hsl 0) 0) 0) 0) 0) 0) 0) 0) (by decide))⟩)
    dsimp only [Pt.U, Pt.locs, Pt.cells, Pt.slots] at X41 l41 y41 z41 st41 hQ41
    subst l41 y41 z41
    obtain ⟨rfl, N41q, e41⟩ := hQ41
    have N41 := Fr.app N39 N41q
    have ix42 : 0 ≤ ((8 : Int32)).toInt ∧ ((8 : Int32)).toInt < ((ss).length : Int) := own_ixl hS (by decide)
    obtain ⟨_, _, ⟨T43, L43, k43, n43⟩, -, X43, ⟨Lc43, hQ43, l43, y43, z43⟩, st43⟩ := Jvm.LawKit.callS X41 hx (y := (⟨"com/example/talthybius/talthybius/AwaitedPingsSentPinLaw", "alive", "(JJJ)I"⟩ : MethodName)) hown (mvT hZ (hw _ (List.mem_of_getElem? (i := 41) rfl))) (mvT hZ (hw _ (List.mem_of_getElem? (i := 42) rfl))) (mvT hZ (hw _ (List.mem_of_getElem? (i := 4) rfl))) (mvT hZ (hw _ (List.mem_of_getElem? (i := 43) rfl))) (by decide) (backOf (W := 1) (rm_aliF l Z a0 hw [] (ss.getD 9 (0 : Int64)) (ss.getD 8 (0 : Int64)) x7  h n0 Zh ) hZ (hw _ (List.mem_of_getElem? (i := 43) rfl)) (hw _ (List.mem_of_getElem? (i := 4) rfl)) (by decide) (by decide)) (g := (mkF m 383 #[.val (.long p1), .second, .val (.long p2), .second, .val (.int p3), .val (.int p4), .val (.int p5), .val (.long x7), .second, .val (.ref b1), .val (.ref b50), .val (.long (ss.getD 9 (0 : Int64))), .second, .unset, .unset, .unset, .unset, .unset, .unset, .unset] [(.long x7), (.long (ss.getD 8 (0 : Int64))), (.long (ss.getD 9 (0 : Int64))), (.int ((((((((aliF (ss.getD 9 (0 : Int64)) (ss.getD 0 (0 : Int64)) x7) + (aliF (ss.getD 9 (0 : Int64)) (ss.getD 1 (0 : Int64)) x7)) + (aliF (ss.getD 9 (0 : Int64)) (ss.getD 2 (0 : Int64)) x7)) + (aliF (ss.getD 9 (0 : Int64)) (ss.getD 3 (0 : Int64)) x7)) + (aliF (ss.getD 9 (0 : Int64)) (ss.getD 4 (0 : Int64)) x7)) + (aliF (ss.getD 9 (0 : Int64)) (ss.getD 5 (0 : Int64)) x7)) + (aliF (ss.getD 9 (0 : Int64)) (ss.getD 6 (0 : Int64)) x7)) + (aliF (ss.getD 9 (0 : Int64)) (ss.getD 7 (0 : Int64)) x7)))])) rfl (by rw [hml]; rfl) (argsL := [(.long (ss.getD 9 (0 : Int64))), (.long (ss.getD 8 (0 : Int64))), (.long x7)]) (rest := [(.int ((((((((aliF (ss.getD 9 (0 : Int64)) (ss.getD 0 (0 : Int64)) x7) + (aliF (ss.getD 9 (0 : Int64)) (ss.getD 1 (0 : Int64)) x7)) + (aliF (ss.getD 9 (0 : Int64)) (ss.getD 2 (0 : Int64)) x7)) + (aliF (ss.getD 9 (0 : Int64)) (ss.getD 3 (0 : Int64)) x7)) + (aliF (ss.getD 9 (0 : Int64)) (ss.getD 4 (0 : Int64)) x7)) + (aliF (ss.getD 9 (0 : Int64)) (ss.getD 5 (0 : Int64)) x7)) + (aliF (ss.getD 9 (0 : Int64)) (ss.getD 6 (0 : Int64)) x7)) + (aliF (ss.getD 9 (0 : Int64)) (ss.getD 7 (0 : Int64)) x7)))]) (lenOf pd_5 rfl) rfl (by show 2 * 0 + _ ≤ _; exact Nat.le_of_eq rfl) (hb hby at_383) (fun _ _ => ⟨rfl, e41, (Nat.le_trans (Nat.add_le_add_right (Nat.add_le_add_right (Nat.add_le_add_right (Nat.add_le_add_right (Nat.add_le_add_right (Nat.add_le_add_right (Nat.add_le_add_right (Nat.add_le_add_right (Nat.add_le_add_right hcl 0) 0) 0) 0) 0) 0) 0) 0) 0) (by decide)), (Nat.le_trans (Nat.add_le_add_right (Nat.add_le_add_right (Nat.add_le_add_right (Nat.add_le_add_right (Nat.add_le_add_right (Nat.add_le_add_right (Nat.add_le_add_right (Nat.add_le_add_right (Nat.add_le_add_right hsl 0) 0) 0) 0) 0) 0) 0) 0) 0) (by decide))⟩)
    dsimp only [Pt.U, Pt.locs, Pt.cells, Pt.slots] at X43 l43 y43 z43 st43 hQ43
    subst l43 y43 z43
    obtain ⟨rfl, N43q, e43⟩ := hQ43
    have N43 := Fr.app N41 N43q
    have ix44 : 0 ≤ ((9 : Int32)).toInt ∧ ((9 : Int32)).toInt < ((ss).length : Int) := own_ixl hS (by decide)
    obtain ⟨_, _, ⟨T45, L45, k45, n45⟩, -, X45, ⟨Lc45, hQ45, l45, y45, z45⟩, st45⟩ := Jvm.LawKit.callS X43 hx (y := (⟨"com/example/talthybius/talthybius/AwaitedPingsSentPinLaw", "alive", "(JJJ)I"⟩ : MethodName)) hown (mvT hZ (hw _ (List.mem_of_getElem? (i := 41) rfl))) (mvT hZ (hw _ (List.mem_of_getElem? (i := 42) rfl))) (mvT hZ (hw _ (List.mem_of_getElem? (i := 4) rfl))) (mvT hZ (hw _ (List.mem_of_getElem? (i := 43) rfl))) (by decide) (backOf (W := 1) (rm_aliF l Z a0 hw [] (ss.getD 9 (0 : Int64)) (ss.getD 9 (0 : Int64)) x7  h n0 Zh ) hZ (hw _ (List.mem_of_getElem? (i := 43) rfl)) (hw _ (List.mem_of_getElem? (i := 4) rfl)) (by decide) (by decide)) (g := (mkF m 396 #[.val (.long p1), .second, .val (.long p2), .second, .val (.int p3), .val (.int p4), .val (.int p5), .val (.long x7), .second, .val (.ref b1), .val (.ref b50), .val (.long (ss.getD 9 (0 : Int64))), .second, .unset, .unset, .unset, .unset, .unset, .unset, .unset] [(.long x7), (.long (ss.getD 9 (0 : Int64))), (.long (ss.getD 9 (0 : Int64))), (.int (((((((((aliF (ss.getD 9 (0 : Int64)) (ss.getD 0 (0 : Int64)) x7) + (aliF (ss.getD 9 (0 : Int64)) (ss.getD 1 (0 : Int64)) x7)) + (aliF (ss.getD 9 (0 : Int64)) (ss.getD 2 (0 : Int64)) x7)) + (aliF (ss.getD 9 (0 : Int64)) (ss.getD 3 (0 : Int64)) x7)) + (aliF (ss.getD 9 (0 : Int64)) (ss.getD 4 (0 : Int64)) x7)) + (aliF (ss.getD 9 (0 : Int64)) (ss.getD 5 (0 : Int64)) x7)) + (aliF (ss.getD 9 (0 : Int64)) (ss.getD 6 (0 : Int64)) x7)) + (aliF (ss.getD 9 (0 : Int64)) (ss.getD 7 (0 : Int64)) x7)) + (aliF (ss.getD 9 (0 : Int64)) (ss.getD 8 (0 : Int64)) x7)))])) rfl (by rw [hml]; rfl) (argsL := [(.long (ss.getD 9 (0 : Int64))), (.long (ss.getD 9 (0 : Int64))), (.long x7)]) (rest := [(.int (((((((((aliF (ss.getD 9 (0 : Int64)) (ss.getD 0 (0 : Int64)) x7) + (aliF (ss.getD 9 (0 : Int64)) (ss.getD 1 (0 : Int64)) x7)) + (aliF (ss.getD 9 (0 : Int64)) (ss.getD 2 (0 : Int64)) x7)) + (aliF (ss.getD 9 (0 : Int64)) (ss.getD 3 (0 : Int64)) x7)) + (aliF (ss.getD 9 (0 : Int64)) (ss.getD 4 (0 : Int64)) x7)) + (aliF (ss.getD 9 (0 : Int64)) (ss.getD 5 (0 : Int64)) x7)) + (aliF (ss.getD 9 (0 : Int64)) (ss.getD 6 (0 : Int64)) x7)) + (aliF (ss.getD 9 (0 : Int64)) (ss.getD 7 (0 : Int64)) x7)) + (aliF (ss.getD 9 (0 : Int64)) (ss.getD 8 (0 : Int64)) x7)))]) (lenOf pd_5 rfl) rfl (by show 2 * 0 + _ ≤ _; exact Nat.le_of_eq rfl) (hb hby at_396) (fun _ _ => ⟨rfl, e43, (Nat.le_trans (Nat.add_le_add_right (Nat.add_le_add_right (Nat.add_le_add_right (Nat.add_le_add_right (Nat.add_le_add_right (Nat.add_le_add_right (Nat.add_le_add_right (Nat.add_le_add_right (Nat.add_le_add_right (Nat.add_le_add_right hcl 0) 0) 0) 0) 0) 0) 0) 0) 0) 0) (by decide)), (Nat.le_trans (Nat.add_le_add_right (Nat.add_le_add_right (Nat.add_le_add_right (Nat.add_le_add_right (Nat.add_le_add_right (Nat.add_le_add_right (Nat.add_le_add_right (Nat.add_le_add_right (Nat.add_le_add_right (Nat.add_le_add_right hsl 0) 0) 0) 0) 0) 0) 0) 0) 0) 0) (by decide))⟩)
    dsimp only [Pt.U, Pt.locs, Pt.cells, Pt.slots] at X45 l45 y45 z45 st45 hQ45
    subst l45 y45 z45
    obtain ⟨rfl, N45q, e45⟩ := hQ45
    have N45 := Fr.app N43 N45q
    refine Go.step (T' := T45) (f' := (mkF m 434 #[.val (.long p1), .second, .val (.long p2), .second, .val (.int p3), .val (.int p4), .val (.int p5), .val (.long x7), .second, .val (.ref b1), .val (.ref b50), .val (.long (ss.getD 9 (0 : Int64))), .second, .val (.int ((((((((((aliF (ss.getD 9 (0 : Int64)) (ss.getD 0 (0 : Int64)) x7) + (aliF (ss.getD 9 (0 : Int64)) (ss.getD 1 (0 : Int64)) x7)) + (aliF (ss.getD 9 (0 : Int64)) (ss.getD 2 (0 : Int64)) x7)) + (aliF (ss.getD 9 (0 : Int64)) (ss.getD 3 (0 : Int64)) x7)) + (aliF (ss.getD 9 (0 : Int64)) (ss.getD 4 (0 : Int64)) x7)) + (aliF (ss.getD 9 (0 : Int64)) (ss.getD 5 (0 : Int64)) x7)) + (aliF (ss.getD 9 (0 : Int64)) (ss.getD 6 (0 : Int64)) x7)) + (aliF (ss.getD 9 (0 : Int64)) (ss.getD 7 (0 : Int64)) x7)) + (aliF (ss.getD 9 (0 : Int64)) (ss.getD 8 (0 : Int64)) x7)) + (aliF (ss.getD 9 (0 : Int64)) (ss.getD 9 (0 : Int64)) x7))), .val (.int (p5 &&& (2147483647 : Int32))), .val (.int ((p5 &&& (2147483647 : Int32)) % (10 : Int32))), .val (.int (((((p5 &&& (2147483647 : Int32)) % (10 : Int32)) + (1 : Int32)) + (((p5 &&& (2147483647 : Int32)) / (10 : Int32)) % (9 : Int32))) % (10 : Int32))), .unset, .unset, .unset] [])) (fun t kt => ?_) ?_
    · show Steps p.tables e below (T.setTop (mkF m 270 #[.val (.long p1), .second, .val (.long p2), .second, .val (.int p3), .val (.int p4), .val (.int p5), .val (.long x7), .second, .val (.ref b1), .val (.ref b50), .unset, .unset, .unset, .unset, .unset, .unset, .unset, .unset, .unset] [])) _
      refine XS.aload X.here hx rfl (hb hby at_270) rfl rfl ?_
      show Steps p.tables e below (T.setTop (mkF m 272 #[.val (.long p1), .second, .val (.long p2), .second, .val (.int p3), .val (.int p4), .val (.int p5), .val (.long x7), .second, .val (.ref b1), .val (.ref b50), .unset, .unset, .unset, .unset, .unset, .unset, .unset, .unset, .unset] [(.ref b1)])) _
      refine XS.bipush X.here hx rfl (hb hby at_272) ?_
      show Steps p.tables e below (T.setTop (mkF m 274 #[.val (.long p1), .second, .val (.long p2), .second, .val (.int p3), .val (.int p4), .val (.int p5), .val (.long x7), .second, .val (.ref b1), .val (.ref b50), .unset, .unset, .unset, .unset, .unset, .unset, .unset, .unset, .unset] [(.int (9 : Int32)), (.ref b1)])) _
      refine ldJ X hx hZ eT fc0 ix25.1 ix25.2 (g := (mkF m 274 #[.val (.long p1), .second, .val (.long p2), .second, .val (.int p3), .val (.int p4), .val (.int p5), .val (.long x7), .second, .val (.ref b1), .val (.ref b50), .unset, .unset, .unset, .unset, .unset, .unset, .unset, .unset, .unset] [(.int (9 : Int32)), (.ref b1)])) rfl rfl (hb hby at_274) _ ?_
      show Steps p.tables e below (T.setTop (mkF m 275 #[.val (.long p1), .second, .val (.long p2), .second, .val (.int p3), .val (.int p4), .val (.int p5), .val (.long x7), .second, .val (.ref b1), .val (.ref b50), .unset, .unset, .unset, .unset, .unset, .unset, .unset, .unset, .unset] [(.long (ss.getD 9 (0 : Int64)))])) _
      refine XS.lstore X.here hx rfl (hb hby at_275) rfl (l' := #[.val (.long p1), .second, .val (.long p2), .second, .val (.int p3), .val (.int p4), .val (.int p5), .val (.long x7), .second, .val (.ref b1), .val (.ref b50), .val (.long (ss.getD 9 (0 : Int64))), .second, .unset, .unset, .unset, .unset, .unset, .unset, .unset]) rfl ?_
      show Steps p.tables e below (T.setTop (mkF m 277 #[.val (.long p1), .second, .val (.long p2), .second, .val (.int p3), .val (.int p4), .val (.int p5), .val (.long x7), .second, .val (.ref b1), .val (.ref b50), .val (.long (ss.getD 9 (0 : Int64))), .second, .unset, .unset, .unset, .unset, .unset, .unset, .unset] [])) _
      refine XS.lload X.here hx rfl (hb hby at_277) rfl ?_
      show Steps p.tables e below (T.setTop (mkF m 279 #[.val (.long p1), .second, .val (.long p2), .second, .val (.int p3), .val (.int p4), .val (.int p5), .val (.long x7), .second, .val (.ref b1), .val (.ref b50), .val (.long (ss.getD 9 (0 : Int64))), .second, .unset, .unset, .unset, .unset, .unset, .unset, .unset] [(.long (ss.getD 9 (0 : Int64)))])) _
      refine XS.aload X.here hx rfl (hb hby at_279) rfl rfl ?_
      show Steps p.tables e below (T.setTop (mkF m 281 #[.val (.long p1), .second, .val (.long p2), .second, .val (.int p3), .val (.int p4), .val (.int p5), .val (.long x7), .second, .val (.ref b1), .val (.ref b50), .val (.long (ss.getD 9 (0 : Int64))), .second, .unset, .unset, .unset, .unset, .unset, .unset, .unset] [(.ref b1), (.long (ss.getD 9 (0 : Int64)))])) _
      refine XS.iconst X.here hx rfl (hb hby at_281) ?_
      show Steps p.tables e below (T.setTop (mkF m 282 #[.val (.long p1), .second, .val (.long p2), .second, .val (.int p3), .val (.int p4), .val (.int p5), .val (.long x7), .second, .val (.ref b1), .val (.ref b50), .val (.long (ss.getD 9 (0 : Int64))), .second, .unset, .unset, .unset, .unset, .unset, .unset, .unset] [(.int (0 : Int32)), (.ref b1), (.long (ss.getD 9 (0 : Int64)))])) _
      refine ldJ X hx hZ eT fc0 ix26.1 ix26.2 (g := (mkF m 282 #[.val (.long p1), .second, .val (.long p2), .second, .val (.int p3), .val (.int p4), .val (.int p5), .val (.long x7), .second, .val (.ref b1), .val (.ref b50), .val (.long (ss.getD 9 (0 : Int64))), .second, .unset, .unset, .unset, .unset, .unset, .unset, .unset] [(.int (0 : Int32)), (.ref b1), (.long (ss.getD 9 (0 : Int64)))])) rfl rfl (hb hby at_282) _ ?_
      show Steps p.tables e below (T.setTop (mkF m 283 #[.val (.long p1), .second, .val (.long p2), .second, .val (.int p3), .val (.int p4), .val (.int p5), .val (.long x7), .second, .val (.ref b1), .val (.ref b50), .val (.long (ss.getD 9 (0 : Int64))), .second, .unset, .unset, .unset, .unset, .unset, .unset, .unset] [(.long (ss.getD 0 (0 : Int64))), (.long (ss.getD 9 (0 : Int64)))])) _
      refine XS.lload X.here hx rfl (hb hby at_283) rfl ?_
      show Steps p.tables e below (T.setTop (mkF m 285 #[.val (.long p1), .second, .val (.long p2), .second, .val (.int p3), .val (.int p4), .val (.int p5), .val (.long x7), .second, .val (.ref b1), .val (.ref b50), .val (.long (ss.getD 9 (0 : Int64))), .second, .unset, .unset, .unset, .unset, .unset, .unset, .unset] [(.long x7), (.long (ss.getD 0 (0 : Int64))), (.long (ss.getD 9 (0 : Int64)))])) _
      refine st27 _ ?_
      show Steps p.tables e below (T27.setTop (mkF m 288 #[.val (.long p1), .second, .val (.long p2), .second, .val (.int p3), .val (.int p4), .val (.int p5), .val (.long x7), .second, .val (.ref b1), .val (.ref b50), .val (.long (ss.getD 9 (0 : Int64))), .second, .unset, .unset, .unset, .unset, .unset, .unset, .unset] [(.int (aliF (ss.getD 9 (0 : Int64)) (ss.getD 0 (0 : Int64)) x7))])) _
      refine XS.lload X27.here hx rfl (hb hby at_288) rfl ?_
      show Steps p.tables e below (T27.setTop (mkF m 290 #[.val (.long p1), .second, .val (.long p2), .second, .val (.int p3), .val (.int p4), .val (.int p5), .val (.long x7), .second, .val (.ref b1), .val (.ref b50), .val (.long (ss.getD 9 (0 : Int64))), .second, .unset, .unset, .unset, .unset, .unset, .unset, .unset] [(.long (ss.getD 9 (0 : Int64))), (.int (aliF (ss.getD 9 (0 : Int64)) (ss.getD 0 (0 : Int64)) x7))])) _
      refine XS.aload X27.here hx rfl (hb hby at_290) rfl rfl ?_
      show Steps p.tables e below (T27.setTop (mkF m 292 #[.val (.long p1), .second, .val (.long p2), .second, .val (.int p3), .val (.int p4), .val (.int p5), .val (.long x7), .second, .val (.ref b1), .val (.ref b50), .val (.long (ss.getD 9 (0 : Int64))), .second, .unset, .unset, .unset, .unset, .unset, .unset, .unset] [(.ref b1), (.long (ss.getD 9 (0 : Int64))), (.int (aliF (ss.getD 9 (0 : Int64)) (ss.getD 0 (0 : Int64)) x7))])) _
      refine XS.iconst X27.here hx rfl (hb hby at_292) ?_
      show Steps p.tables e below (T27.setTop (mkF m 293 #[.val (.long p1), .second, .val (.long p2), .second, .val (.int p3), .val (.int p4), .val (.int p5), .val (.long x7), .second, .val (.ref b1), .val (.ref b50), .val (.long (ss.getD 9 (0 : Int64))), .second, .unset, .unset, .unset, .unset, .unset, .unset, .unset] [(.int (1 : Int32)), (.ref b1), (.long (ss.getD 9 (0 : Int64))), (.int (aliF (ss.getD 9 (0 : Int64)) (ss.getD 0 (0 : Int64)) x7))])) _
      refine ldJ X27 hx hZ e27 fc0 ix28.1 ix28.2 (g := (mkF m 293 #[.val (.long p1), .second, .val (.long p2), .second, .val (.int p3), .val (.int p4), .val (.int p5), .val (.long x7), .second, .val (.ref b1), .val (.ref b50), .val (.long (ss.getD 9 (0 : Int64))), .second, .unset, .unset, .unset, .unset, .unset, .unset, .unset] [(.int (1 : Int32)), (.ref b1), (.long (ss.getD 9 (0 : Int64))), (.int (aliF (ss.getD 9 (0 : Int64)) (ss.getD 0 (0 : Int64)) x7))])) rfl rfl (hb hby at_293) _ ?_
      show Steps p.tables e below (T27.setTop (mkF m 294 #[.val (.long p1), .second, .val (.long p2), .second, .val (.int p3), .val (.int p4), .val (.int p5), .val (.long x7), .second, .val (.ref b1), .val (.ref b50), .val (.long (ss.getD 9 (0 : Int64))), .second, .unset, .unset, .unset, .unset, .unset, .unset, .unset] [(.long (ss.getD 1 (0 : Int64))), (.long (ss.getD 9 (0 : Int64))), (.int (aliF (ss.getD 9 (0 : Int64)) (ss.getD 0 (0 : Int64)) x7))])) _
      refine XS.lload X27.here hx rfl (hb hby at_294) rfl ?_
      show Steps p.tables e below (T27.setTop (mkF m 296 #[.val (.long p1), .second, .val (.long p2), .second, .val (.int p3), .val (.int p4), .val (.int p5), .val (.long x7), .second, .val (.ref b1), .val (.ref b50), .val (.long (ss.getD 9 (0 : Int64))), .second, .unset, .unset, .unset, .unset, .unset, .unset, .unset] [(.long x7), (.long (ss.getD 1 (0 : Int64))), (.long (ss.getD 9 (0 : Int64))), (.int (aliF (ss.getD 9 (0 : Int64)) (ss.getD 0 (0 : Int64)) x7))])) _
      refine st29 _ ?_
      show Steps p.tables e below (T29.setTop (mkF m 299 #[.val (.long p1), .second, .val (.long p2), .second, .val (.int p3), .val (.int p4), .val (.int p5), .val (.long x7), .second, .val (.ref b1), .val (.ref b50), .val (.long (ss.getD 9 (0 : Int64))), .second, .unset, .unset, .unset, .unset, .unset, .unset, .unset] [(.int (aliF (ss.getD 9 (0 : Int64)) (ss.getD 1 (0 : Int64)) x7)), (.int (aliF (ss.getD 9 (0 : Int64)) (ss.getD 0 (0 : Int64)) x7))])) _
      refine XS.iadd X29.here hx rfl (hb hby at_299) rfl ?_
      show Steps p.tables e below (T29.setTop (mkF m 300 #[.val (.long p1), .second, .val (.long p2), .second, .val (.int p3), .val (.int p4), .val (.int p5), .val (.long x7), .second, .val (.ref b1), .val (.ref b50), .val (.long (ss.getD 9 (0 : Int64))), .second, .unset, .unset, .unset, .unset, .unset, .unset, .unset] [(.int ((aliF (ss.getD 9 (0 : Int64)) (ss.getD 0 (0 : Int64)) x7) + (aliF (ss.getD 9 (0 : Int64)) (ss.getD 1 (0 : Int64)) x7)))])) _
      refine XS.lload X29.here hx rfl (hb hby at_300) rfl ?_
      show Steps p.tables e below (T29.setTop (mkF m 302 #[.val (.long p1), .second, .val (.long p2), .second, .val (.int p3), .val (.int p4), .val (.int p5), .val (.long x7), .second, .val (.ref b1), .val (.ref b50), .val (.long (ss.getD 9 (0 : Int64))), .second, .unset, .unset, .unset, .unset, .unset, .unset, .unset] [(.long (ss.getD 9 (0 : Int64))), (.int ((aliF (ss.getD 9 (0 : Int64)) (ss.getD 0 (0 : Int64)) x7) + (aliF (ss.getD 9 (0 : Int64)) (ss.getD 1 (0 : Int64)) x7)))])) _
      refine XS.aload X29.here hx rfl (hb hby at_302) rfl rfl ?_
      show Steps p.tables e below (T29.setTop (mkF m 304 #[.val (.long p1), .second, .val (.long p2), .second, .val (.int p3), .val (.int p4), .val (.int p5), .val (.long x7), .second, .val (.ref b1), .val (.ref b50), .val (.long (ss.getD 9 (0 : Int64))), .second, .unset, .unset, .unset, .unset, .unset, .unset, .unset] [(.ref b1), (.long (ss.getD 9 (0 : Int64))), (.int ((aliF (ss.getD 9 (0 : Int64)) (ss.getD 0 (0 : Int64)) x7) + (aliF (ss.getD 9 (0 : Int64)) (ss.getD 1 (0 : Int64)) x7)))])) _
      refine XS.iconst X29.here hx rfl (hb hby at_304) ?_
      show Steps p.tables e below (T29.setTop (mkF m 305 #[.val (.long p1), .second, .val (.long p2), .second, .val (.int p3), .val (.int p4), .val (.int p5), .val (.long x7), .second, .val (.ref b1), .val (.ref b50), .val (.long (ss.getD 9 (0 : Int64))), .second, .unset, .unset, .unset, .unset, .unset, .unset, .unset] [(.int (2 : Int32)), (.ref b1), (.long (ss.getD 9 (0 : Int64))), (.int ((aliF (ss.getD 9 (0 : Int64)) (ss.getD 0 (0 : Int64)) x7) + (aliF (ss.getD 9 (0 : Int64)) (ss.getD 1 (0 : Int64)) x7)))])) _
      refine ldJ X29 hx hZ e29 fc0 ix30.1 ix30.2 (g := (mkF m 305 #[.val (.long p1), .second, .val (.long p2), .second, .val (.int p3), .val (.int p4), .val (.int p5), .val (.long x7), .second, .val (.ref b1), .val (.ref b50), .val (.long (ss.getD 9 (0 : Int64))), .second, .unset, .unset, .unset, .unset, .unset, .unset, .unset] [(.int (2 : Int32)), (.ref b1), (.long (ss.getD 9 (0 : Int64))), (.int ((aliF (ss.getD 9 (0 : Int64)) (ss.getD 0 (0 : Int64)) x7) + (aliF (ss.getD 9 (0 : Int64)) (ss.getD 1 (0 : Int64)) x7)))])) rfl rfl (hb hby at_305) _ ?_
      show Steps p.tables e below (T29.setTop (mkF m 306 #[.val (.long p1), .second, .val (.long p2), .second, .val (.int p3), .val (.int p4), .val (.int p5), .val (.long x7), .second, .val (.ref b1), .val (.ref b50), .val (.long (ss.getD 9 (0 : Int64))), .second, .unset, .unset, .unset, .unset, .unset, .unset, .unset] [(.long (ss.getD 2 (0 : Int64))), (.long (ss.getD 9 (0 : Int64))), (.int ((aliF (ss.getD 9 (0 : Int64)) (ss.getD 0 (0 : Int64)) x7) + (aliF (ss.getD 9 (0 : Int64)) (ss.getD 1 (0 : Int64)) x7)))])) _
      refine XS.lload X29.here hx rfl (hb hby at_306) rfl ?_
      show Steps p.tables e below (T29.setTop (mkF m 308 #[.val (.long p1), .second, .val (.long p2), .second, .val (.int p3), .val (.int p4), .val (.int p5), .val (.long x7), .second, .val (.ref b1), .val (.ref b50), .val (.long (ss.getD 9 (0 : Int64))), .second, .unset, .unset, .unset, .unset, .unset, .unset, .unset] [(.long x7), (.long (ss.getD 2 (0 : Int64))), (.long (ss.getD 9 (0 : Int64))), (.int ((aliF (ss.getD 9 (0 : Int64)) (ss.getD 0 (0 : Int64)) x7) + (aliF (ss.getD 9 (0 : Int64)) (ss.getD 1 (0 : Int64)) x7)))])) _
      refine st31 _ ?_
      show Steps p.tables e below (T31.setTop (mkF m 311 #[.val (.long p1), .second, .val (.long p2), .second, .val (.int p3), .val (.int p4), .val (.int p5), .val (.long x7), .second, .val (.ref b1), .val (.ref b50), .val (.long (ss.getD 9 (0 : Int64))), .second, .unset, .unset, .unset, .unset, .unset, .unset, .unset] [(.int (aliF (ss.getD 9 (0 : Int64)) (ss.getD 2 (0 : Int64)) x7)), (.int ((aliF (ss.getD 9 (0 : Int64)) (ss.getD 0 (0 : Int64)) x7) + (aliF (ss.getD 9 (0 : Int64)) (ss.getD 1 (0 : Int64)) x7)))])) _
      refine XS.iadd X31.here hx rfl (hb hby at_311) rfl ?_
      show Steps p.tables e below (T31.setTop (mkF m 312 #[.val (.long p1), .second, .val (.long p2), .second, .val (.int p3), .val (.int p4), .val (.int p5), .val (.long x7), .second, .val (.ref b1), .val (.ref b50), .val (.long (ss.getD 9 (0 : Int64))), .second, .unset, .unset, .unset, .unset, .unset, .unset, .unset] [(.int (((aliF (ss.getD 9 (0 : Int64)) (ss.getD 0 (0 : Int64)) x7) + (aliF (ss.getD 9 (0 : Int64)) (ss.getD 1 (0 : Int64)) x7)) + (aliF (ss.getD 9 (0 : Int64)) (ss.getD 2 (0 : Int64)) x7)))])) _
      refine XS.lload X31.here hx rfl (hb hby at_312) rfl ?_
      show Steps p.tables e below (T31.setTop (mkF m 314 #[.val (.long p1), .second, .val (.long p2), .second, .val (.int p3), .val (.int p4), .val (.int p5), .val (.long x7), .second, .val (.ref b1), .val (.ref b50), .val (.long (ss.getD 9 (0 : Int64))), .second, .unset, .unset, .unset, .unset, .unset, .unset, .unset] [(.long (ss.getD 9 (0 : Int64))), (.int (((aliF (ss.getD 9 (0 : Int64)) (ss.getD 0 (0 : Int64)) x7) + (aliF (ss.getD 9 (0 : Int64)) (ss.getD 1 (0 : Int64)) x7)) + (aliF (ss.getD 9 (0 : Int64)) (ss.getD 2 (0 : Int64)) x7)))])) _
      refine XS.aload X31.here hx rfl (hb hby at_314) rfl rfl ?_
      show Steps p.tables e below (T31.setTop (mkF m 316 #[.val (.long p1), .second, .val (.long p2), .second, .val (.int p3), .val (.int p4), .val (.int p5), .val (.long x7), .second, .val (.ref b1), .val (.ref b50), .val (.long (ss.getD 9 (0 : Int64))), .second, .unset, .unset, .unset, .unset, .unset, .unset, .unset] [(.ref b1), (.long (ss.getD 9 (0 : Int64))), (.int (((aliF (ss.getD 9 (0 : Int64)) (ss.getD 0 (0 : Int64)) x7) + (aliF (ss.getD 9 (0 : Int64)) (ss.getD 1 (0 : Int64)) x7)) + (aliF (ss.getD 9 (0 : Int64)) (ss.getD 2 (0 : Int64)) x7)))])) _
      refine XS.iconst X31.here hx rfl (hb hby at_316) ?_
      show Steps p.tables e below (T31.setTop (mkF m 317 #[.val (.long p1), .second, .val (.long p2), .second, .val (.int p3), .val (.int p4), .val (.int p5), .val (.long x7), .second, .val (.ref b1), .val (.ref b50), .val (.long (ss.getD 9 (0 : Int64))), .second, .unset, .unset, .unset, .unset, .unset, .unset, .unset] [(.int (3 : Int32)), (.ref b1), (.long (ss.getD 9 (0 : Int64))), (.int (((aliF (ss.getD 9 (0 : Int64)) (ss.getD 0 (0 : Int64)) x7) + (aliF (ss.getD 9 (0 : Int64)) (ss.getD 1 (0 : Int64)) x7)) + (aliF (ss.getD 9 (0 : Int64)) (ss.getD 2 (0 : Int64)) x7)))])) _
      refine ldJ X31 hx hZ e31 fc0 ix32.1 ix32.2 (g := (mkF m 317 #[.val (.long p1), .second, .val (.long p2), .second, .val (.int p3), .val (.int p4), .val (.int p5), .val (.long x7), .second, .val (.ref b1), .val (.ref b50), .val (.long (ss.getD 9 (0 : Int64))), .second, .unset, .unset, .unset, .unset, .unset, .unset, .unset] [(.int (3 : Int32)), (.ref b1), (.long (ss.getD 9 (0 : Int64))), (.int (((aliF (ss.getD 9 (0 : Int64)) (ss.getD 0 (0 : Int64)) x7) + (aliF (ss.getD 9 (0 : Int64)) (ss.getD 1 (0 : Int64)) x7)) + (aliF (ss.getD 9 (0 : Int64)) (ss.getD 2 (0 : Int64)) x7)))])) rfl rfl (hb hby at_317) _ ?_
      show Steps p.tables e below (T31.setTop (mkF m 318 #[.val (.long p1), .second, .val (.long p2), .second, .val (.int p3), .val (.int p4), .val (.int p5), .val (.long x7), .second, .val (.ref b1), .val (.ref b50), .val (.long (ss.getD 9 (0 : Int64))), .second, .unset, .unset, .unset, .unset, .unset, .unset, .unset] [(.long (ss.getD 3 (0 : Int64))), (.long (ss.getD 9 (0 : Int64))), (.int (((aliF (ss.getD 9 (0 : Int64)) (ss.getD 0 (0 : Int64)) x7) + (aliF (ss.getD 9 (0 : Int64)) (ss.getD 1 (0 : Int64)) x7)) + (aliF (ss.getD 9 (0 : Int64)) (ss.getD 2 (0 : Int64)) x7)))])) _
      refine XS.lload X31.here hx rfl (hb hby at_318) rfl ?_
      show Steps p.tables e below (T31.setTop (mkF m 320 #[.val (.long p1), .second, .val (.long p2), .second, .val (.int p3), .val (.int p4), .val (.int p5), .val (.long x7), .second, .val (.ref b1), .val (.ref b50), .val (.long (ss.getD 9 (0 : Int64))), .second, .unset, .unset, .unset, .unset, .unset, .unset, .unset] [(.long x7), (.long (ss.getD 3 (0 : Int64))), (.long (ss.getD 9 (0 : Int64))), (.int (((aliF (ss.getD 9 (0 : Int64)) (ss.getD 0 (0 : Int64)) x7) + (aliF (ss.getD 9 (0 : Int64)) (ss.getD 1 (0 : Int64)) x7)) + (aliF (ss.getD 9 (0 : Int64)) (ss.getD 2 (0 : Int64)) x7)))])) _
      refine st33 _ ?_
      show Steps p.tables e below (T33.setTop (mkF m 323 #[.val (.long p1), .second, .val (.long p2), .second, .val (.int p3), .val (.int p4), .val (.int p5), .val (.long x7), .second, .val (.ref b1), .val (.ref b50), .val (.long (ss.getD 9 (0 : Int64))), .second, .unset, .unset, .unset, .unset, .unset, .unset, .unset] [(.int (aliF (ss.getD 9 (0 : Int64)) (ss.getD 3 (0 : Int64)) x7)), (.int (((aliF (ss.getD 9 (0 : Int64)) (ss.getD 0 (0 : Int64)) x7) + (aliF (ss.getD 9 (0 : Int64)) (ss.getD 1 (0 : Int64)) x7)) + (aliF (ss.getD 9 (0 : Int64)) (ss.getD 2 (0 : Int64)) x7)))])) _
      refine XS.iadd X33.here hx rfl (hb hby at_323) rfl ?_
      show Steps p.tables e below (T33.setTop (mkF m 324 #[.val (.long p1), .second, .val (.long p2), .second, .val (.int p3), .val (.int p4), .val (.int p5), .val (.long x7), .second, .val (.ref b1), .val (.ref b50), .val (.long (ss.getD 9 (0 : Int64))), .second, .unset, .unset, .unset, .unset, .unset, .unset, .unset] [(.int ((((aliF (ss.getD 9 (0 : Int64)) (ss.getD 0 (0 : Int64)) x7) + (aliF (ss.getD 9 (0 : Int64)) (ss.getD 1 (0 : Int64)) x7)) + (aliF (ss.getD 9 (0 : Int64)) (ss.getD 2 (0 : Int64)) x7)) + (aliF (ss.getD 9 (0 : Int64)) (ss.getD 3 (0 : Int64)) x7)))])) _
      refine XS.lload X33.here hx rfl (hb hby at_324) rfl ?_
      show Steps p.tables e below (T33.setTop (mkF m 326 #[.val (.long p1), .second, .val (.long p2), .second, .val (.int p3), .val (.int p4), .val (.int p5), .val (.long x7), .second, .val (.ref b1), .val (.ref b50), .val (.long (ss.getD 9 (0 : Int64))), .second, .unset, .unset, .unset, .unset, .unset, .unset, .unset] [(.long (ss.getD 9 (0 : Int64))), (.int ((((aliF (ss.getD 9 (0 : Int64)) (ss.getD 0 (0 : Int64)) x7) + (aliF (ss.getD 9 (0 : Int64)) (ss.getD 1 (0 : Int64)) x7)) + (aliF (ss.getD 9 (0 : Int64)) (ss.getD 2 (0 : Int64)) x7)) + (aliF (ss.getD 9 (0 : Int64)) (ss.getD 3 (0 : Int64)) x7)))])) _
      refine XS.aload X33.here hx rfl (hb hby at_326) rfl rfl ?_
      show Steps p.tables e below (T33.setTop (mkF m 328 #[.val (.long p1), .second, .val (.long p2), .second, .val (.int p3), .val (.int p4), .val (.int p5), .val (.long x7), .second, .val (.ref b1), .val (.ref b50), .val (.long (ss.getD 9 (0 : Int64))), .second, .unset, .unset, .unset, .unset, .unset, .unset, .unset] [(.ref b1), (.long (ss.getD 9 (0 : Int64))), (.int ((((aliF (ss.getD 9 (0 : Int64)) (ss.getD 0 (0 : Int64)) x7) + (aliF (ss.getD 9 (0 : Int64)) (ss.getD 1 (0 : Int64)) x7)) + (aliF (ss.getD 9 (0 : Int64)) (ss.getD 2 (0 : Int64)) x7)) + (aliF (ss.getD 9 (0 : Int64)) (ss.getD 3 (0 : Int64)) x7)))])) _
      refine XS.iconst X33.here hx rfl (hb hby at_328) ?_
      show Steps p.tables e below (T33.setTop (mkF m 329 #[.val (.long p1), .second, .val (.long p2), .second, .val (.int p3), .val (.int p4), .val (.int p5), .val (.long x7), .second, .val (.ref b1), .val (.ref b50), .val (.long (ss.getD 9 (0 : Int64))), .second, .unset, .unset, .unset, .unset, .unset, .unset, .unset] [(.int (4 : Int32)), (.ref b1), (.long (ss.getD 9 (0 : Int64))), (.int ((((aliF (ss.getD 9 (0 : Int64)) (ss.getD 0 (0 : Int64)) x7) + (aliF (ss.getD 9 (0 : Int64)) (ss.getD 1 (0 : Int64)) x7)) + (aliF (ss.getD 9 (0 : Int64)) (ss.getD 2 (0 : Int64)) x7)) + (aliF (ss.getD 9 (0 : Int64)) (ss.getD 3 (0 : Int64)) x7)))])) _
      refine ldJ X33 hx hZ e33 fc0 ix34.1 ix34.2 (g := (mkF m 329 #[.val (.long p1), .second, .val (.long p2), .second, .val (.int p3), .val (.int p4), .val (.int p5), .val (.long x7), .second, .val (.ref b1), .val (.ref b50), .val (.long (ss.getD 9 (0 : Int64))), .second, .unset, .unset, .unset, .unset, .unset, .unset, .unset] [(.int (4 : Int32)), (.ref b1), (.long (ss.getD 9 (0 : Int64))), (.int ((((aliF (ss.getD 9 (0 : Int64)) (ss.getD 0 (0 : Int64)) x7) + (aliF (ss.getD 9 (0 : Int64)) (ss.getD 1 (0 : Int64)) x7)) + (aliF (ss.getD 9 (0 : Int64)) (ss.getD 2 (0 : Int64)) x7)) + (aliF (ss.getD 9 (0 : Int64)) (ss.getD 3 (0 : Int64)) x7)))])) rfl rfl (hb hby at_329) _ ?_
      show Steps p.tables e below (T33.setTop (mkF m 330 #[.val (.long p1), .second, .val (.long p2), .second, .val (.int p3), .val (.int p4), .val (.int p5), .val (.long x7), .second, .val (.ref b1), .val (.ref b50), .val (.long (ss.getD 9 (0 : Int64))), .second, .unset, .unset, .unset, .unset, .unset, .unset, .unset] [(.long (ss.getD 4 (0 : Int64))), (.long (ss.getD 9 (0 : Int64))), (.int ((((aliF (ss.getD 9 (0 : Int64)) (ss.getD 0 (0 : Int64)) x7) + (aliF (ss.getD 9 (0 : Int64)) (ss.getD 1 (0 : Int64)) x7)) + (aliF (ss.getD 9 (0 : Int64)) (ss.getD 2 (0 : Int64)) x7)) + (aliF (ss.getD 9 (0 : Int64)) (ss.getD 3 (0 : Int64)) x7)))])) _
      refine XS.lload X33.here hx rfl (hb hby at_330) rfl ?_
      show Steps p.tables e below (T33.setTop (mkF m 332 #[.val (.long p1), .second, .val (.long p2), .second, .val (.int p3), .val (.int p4), .val (.int p5), .val (.long x7), .second, .val (.ref b1), .val (.ref b50), .val (.long (ss.getD 9 (0 : Int64))), .second, .unset, .unset, .unset, .unset, .unset, .unset, .unset] [(.long x7), (.long (ss.getD 4 (0 : Int64))), (.long (ss.getD 9 (0 : Int64))), (.int ((((aliF (ss.getD 9 (0 : Int64)) (ss.getD 0 (0 : Int64)) x7) + (aliF (ss.getD 9 (0 : Int64)) (ss.getD 1 (0 : Int64)) x7)) + (aliF (ss.getD 9 (0 : Int64)) (ss.getD 2 (0 : Int64)) x7)) + (aliF (ss.getD 9 (0 : Int64)) (ss.getD 3 (0 : Int64)) x7)))])) _
      refine st35 _ ?_
      show Steps p.tables e below (T35.setTop (mkF m 335 #[.val (.long p1), .second, .val (.long p2), .second, .val (.int p3), .val (.int p4), .val (.int p5), .val (.long x7), .second, .val (.ref b1), .val (.ref b50), .val (.long (ss.getD 9 (0 : Int64))), .second, .unset, .unset, .unset, .unset, .unset, .unset, .unset] [(.int (aliF (ss.getD 9 (0 : Int64)) (ss.getD 4 (0 : Int64)) x7)), (.int ((((aliF (ss.getD 9 (0 : Int64)) (ss.getD 0 (0 : Int64)) x7) + (aliF (ss.getD 9 (0 : Int64)) (ss.getD 1 (0 : Int64)) x7)) + (aliF (ss.getD 9 (0 : Int64)) (ss.getD 2 (0 : Int64)) x7)) + (aliF (ss.getD 9 (0 : Int64)) (ss.getD 3 (0 : Int64)) x7)))])) _
      refine XS.iadd X35.here hx rfl (hb hby at_335) rfl ?_
      show Steps p.tables e below (T35.setTop (mkF m 336 #[.val (.long p1), .second, .val (.long p2), .second, .val (.int p3), .val (.int p4), .val (.int p5), .val (.long x7), .second, .val (.ref b1), .val (.ref b50), .val (.long (ss.getD 9 (0 : Int64))), .second, .unset, .unset, .unset, .unset, .unset, .unset, .unset] [(.int (((((aliF (ss.getD 9 (0 : Int64)) (ss.getD 0 (0 : Int64)) x7) + (aliF (ss.getD 9 (0 : Int64)) (ss.getD 1 (0 : Int64)) x7)) + (aliF (ss.getD 9 (0 : Int64)) (ss.getD 2 (0 : Int64)) x7)) + (aliF (ss.getD 9 (0 : Int64)) (ss.getD 3 (0 : Int64)) x7)) + (aliF (ss.getD 9 (0 : Int64)) (ss.getD 4 (0 : Int64)) x7)))])) _
      refine XS.lload X35.here hx rfl (hb hby at_336) rfl ?_
      show Steps p.tables e below (T35.setTop (mkF m 338 #[.val (.long p1), .second, .val (.long p2), .second, .val (.int p3), .val (.int p4), .val (.int p5), .val (.long x7), .second, .val (.ref b1), .val (.ref b50), .val (.long (ss.getD 9 (0 : Int64))), .second, .unset, .unset, .unset, .unset, .unset, .unset, .unset] [(.long (ss.getD 9 (0 : Int64))), (.int (((((aliF (ss.getD 9 (0 : Int64)) (ss.getD 0 (0 : Int64)) x7) + (aliF (ss.getD 9 (0 : Int64)) (ss.getD 1 (0 : Int64)) x7)) + (aliF (ss.getD 9 (0 : Int64)) (ss.getD 2 (0 : Int64)) x7)) + (aliF (ss.getD 9 (0 : Int64)) (ss.getD 3 (0 : Int64)) x7)) + (aliF (ss.getD 9 (0 : Int64)) (ss.getD 4 (0 : Int64)) x7)))])) _
      refine XS.aload X35.here hx rfl (hb hby at_338) rfl rfl ?_
      show Steps p.tables e below (T35.setTop (mkF m 340 #[.val (.long p1), .second, .val (.long p2), .second, .val (.int p3), .val (.int p4), .val (.int p5), .val (.long x7), .second, .val (.ref b1), .val (.ref b50), .val (.long (ss.getD 9 (0 : Int64))), .second, .unset, .unset, .unset, .unset, .unset, .unset, .unset] [(.ref b1), (.long (ss.getD 9 (0 : Int64))), (.int (((((aliF (ss.getD 9 (0 : Int64)) (ss.getD 0 (0 : Int64)) x7) + (aliF (ss.getD 9 (0 : Int64)) (ss.getD 1 (0 : Int64)) x7)) + (aliF (ss.getD 9 (0 : Int64)) (ss.getD 2 (0 : Int64)) x7)) + (aliF (ss.getD 9 (0 : Int64)) (ss.getD 3 (0 : Int64)) x7)) + (aliF (ss.getD 9 (0 : Int64)) (ss.getD 4 (0 : Int64)) x7)))])) _
      refine XS.iconst X35.here hx rfl (hb hby at_340) ?_
      show Steps p.tables e below (T35.setTop (mkF m 341 #[.val (.long p1), .second, .val (.long p2), .second, .val (.int p3), .val (.int p4), .val (.int p5), .val (.long x7), .second, .val (.ref b1), .val (.ref b50), .val (.long (ss.getD 9 (0 : Int64))), .second, .unset, .unset, .unset, .unset, .unset, .unset, .unset] [(.int (5 : Int32)), (.ref b1), (.long (ss.getD 9 (0 : Int64))), (.int (((((aliF (ss.getD 9 (0 : Int64)) (ss.getD 0 (0 : Int64)) x7) + (aliF (ss.getD 9 (0 : Int64)) (ss.getD 1 (0 : Int64)) x7)) + (aliF (ss.getD 9 (0 : Int64)) (ss.getD 2 (0 : Int64)) x7)) + (aliF (ss.getD 9 (0 : Int64)) (ss.getD 3 (0 : Int64)) x7)) + (aliF (ss.getD 9 (0 : Int64)) (ss.getD 4 (0 : Int64)) x7)))])) _
      refine ldJ X35 hx hZ e35 fc0 ix36.1 ix36.2 (g := (mkF m 341 #[.val (.long p1), .second, .val (.long p2), .second, .val (.int p3), .val (.int p4), .val (.int p5), .val (.long x7), .second, .val (.ref b1), .val (.ref b50), .val (.long (ss.getD 9 (0 : Int64))), .second, .unset, .unset, .unset, .unset, .unset, .unset, .unset] [(.int (5 : Int32)), (.ref b1), (.long (ss.getD 9 (0 : Int64))), (.int (((((aliF (ss.getD 9 (0 : Int64)) (ss.getD 0 (0 : Int64)) x7) + (aliF (ss.getD 9 (0 : Int64)) (ss.getD 1 (0 : Int64)) x7)) + (aliF (ss.getD 9 (0 : Int64)) (ss.getD 2 (0 : Int64)) x7)) + (aliF (ss.getD 9 (0 : Int64)) (ss.getD 3 (0 : Int64)) x7)) + (aliF (ss.getD 9 (0 : Int64)) (ss.getD 4 (0 : Int64)) x7)))])) rfl rfl (hb hby at_341) _ ?_
      show Steps p.tables e below (T35.setTop (mkF m 342 #[.val (.long p1), .second, .val (.long p2), .second, .val (.int p3), .val (.int p4), .val (.int p5), .val (.long x7), .second, .val (.ref b1), .val (.ref b50), .val (.long (ss.getD 9 (0 : Int64))), .second, .unset, .unset, .unset, .unset, .unset, .unset, .unset] [(.long (ss.getD 5 (0 : Int64))), (.long (ss.getD 9 (0 : Int64))), (.int (((((aliF (ss.getD 9 (0 : Int64)) (ss.getD 0 (0 : Int64)) x7) + (aliF (ss.getD 9 (0 : Int64)) (ss.getD 1 (0 : Int64)) x7)) + (aliF (ss.getD 9 (0 : Int64)) (ss.getD 2 (0 : Int64)) x7)) + (aliF (ss.getD 9 (0 : Int64)) (ss.getD 3 (0 : Int64)) x7)) + (aliF (ss.getD 9 (0 : Int64)) (ss.getD 4 (0 : Int64)) x7)))])) _
      refine XS.lload X35.here hx rfl (hb hby at_342) rfl ?_
      show Steps p.tables e below (T35.setTop (mkF m 344 #[.val (.long p1), .second, .val (.long p2), .second, .val (.int p3), .val (.int p4), .val (.int p5), .val (.long x7), .second, .val (.ref b1), .val (.ref b50), .val (.long (ss.getD 9 (0 : Int64))), .second, .unset, .unset, .unset, .unset, .unset, .unset, .unset] [(.long x7), (.long (ss.getD 5 (0 : Int64))), (.long (ss.getD 9 (0 : Int64))), (.int (((((aliF (ss.getD 9 (0 : Int64)) (ss.getD 0 (0 : Int64)) x7) + (aliF (ss.getD 9 (0 : Int64)) (ss.getD 1 (0 : Int64)) x7)) + (aliF (ss.getD 9 (0 : Int64)) (ss.getD 2 (0 : Int64)) x7)) + (aliF (ss.getD 9 (0 : Int64)) (ss.getD 3 (0 : Int64)) x7)) + (aliF (ss.getD 9 (0 : Int64)) (ss.getD 4 (0 : Int64)) x7)))])) _
      refine st37 _ ?_
      show Steps p.tables e below (T37.setTop (mkF m 347 #[.val (.long p1), .second, .val (.long p2), .second, .val (.int p3), .val (.int p4), .val (.int p5), .val (.long x7), .second, .val (.ref b1), .val (.ref b50), .val (.long (ss.getD 9 (0 : Int64))), .second, .unset, .unset, .unset, .unset, .unset, .unset, .unset] [(.int (aliF (ss.getD 9 (0 : Int64)) (ss.getD 5 (0 : Int64)) x7)), (.int (((((aliF (ss.getD 9 (0 : Int64)) (ss.getD 0 (0 : Int64)) x7) + (aliF (ss.getD 9 (0 : Int64)) (ss.getD 1 (0 : Int64)) x7)) + (aliF (ss.getD 9 (0 : Int64)) (ss.getD 2 (0 : Int64)) x7)) + (aliF (ss.getD 9 (0 : Int64)) (ss.getD 3 (0 : Int64)) x7)) + (aliF (ss.getD 9 (0 : Int64)) (ss.getD 4 (0 : Int64)) x7)))])) _
      refine XS.iadd X37.here hx rfl (hb hby at_347) rfl ?_
      show Steps p.tables e below (T37.setTop (mkF m 348 #[.val (.long p1), .second, .val (.long p2), .second, .val (.int p3), .val (.int p4), .val (.int p5), .val (.long x7), .second, .val (.ref b1), .val (.ref b50), .val (.long (ss.getD 9 (0 : Int64))), .second, .unset, .unset, .unset, .unset, .unset, .unset, .unset] [(.int ((((((aliF (ss.getD 9 (0 : Int64)) (ss.getD 0 (0 : Int64)) x7) + (aliF (ss.getD 9 (0 : Int64)) (ss.getD 1 (0 : Int64)) x7)) + (aliF (ss.getD 9 (0 : Int64)) (ss.getD 2 (0 : Int64)) x7)) + (aliF (ss.getD 9 (0 : Int64)) (ss.getD 3 (0 : Int64)) x7)) + (aliF (ss.getD 9 (0 : Int64)) (ss.getD 4 (0 : Int64)) x7)) + (aliF (ss.getD 9 (0 : Int64)) (ss.getD 5 (0 : Int64)) x7)))])) _
      refine XS.lload X37.here hx rfl (hb hby at_348) rfl ?_
      show Steps p.tables e below (T37.setTop (mkF m 350 #[.val (.long p1), .second, .val (.long p2), .second, .val (.int p3), .val (.int p4), .val (.int p5), .val (.long x7), .second, .val (.ref b1), .val (.ref b50), .val (.long (ss.getD 9 (0 : Int64))), .second, .unset, .unset, .unset, .unset, .unset, .unset, .unset] [(.long (ss.getD 9 (0 : Int64))), (.int ((((((aliF (ss.getD 9 (0 : Int64)) (ss.getD 0 (0 : Int64)) x7) + (aliF (ss.getD 9 (0 : Int64)) (ss.getD 1 (0 : Int64)) x7)) + (aliF (ss.getD 9 (0 : Int64)) (ss.getD 2 (0 : Int64)) x7)) + (aliF (ss.getD 9 (0 : Int64)) (ss.getD 3 (0 : Int64)) x7)) + (aliF (ss.getD 9 (0 : Int64)) (ss.getD 4 (0 : Int64)) x7)) + (aliF (ss.getD 9 (0 : Int64)) (ss.getD 5 (0 : Int64)) x7)))])) _
      refine XS.aload X37.here hx rfl (hb hby at_350) rfl rfl ?_
      show Steps p.tables e below (T37.setTop (mkF m 352 #[.val (.long p1), .second, .val (.long p2), .second, .val (.int p3), .val (.int p4), .val (.int p5), .val (.long x7), .second, .val (.ref b1), .val (.ref b50), .val (.long (ss.getD 9 (0 : Int64))), .second, .unset, .unset, .unset, .unset, .unset, .unset, .unset] [(.ref b1), (.long (ss.getD 9 (0 : Int64))), (.int ((((((aliF (ss.getD 9 (0 : Int64)) (ss.getD 0 (0 : Int64)) x7) + (aliF (ss.getD 9 (0 : Int64)) (ss.getD 1 (0 : Int64)) x7)) + (aliF (ss.getD 9 (0 : Int64)) (ss.getD 2 (0 : Int64)) x7)) + (aliF (ss.getD 9 (0 : Int64)) (ss.getD 3 (0 : Int64)) x7)) + (aliF (ss.getD 9 (0 : Int64)) (ss.getD 4 (0 : Int64)) x7)) + (aliF (ss.getD 9 (0 : Int64)) (ss.getD 5 (0 : Int64)) x7)))])) _
      refine XS.bipush X37.here hx rfl (hb hby at_352) ?_
      show Steps p.tables e below (T37.setTop (mkF m 354 #[.val (.long p1), .second, .val (.long p2), .second, .val (.int p3), .val (.int p4), .val (.int p5), .val (.long x7), .second, .val (.ref b1), .val (.ref b50), .val (.long (ss.getD 9 (0 : Int64))), .second, .unset, .unset, .unset, .unset, .unset, .unset, .unset] [(.int (6 : Int32)), (.ref b1), (.long (ss.getD 9 (0 : Int64))), (.int ((((((aliF (ss.getD 9 (0 : Int64)) (ss.getD 0 (0 : Int64)) x7) + (aliF (ss.getD 9 (0 : Int64)) (ss.getD 1 (0 : Int64)) x7)) + (aliF (ss.getD 9 (0 : Int64)) (ss.getD 2 (0 : Int64)) x7)) + (aliF (ss.getD 9 (0 : Int64)) (ss.getD 3 (0 : Int64)) x7)) + (aliF (ss.getD 9 (0 : Int64)) (ss.getD 4 (0 : Int64)) x7)) + (aliF (ss.getD 9 (0 : Int64)) (ss.getD 5 (0 : Int64)) x7)))])) _
      refine ldJ X37 hx hZ e37 fc0 ix38.1 ix38.2 (g := (mkF m 354 #[.val (.long p1), .second, .val (.long p2), .second, .val (.int p3), .val (.int p4), .val (.int p5), .val (.long x7), .second, .val (.ref b1), .val (.ref b50), .val (.long (ss.getD 9 (0 : Int64))), .second, .unset, .unset, .unset, .unset, .unset, .unset, .unset] [(.int (6 : Int32)), (.ref b1), (.long (ss.getD 9 (0 : Int64))), (.int ((((((aliF (ss.getD 9 (0 : Int64)) (ss.getD 0 (0 : Int64)) x7) + (aliF (ss.getD 9 (0 : Int64)) (ss.getD 1 (0 : Int64)) x7)) + (aliF (ss.getD 9 (0 : Int64)) (ss.getD 2 (0 : Int64)) x7)) + (aliF (ss.getD 9 (0 : Int64)) (ss.getD 3 (0 : Int64)) x7)) + (aliF (ss.getD 9 (0 : Int64)) (ss.getD 4 (0 : Int64)) x7)) + (aliF (ss.getD 9 (0 : Int64)) (ss.getD 5 (0 : Int64)) x7)))])) rfl rfl (hb hby at_354) _ ?_
      show Steps p.tables e below (T37.setTop (mkF m 355 #[.val (.long p1), .second, .val (.long p2), .second, .val (.int p3), .val (.int p4), .val (.int p5), .val (.long x7), .second, .val (.ref b1), .val (.ref b50), .val (.long (ss.getD 9 (0 : Int64))), .second, .unset, .unset, .unset, .unset, .unset, .unset, .unset] [(.long (ss.getD 6 (0 : Int64))), (.long (ss.getD 9 (0 : Int64))), (.int ((((((aliF (ss.getD 9 (0 : Int64)) (ss.getD 0 (0 : Int64)) x7) + (aliF (ss.getD 9 (0 : Int64)) (ss.getD 1 (0 : Int64)) x7)) + (aliF (ss.getD 9 (0 : Int64)) (ss.getD 2 (0 : Int64)) x7)) + (aliF (ss.getD 9 (0 : Int64)) (ss.getD 3 (0 : Int64)) x7)) + (aliF (ss.getD 9 (0 : Int64)) (ss.getD 4 (0 : Int64)) x7)) + (aliF (ss.getD 9 (0 : Int64)) (ss.getD 5 (0 : Int64)) x7)))])) _
      refine XS.lload X37.here hx rfl (hb hby at_355) rfl ?_
      show Steps p.tables e below (T37.setTop (mkF m 357 #[.val (.long p1), .second, .val (.long p2), .second, .val (.int p3), .val (.int p4), .val (.int p5), .val (.long x7), .second, .val (.ref b1), .val (.ref b50), .val (.long (ss.getD 9 (0 : Int64))), .second, .unset, .unset, .unset, .unset, .unset, .unset, .unset] [(.long x7), (.long (ss.getD 6 (0 : Int64))), (.long (ss.getD 9 (0 : Int64))), (.int ((((((aliF (ss.getD 9 (0 : Int64)) (ss.getD 0 (0 : Int64)) x7) + (aliF (ss.getD 9 (0 : Int64)) (ss.getD 1 (0 : Int64)) x7)) + (aliF (ss.getD 9 (0 : Int64)) (ss.getD 2 (0 : Int64)) x7)) + (aliF (ss.getD 9 (0 : Int64)) (ss.getD 3 (0 : Int64)) x7)) + (aliF (ss.getD 9 (0 : Int64)) (ss.getD 4 (0 : Int64)) x7)) + (aliF (ss.getD 9 (0 : Int64)) (ss.getD 5 (0 : Int64)) x7)))])) _
      refine st39 _ ?_
      show Steps p.tables e below (T39.setTop (mkF m 360 #[.val (.long p1), .second, .val (.long p2), .second, .val (.int p3), .val (.int p4), .val (.int p5), .val (.long x7), .second, .val (.ref b1), .val (.ref b50), .val (.long (ss.getD 9 (0 : Int64))), .second, .unset, .unset, .unset, .unset, .unset, .unset, .unset] [(.int (aliF (ss.getD 9 (0 : Int64)) (ss.getD 6 (0 : Int64)) x7)), (.int ((((((aliF (ss.getD 9 (0 : Int64)) (ss.getD 0 (0 : Int64)) x7) + (aliF (ss.getD 9 (0 : Int64)) (ss.getD 1 (0 : Int64)) x7)) + (aliF (ss.getD 9 (0 : Int64)) (ss.getD 2 (0 : Int64)) x7)) + (aliF (ss.getD 9 (0 : Int64)) (ss.getD 3 (0 : Int64)) x7)) + (aliF (ss.getD 9 (0 : Int64)) (ss.getD 4 (0 : Int64)) x7)) + (aliF (ss.getD 9 (0 : Int64)) (ss.getD 5 (0 : Int64)) x7)))])) _
      refine XS.iadd X39.here hx rfl (hb hby at_360) rfl ?_
      show Steps p.tables e below (T39.setTop (mkF m 361 #[.val (.long p1), .second, .val (.long p2), .second, .val (.int p3), .val (.int p4), .val (.int p5), .val (.long x7), .second, .val (.ref b1), .val (.ref b50), .val (.long (ss.getD 9 (0 : Int64))), .second, .unset, .unset, .unset, .unset, .unset, .unset, .unset] [(.int (((((((aliF (ss.getD 9 (0 : Int64)) (ss.getD 0 (0 : Int64)) x7) + (aliF (ss.getD 9 (0 : Int64)) (ss.getD 1 (0 : Int64)) x7)) + (aliF (ss.getD 9 (0 : Int64)) (ss.getD 2 (0 : Int64)) x7)) + (aliF (ss.getD 9 (0 : Int64)) (ss.getD 3 (0 : Int64)) x7)) + (aliF (ss.getD 9 (0 : Int64)) (ss.getD 4 (0 : Int64)) x7)) + (aliF (ss.getD 9 (0 : Int64)) (ss.getD 5 (0 : Int64)) x7)) + (aliF (ss.getD 9 (0 : Int64)) (ss.getD 6 (0 : Int64)) x7)))])) _
      refine XS.lload X39.here hx rfl (hb hby at_361) rfl ?_
      show Steps p.tables e below (T39.setTop (mkF m 363 #[.val (.long p1), .second, .val (.long p2), .second, .val (.int p3), .val (.int p4), .val (.int p5), .val (.long x7), .second, .val (.ref b1), .val (.ref b50), .val (.long (ss.getD 9 (0 : Int64))), .second, .unset, .unset, .unset, .unset, .unset, .unset, .unset] [(.long (ss.getD 9 (0 : Int64))), (.int (((((((aliF (ss.getD 9 (0 : Int64)) (ss.getD 0 (0 : Int64)) x7) + (aliF (ss.getD 9 (0 : Int64)) (ss.getD 1 (0 : Int64)) x7)) + (aliF (ss.getD 9 (0 : Int64)) (ss.getD 2 (0 : Int64)) x7)) + (aliF (ss.getD 9 (0 : Int64)) (ss.getD 3 (0 : Int64)) x7)) + (aliF (ss.getD 9 (0 : Int64)) (ss.getD 4 (0 : Int64)) x7)) + (aliF (ss.getD 9 (0 : Int64)) (ss.getD 5 (0 : Int64)) x7)) + (aliF (ss.getD 9 (0 : Int64)) (ss.getD 6 (0 : Int64)) x7)))])) _
      refine XS.aload X39.here hx rfl (hb hby at_363) rfl rfl ?_
      show Steps p.tables e below (T39.setTop (mkF m 365 #[.val (.long p1), .second, .val (.long p2), .second, .val (.int p3), .val (.int p4), .val (.int p5), .val (.long x7), .second, .val (.ref b1), .val (.ref b50), .val (.long (ss.getD 9 (0 : Int64))), .second, .unset, .unset, .unset, .unset, .unset, .unset, .unset] [(.ref b1), (.long (ss.getD 9 (0 : Int64))), (.int (((((((aliF (ss.getD 9 (0 : Int64)) (ss.getD 0 (0 : Int64)) x7) + (aliF (ss.getD 9 (0 : Int64)) (ss.getD 1 (0 : Int64)) x7)) + (aliF (ss.getD 9 (0 : Int64)) (ss.getD 2 (0 : Int64)) x7)) + (aliF (ss.getD 9 (0 : Int64)) (ss.getD 3 (0 : Int64)) x7)) + (aliF (ss.getD 9 (0 : Int64)) (ss.getD 4 (0 : Int64)) x7)) + (aliF (ss.getD 9 (0 : Int64)) (ss.getD 5 (0 : Int64)) x7)) + (aliF (ss.getD 9 (0 : Int64)) (ss.getD 6 (0 : Int64)) x7)))])) _
      refine XS.bipush X39.here hx rfl (hb hby at_365) ?_
      show Steps p.tables e below (T39.setTop (mkF m 367 #[.val (.long p1), .second, .val (.long p2), .second, .val (.int p3), .val (.int p4), .val (.int p5), .val (.long x7), .second, .val (.ref b1), .val (.ref b50), .val (.long (ss.getD 9 (0 : Int64))), .second, .unset, .unset, .unset, .unset, .unset, .unset, .unset] [(.int (7 : Int32)), (.ref b1), (.long (ss.getD 9 (0 : Int64))), (.int (((((((aliF (ss.getD 9 (0 : Int64)) (ss.getD 0 (0 : Int64)) x7) + (aliF (ss.getD 9 (0 : Int64)) (ss.getD 1 (0 : Int64)) x7)) + (aliF (ss.getD 9 (0 : Int64)) (ss.getD 2 (0 : Int64)) x7)) + (aliF (ss.getD 9 (0 : Int64)) (ss.getD 3 (0 : Int64)) x7)) + (aliF (ss.getD 9 (0 : Int64)) (ss.getD 4 (0 : Int64)) x7)) + (aliF (ss.getD 9 (0 : Int64)) (ss.getD 5 (0 : Int64)) x7)) + (aliF (ss.getD 9 (0 : Int64)) (ss.getD 6 (0 : Int64)) x7)))])) _
      refine ldJ X39 hx hZ e39 fc0 ix40.1 ix40.2 (g := (mkF m 367 #[.val (.long p1), .second, .val (.long p2), .second, .val (.int p3), .val (.int p4), .val (.int p5), .val (.long x7), .second, .val (.ref b1), .val (.ref b50), .val (.long (ss.getD 9 (0 : Int64))), .second, .unset, .unset, .unset, .unset, .unset, .unset, .unset] [(.int (7 : Int32)), (.ref b1), (.long (ss.getD 9 (0 : Int64))), (.int (((((((aliF (ss.getD 9 (0 : Int64)) (ss.getD 0 (0 : Int64)) x7) + (aliF (ss.getD 9 (0 : Int64)) (ss.getD 1 (0 : Int64)) x7)) + (aliF (ss.getD 9 (0 : Int64)) (ss.getD 2 (0 : Int64)) x7)) + (aliF (ss.getD 9 (0 : Int64)) (ss.getD 3 (0 : Int64)) x7)) + (aliF (ss.getD 9 (0 : Int64)) (ss.getD 4 (0 : Int64)) x7)) + (aliF (ss.getD 9 (0 : Int64)) (ss.getD 5 (0 : Int64)) x7)) + (aliF (ss.getD 9 (0 : Int64)) (ss.getD 6 (0 : Int64)) x7)))])) rfl rfl (hb hby at_367) _ ?_
      show Steps p.tables e below (T39.setTop (mkF m 368 #[.val (.long p1), .second, .val (.long p2), .second, .val (.int p3), .val (.int p4), .val (.int p5), .val (.long x7), .second, .val (.ref b1), .val (.ref b50), .val (.long (ss.getD 9 (0 : Int64))), .second, .unset, .unset, .unset, .unset, .unset, .unset, .unset] [(.long (ss.getD 7 (0 : Int64))), (.long (ss.getD 9 (0 : Int64))), (.int (((((((aliF (ss.getD 9 (0 : Int64)) (ss.getD 0 (0 : Int64)) x7) + (aliF (ss.getD 9 (0 : Int64)) (ss.getD 1 (0 : Int64)) x7)) + (aliF (ss.getD 9 (0 : Int64)) (ss.getD 2 (0 : Int64)) x7)) + (aliF (ss.getD 9 (0 : Int64)) (ss.getD 3 (0 : Int64)) x7)) + (aliF (ss.getD 9 (0 : Int64)) (ss.getD 4 (0 : Int64)) x7)) + (aliF (ss.getD 9 (0 : Int64)) (ss.getD 5 (0 : Int64)) x7)) + (aliF (ss.getD 9 (0 : Int64)) (ss.getD 6 (0 : Int64)) x7)))])) _
      refine XS.lload X39.here hx rfl (hb hby at_368) rfl ?_
      show Steps p.tables e below (T39.setTop (mkF m 370 #[.val (.long p1), .second, .val (.long p2), .second, .val (.int p3), .val (.int p4), .val (.int p5), .val (.long x7), .second, .val (.ref b1), .val (.ref b50), .val (.long (ss.getD 9 (0 : Int64))), .second, .unset, .unset, .unset, .unset, .unset, .unset, .unset] [(.long x7), (.long (ss.getD 7 (0 : Int64))), (.long (ss.getD 9 (0 : Int64))), (.int (((((((aliF (ss.getD 9 (0 : Int64)) (ss.getD 0 (0 : Int64)) x7) + (aliF (ss.getD 9 (0 : Int64)) (ss.getD 1 (0 : Int64)) x7)) + (aliF (ss.getD 9 (0 : Int64)) (ss.getD 2 (0 : Int64)) x7)) + (aliF (ss.getD 9 (0 : Int64)) (ss.getD 3 (0 : Int64)) x7)) + (aliF (ss.getD 9 (0 : Int64)) (ss.getD 4 (0 : Int64)) x7)) + (aliF (ss.getD 9 (0 : Int64)) (ss.getD 5 (0 : Int64)) x7)) + (aliF (ss.getD 9 (0 : Int64)) (ss.getD 6 (0 : Int64)) x7)))])) _
      refine st41 _ ?_
      show Steps p.tables e below (T41.setTop (mkF m 373 #[.val (.long p1), .second, .val (.long p2), .second, .val (.int p3), .val (.int p4), .val (.int p5), .val (.long x7), .second, .val (.ref b1), .val (.ref b50), .val (.long (ss.getD 9 (0 : Int64))), .second, .unset, .unset, .unset, .unset, .unset, .unset, .unset] [(.int (aliF (ss.getD 9 (0 : Int64)) (ss.getD 7 (0 : Int64)) x7)), (.int (((((((aliF (ss.getD 9 (0 : Int64)) (ss.getD 0 (0 : Int64)) x7) + (aliF (ss.getD 9 (0 : Int64)) (ss.getD 1 (0 : Int64)) x7)) + (aliF (ss.getD 9 (0 : Int64)) (ss.getD 2 (0 : Int64)) x7)) + (aliF (ss.getD 9 (0 : Int64)) (ss.getD 3 (0 : Int64)) x7)) + (aliF (ss.getD 9 (0 : Int64)) (ss.getD 4 (0 : Int64)) x7)) + (aliF (ss.getD 9 (0 : Int64)) (ss.getD 5 (0 : Int64)) x7)) + (aliF (ss.getD 9 (0 : Int64)) (ss.getD 6 (0 : Int64)) x7)))])) _
      refine XS.iadd X41.here hx rfl (hb hby at_373) rfl ?_
      show Steps p.tables e below (T41.setTop (mkF m 374 #[.val (.long p1), .second, .val (.long p2), .second, .val (.int p3), .val (.int p4), .val (.int p5), .val (.long x7), .second, .val (.ref b1), .val (.ref b50), .val (.long (ss.getD 9 (0 : Int64))), .second, .unset, .unset, .unset, .unset, .unset, .unset, .unset] [(.int ((((((((aliF (ss.getD 9 (0 : Int64)) (ss.getD 0 (0 : Int64)) x7) + (aliF (ss.getD 9 (0 : Int64)) (ss.getD 1 (0 : Int64)) x7)) + (aliF (ss.getD 9 (0 : Int64)) (ss.getD 2 (0 : Int64)) x7)) + (aliF (ss.getD 9 (0 : Int64)) (ss.getD 3 (0 : Int64)) x7)) + (aliF (ss.getD 9 (0 : Int64)) (ss.getD 4 (0 : Int64)) x7)) + (aliF (ss.getD 9 (0 : Int64)) (ss.getD 5 (0 : Int64)) x7)) + (aliF (ss.getD 9 (0 : Int64)) (ss.getD 6 (0 : Int64)) x7)) + (aliF (ss.getD 9 (0 : Int64)) (ss.getD 7 (0 : Int64)) x7)))])) _
      refine XS.lload X41.here hx rfl (hb hby at_374) rfl ?_
      show Steps p.tables e below (T41.setTop (mkF m 376 #[.val (.long p1), .second, .val (.long p2), .second, .val (.int p3), .val (.int p4), .val (.int p5), .val (.long x7), .second, .val (.ref b1), .val (.ref b50), .val (.long (ss.getD 9 (0 : Int64))), .second, .unset, .unset, .unset, .unset, .unset, .unset, .unset] [(.long (ss.getD 9 (0 : Int64))), (.int ((((((((aliF (ss.getD 9 (0 : Int64)) (ss.getD 0 (0 : Int64)) x7) + (aliF (ss.getD 9 (0 : Int64)) (ss.getD 1 (0 : Int64)) x7)) + (aliF (ss.getD 9 (0 : Int64)) (ss.getD 2 (0 : Int64)) x7)) + (aliF (ss.getD 9 (0 : Int64)) (ss.getD 3 (0 : Int64)) x7)) + (aliF (ss.getD 9 (0 : Int64)) (ss.getD 4 (0 : Int64)) x7)) + (aliF (ss.getD 9 (0 : Int64)) (ss.getD 5 (0 : Int64)) x7)) + (aliF (ss.getD 9 (0 : Int64)) (ss.getD 6 (0 : Int64)) x7)) + (aliF (ss.getD 9 (0 : Int64)) (ss.getD 7 (0 : Int64)) x7)))])) _
      refine XS.aload X41.here hx rfl (hb hby at_376) rfl rfl ?_
      show Steps p.tables e below (T41.setTop (mkF m 378 #[.val (.long p1), .second, .val (.long p2), .second, .val (.int p3), .val (.int p4), .val (.int p5), .val (.long x7), .second, .val (.ref b1), .val (.ref b50), .val (.long (ss.getD 9 (0 : Int64))), .second, .unset, .unset, .unset, .unset, .unset, .unset, .unset] [(.ref b1), (.long (ss.getD 9 (0 : Int64))), (.int ((((((((aliF (ss.getD 9 (0 : Int64)) (ss.getD 0 (0 : Int64)) x7) + (aliF (ss.getD 9 (0 : Int64)) (ss.getD 1 (0 : Int64)) x7)) + (aliF (ss.getD 9 (0 : Int64)) (ss.getD 2 (0 : Int64)) x7)) + (aliF (ss.getD 9 (0 : Int64)) (ss.getD 3 (0 : Int64)) x7)) + (aliF (ss.getD 9 (0 : Int64)) (ss.getD 4 (0 : Int64)) x7)) + (aliF (ss.getD 9 (0 : Int64)) (ss.getD 5 (0 : Int64)) x7)) + (aliF (ss.getD 9 (0 : Int64)) (ss.getD 6 (0 : Int64)) x7)) + (aliF (ss.getD 9 (0 : Int64)) (ss.getD 7 (0 : Int64)) x7)))])) _
      refine XS.bipush X41.here hx rfl (hb hby at_378) ?_
      show Steps p.tables e below (T41.setTop (mkF m 380 #[.val (.long p1), .second, .val (.long p2), .second, .val (.int p3), .val (.int p4), .val (.int p5), .val (.long x7), .second, .val (.ref b1), .val (.ref b50), .val (.long (ss.getD 9 (0 : Int64))), .second, .unset, .unset, .unset, .unset, .unset, .unset, .unset] [(.int (8 : Int32)), (.ref b1), (.long (ss.getD 9 (0 : Int64))), (.int ((((((((aliF (ss.getD 9 (0 : Int64)) (ss.getD 0 (0 : Int64)) x7) + (aliF (ss.getD 9 (0 : Int64)) (ss.getD 1 (0 : Int64)) x7)) + (aliF (ss.getD 9 (0 : Int64)) (ss.getD 2 (0 : Int64)) x7)) + (aliF (ss.getD 9 (0 : Int64)) (ss.getD 3 (0 : Int64)) x7)) + (aliF (ss.getD 9 (0 : Int64)) (ss.getD 4 (0 : Int64)) x7)) + (aliF (ss.getD 9 (0 : Int64)) (ss.getD 5 (0 : Int64)) x7)) + (aliF (ss.getD 9 (0 : Int64)) (ss.getD 6 (0 : Int64)) x7)) + (aliF (ss.getD 9 (0 : Int64)) (ss.getD 7 (0 : Int64)) x7)))])) _
      refine ldJ X41 hx hZ e41 fc0 ix42.1 ix42.2 (g := (mkF m 380 #[.val (.long p1), .second, .val (.long p2), .second, .val (.int p3), .val (.int p4), .val (.int p5), .val (.long x7), .second, .val (.ref b1), .val (.ref b50), .val (.long (ss.getD 9 (0 : Int64))), .second, .unset, .unset, .unset, .unset, .unset, .unset, .unset] [(.int (8 : Int32)), (.ref b1), (.long (ss.getD 9 (0 : Int64))), (.int ((((((((aliF (ss.getD 9 (0 : Int64)) (ss.getD 0 (0 : Int64)) x7) + (aliF (ss.getD 9 (0 : Int64)) (ss.getD 1 (0 : Int64)) x7)) + (aliF (ss.getD 9 (0 : Int64)) (ss.getD 2 (0 : Int64)) x7)) + (aliF (ss.getD 9 (0 : Int64)) (ss.getD 3 (0 : Int64)) x7)) + (aliF (ss.getD 9 (0 : Int64)) (ss.getD 4 (0 : Int64)) x7)) + (aliF (ss.getD 9 (0 : Int64)) (ss.getD 5 (0 : Int64)) x7)) + (aliF (ss.getD 9 (0 : Int64)) (ss.getD 6 (0 : Int64)) x7)) + (aliF (ss.getD 9 (0 : Int64)) (ss.getD 7 (0 : Int64)) x7)))])) rfl rfl (hb hby at_380) _ ?_
      show Steps p.tables e below (T41.setTop (mkF m 381 #[.val (.long p1), .second, .val (.long p2), .second, .val (.int p3), .val (.int p4), .val (.int p5), .val (.long x7), .second, .val (.ref b1), .val (.ref b50), .val (.long (ss.getD 9 (0 : Int64))), .second, .unset, .unset, .unset, .unset, .unset, .unset, .unset] [(.long (ss.getD 8 (0 : Int64))), (.long (ss.getD 9 (0 : Int64))), (.int ((((((((aliF (ss.getD 9 (0 : Int64)) (ss.getD 0 (0 : Int64)) x7) + (aliF (ss.getD 9 (0 : Int64)) (ss.getD 1 (0 : Int64)) x7)) + (aliF (ss.getD 9 (0 : Int64)) (ss.getD 2 (0 : Int64)) x7)) + (aliF (ss.getD 9 (0 : Int64)) (ss.getD 3 (0 : Int64)) x7)) + (aliF (ss.getD 9 (0 : Int64)) (ss.getD 4 (0 : Int64)) x7)) + (aliF (ss.getD 9 (0 : Int64)) (ss.getD 5 (0 : Int64)) x7)) + (aliF (ss.getD 9 (0 : Int64)) (ss.getD 6 (0 : Int64)) x7)) + (aliF (ss.getD 9 (0 : Int64)) (ss.getD 7 (0 : Int64)) x7)))])) _
      refine XS.lload X41.here hx rfl (hb hby at_381) rfl ?_
      show Steps p.tables e below (T41.setTop (mkF m 383 #[.val (.long p1), .second, .val (.long p2), .second, .val (.int p3), .val (.int p4), .val (.int p5), .val (.long x7), .second, .val (.ref b1), .val (.ref b50), .val (.long (ss.getD 9 (0 : Int64))), .second, .unset, .unset, .unset, .unset, .unset, .unset, .unset] [(.long x7), (.long (ss.getD 8 (0 : Int64))), (.long (ss.getD 9 (0 : Int64))), (.int ((((((((aliF (ss.getD 9 (0 : Int64)) (ss.getD 0 (0 : Int64)) x7) + (aliF (ss.getD 9 (0 : Int64)) (ss.getD 1 (0 : Int64)) x7)) + (aliF (ss.getD 9 (0 : Int64)) (ss.getD 2 (0 : Int64)) x7)) + (aliF (ss.getD 9 (0 : Int64)) (ss.getD 3 (0 : Int64)) x7)) + (aliF (ss.getD 9 (0 : Int64)) (ss.getD 4 (0 : Int64)) x7)) + (aliF (ss.getD 9 (0 : Int64)) (ss.getD 5 (0 : Int64)) x7)) + (aliF (ss.getD 9 (0 : Int64)) (ss.getD 6 (0 : Int64)) x7)) + (aliF (ss.getD 9 (0 : Int64)) (ss.getD 7 (0 : Int64)) x7)))])) _
      refine st43 _ ?_
      show Steps p.tables e below (T43.setTop (mkF m 386 #[.val (.long p1), .second, .val (.long p2), .second, .val (.int p3), .val (.int p4), .val (.int p5), .val (.long x7), .second, .val (.ref b1), .val (.ref b50), .val (.long (ss.getD 9 (0 : Int64))), .second, .unset, .unset, .unset, .unset, .unset, .unset, .unset] [(.int (aliF (ss.getD 9 (0 : Int64)) (ss.getD 8 (0 : Int64)) x7)), (.int ((((((((aliF (ss.getD 9 (0 : Int64)) (ss.getD 0 (0 : Int64)) x7) + (aliF (ss.getD 9 (0 : Int64)) (ss.getD 1 (0 : Int64)) x7)) + (aliF (ss.getD 9 (0 : Int64)) (ss.getD 2 (0 : Int64)) x7)) + (aliF (ss.getD 9 (0 : Int64)) (ss.getD 3 (0 : Int64)) x7)) + (aliF (ss.getD 9 (0 : Int64)) (ss.getD 4 (0 : Int64)) x7)) + (aliF (ss.getD 9 (0 : Int64)) (ss.getD 5 (0 : Int64)) x7)) + (aliF (ss.getD 9 (0 : Int64)) (ss.getD 6 (0 : Int64)) x7)) + (aliF (ss.getD 9 (0 : Int64)) (ss.getD 7 (0 : Int64)) x7)))])) _
      refine XS.iadd X43.here hx rfl (hb hby at_386) rfl ?_
      show Steps p.tables e below (T43.setTop (mkF m 387 #[.val (.long p1), .second, .val (.long p2), .second, .val (.int p3), .val (.int p4), .val (.int p5), .val (.long x7), .second, .val (.ref b1), .val (.ref b50), .val (.long (ss.getD 9 (0 : Int64))), .second, .unset, .unset, .unset, .unset, .unset, .unset, .unset] [(.int (((((((((aliF (ss.getD 9 (0 : Int64)) (ss.getD 0 (0 : Int64)) x7) + (aliF (ss.getD 9 (0 : Int64)) (ss.getD 1 (0 : Int64)) x7)) + (aliF (ss.getD 9 (0 : Int64)) (ss.getD 2 (0 : Int64)) x7)) + (aliF (ss.getD 9 (0 : Int64)) (ss.getD 3 (0 : Int64)) x7)) + (aliF (ss.getD 9 (0 : Int64)) (ss.getD 4 (0 : Int64)) x7)) + (aliF (ss.getD 9 (0 : Int64)) (ss.getD 5 (0 : Int64)) x7)) + (aliF (ss.getD 9 (0 : Int64)) (ss.getD 6 (0 : Int64)) x7)) + (aliF (ss.getD 9 (0 : Int64)) (ss.getD 7 (0 : Int64)) x7)) + (aliF (ss.getD 9 (0 : Int64)) (ss.getD 8 (0 : Int64)) x7)))])) _
      refine XS.lload X43.here hx rfl (hb hby at_387) rfl ?_
      show Steps p.tables e below (T43.setTop (mkF m 389 #[.val (.long p1), .second, .val (.long p2), .second, .val (.int p3), .val (.int p4), .val (.int p5), .val (.long x7), .second, .val (.ref b1), .val (.ref b50), .val (.long (ss.getD 9 (0 : Int64))), .second, .unset, .unset, .unset, .unset, .unset, .unset, .unset] [(.long (ss.getD 9 (0 : Int64))), (.int (((((((((aliF (ss.getD 9 (0 : Int64)) (ss.getD 0 (0 : Int64)) x7) + (aliF (ss.getD 9 (0 : Int64)) (ss.getD 1 (0 : Int64)) x7)) + (aliF (ss.getD 9 (0 : Int64)) (ss.getD 2 (0 : Int64)) x7)) + (aliF (ss.getD 9 (0 : Int64)) (ss.getD 3 (0 : Int64)) x7)) + (aliF (ss.getD 9 (0 : Int64)) (ss.getD 4 (0 : Int64)) x7)) + (aliF (ss.getD 9 (0 : Int64)) (ss.getD 5 (0 : Int64)) x7)) + (aliF (ss.getD 9 (0 : Int64)) (ss.getD 6 (0 : Int64)) x7)) + (aliF (ss.getD 9 (0 : Int64)) (ss.getD 7 (0 : Int64)) x7)) + (aliF (ss.getD 9 (0 : Int64)) (ss.getD 8 (0 : Int64)) x7)))])) _
      refine XS.aload X43.here hx rfl (hb hby at_389) rfl rfl ?_
      show Steps p.tables e below (T43.setTop (mkF m 391 #[.val (.long p1), .second, .val (.long p2), .second, .val (.int p3), .val (.int p4), .val (.int p5), .val (.long x7), .second, .val (.ref b1), .val (.ref b50), .val (.long (ss.getD 9 (0 : Int64))), .second, .unset, .unset, .unset, .unset, .unset, .unset, .unset] [(.ref b1), (.long (ss.getD 9 (0 : Int64))), (.int (((((((((aliF (ss.getD 9 (0 : Int64)) (ss.getD 0 (0 : Int64)) x7) + (aliF (ss.getD 9 (0 : Int64)) (ss.getD 1 (0 : Int64)) x7)) + (aliF (ss.getD 9 (0 : Int64)) (ss.getD 2 (0 : Int64)) x7)) + (aliF (ss.getD 9 (0 : Int64)) (ss.getD 3 (0 : Int64)) x7)) + (aliF (ss.getD 9 (0 : Int64)) (ss.getD 4 (0 : Int64)) x7)) + (aliF (ss.getD 9 (0 : Int64)) (ss.getD 5 (0 : Int64)) x7)) + (aliF (ss.getD 9 (0 : Int64)) (ss.getD 6 (0 : Int64)) x7)) + (aliF (ss.getD 9 (0 : Int64)) (ss.getD 7 (0 : Int64)) x7)) + (aliF (ss.getD 9 (0 : Int64)) (ss.getD 8 (0 : Int64)) x7)))])) _
      refine XS.bipush X43.here hx rfl (hb hby at_391) ?_
      show Steps p.tables e below (T43.setTop (mkF m 393 #[.val (.long p1), .second, .val (.long p2), .second, .val (.int p3), .val (.int p4), .val (.int p5), .val (.long x7), .second, .val (.ref b1), .val (.ref b50), .val (.long (ss.getD 9 (0 : Int64))), .second, .unset, .unset, .unset, .unset, .unset, .unset, .unset] [(.int (9 : Int32)), (.ref b1), (.long (ss.getD 9 (0 : Int64))), (.int (((((((((aliF (ss.getD 9 (0 : Int64)) (ss.getD 0 (0 : Int64)) x7) + (aliF (ss.getD 9 (0 : Int64)) (ss.getD 1 (0 : Int64)) x7)) + (aliF (ss.getD 9 (0 : Int64)) (ss.getD 2 (0 : Int64)) x7)) + (aliF (ss.getD 9 (0 : Int64)) (ss.getD 3 (0 : Int64)) x7)) + (aliF (ss.getD 9 (0 : Int64)) (ss.getD 4 (0 : Int64)) x7)) + (aliF (ss.getD 9 (0 : Int64)) (ss.getD 5 (0 : Int64)) x7)) + (aliF (ss.getD 9 (0 : Int64)) (ss.getD 6 (0 : Int64)) x7)) + (aliF (ss.getD 9 (0 : Int64)) (ss.getD 7 (0 : Int64)) x7)) + (aliF (ss.getD 9 (0 : Int64)) (ss.getD 8 (0 : Int64)) x7)))])) _
      refine ldJ X43 hx hZ e43 fc0 ix44.1 ix44.2 (g := (mkF m 393 #[.val (.long p1), .second, .val (.long p2), .second, .val (.int p3), .val (.int p4), .val (.int p5), .val (.long x7), .second, .val (.ref b1), .val (.ref b50), .val (.long (ss.getD 9 (0 : Int64))), .second, .unset, .unset, .unset, .unset, .unset, .unset, .unset] [(.int (9 : Int32)), (.ref b1), (.long (ss.getD 9 (0 : Int64))), (.int (((((((((aliF (ss.getD 9 (0 : Int64)) (ss.getD 0 (0 : Int64)) x7) + (aliF (ss.getD 9 (0 : Int64)) (ss.getD 1 (0 : Int64)) x7)) + (aliF (ss.getD 9 (0 : Int64)) (ss.getD 2 (0 : Int64)) x7)) + (aliF (ss.getD 9 (0 : Int64)) (ss.getD 3 (0 : Int64)) x7)) + (aliF (ss.getD 9 (0 : Int64)) (ss.getD 4 (0 : Int64)) x7)) + (aliF (ss.getD 9 (0 : Int64)) (ss.getD 5 (0 : Int64)) x7)) + (aliF (ss.getD 9 (0 : Int64)) (ss.getD 6 (0 : Int64)) x7)) + (aliF (ss.getD 9 (0 : Int64)) (ss.getD 7 (0 : Int64)) x7)) + (aliF (ss.getD 9 (0 : Int64)) (ss.getD 8 (0 : Int64)) x7)))])) rfl rfl (hb hby at_393) _ ?_
      show Steps p.tables e below (T43.setTop (mkF m 394 #[.val (.long p1), .second, .val (.long p2), .second, .val (.int p3), .val (.int p4), .val (.int p5), .val (.long x7), .second, .val (.ref b1), .val (.ref b50), .val (.long (ss.getD 9 (0 : Int64))), .second, .unset, .unset, .unset, .unset, .unset, .unset, .unset] [(.long (ss.getD 9 (0 : Int64))), (.long (ss.getD 9 (0 : Int64))), (.int (((((((((aliF (ss.getD 9 (0 : Int64)) (ss.getD 0 (0 : Int64)) x7) + (aliF (ss.getD 9 (0 : Int64)) (ss.getD 1 (0 : Int64)) x7)) + (aliF (ss.getD 9 (0 : Int64)) (ss.getD 2 (0 : Int64)) x7)) + (aliF (ss.getD 9 (0 : Int64)) (ss.getD 3 (0 : Int64)) x7)) + (aliF (ss.getD 9 (0 : Int64)) (ss.getD 4 (0 : Int64)) x7)) + (aliF (ss.getD 9 (0 : Int64)) (ss.getD 5 (0 : Int64)) x7)) + (aliF (ss.getD 9 (0 : Int64)) (ss.getD 6 (0 : Int64)) x7)) + (aliF (ss.getD 9 (0 : Int64)) (ss.getD 7 (0 : Int64)) x7)) + (aliF (ss.getD 9 (0 : Int64)) (ss.getD 8 (0 : Int64)) x7)))])) _
      refine XS.lload X43.here hx rfl (hb hby at_394) rfl ?_
      show Steps p.tables e below (T43.setTop (mkF m 396 #[.val (.long p1), .second, .val (.long p2), .second, .val (.int p3), .val (.int p4), .val (.int p5), .val (.long x7), .second, .val (.ref b1), .val (.ref b50), .val (.long (ss.getD 9 (0 : Int64))), .second, .unset, .unset, .unset, .unset, .unset, .unset, .unset] [(.long x7), (.long (ss.getD 9 (0 : Int64))), (.long (ss.getD 9 (0 : Int64))), (.int (((((((((aliF (ss.getD 9 (0 : Int64)) (ss.getD 0 (0 : Int64)) x7) + (aliF (ss.getD 9 (0 : Int64)) (ss.getD 1 (0 : Int64)) x7)) + (aliF (ss.getD 9 (0 : Int64)) (ss.getD 2 (0 : Int64)) x7)) + (aliF (ss.getD 9 (0 : Int64)) (ss.getD 3 (0 : Int64)) x7)) + (aliF (ss.getD 9 (0 : Int64)) (ss.getD 4 (0 : Int64)) x7)) + (aliF (ss.getD 9 (0 : Int64)) (ss.getD 5 (0 : Int64)) x7)) + (aliF (ss.getD 9 (0 : Int64)) (ss.getD 6 (0 : Int64)) x7)) + (aliF (ss.getD 9 (0 : Int64)) (ss.getD 7 (0 : Int64)) x7)) + (aliF (ss.getD 9 (0 : Int64)) (ss.getD 8 (0 : Int64)) x7)))])) _
      refine st45 _ ?_
      show Steps p.tables e below (T45.setTop (mkF m 399 #[.val (.long p1), .second, .val (.long p2), .second, .val (.int p3), .val (.int p4), .val (.int p5), .val (.long x7), .second, .val (.ref b1), .val (.ref b50), .val (.long (ss.getD 9 (0 : Int64))), .second, .unset, .unset, .unset, .unset, .unset, .unset, .unset] [(.int (aliF (ss.getD 9 (0 : Int64)) (ss.getD 9 (0 : Int64)) x7)), (.int (((((((((aliF (ss.getD 9 (0 : Int64)) (ss.getD 0 (0 : Int64)) x7) + (aliF (ss.getD 9 (0 : Int64)) (ss.getD 1 (0 : Int64)) x7)) + (aliF (ss.getD 9 (0 : Int64)) (ss.getD 2 (0 : Int64)) x7)) + (aliF (ss.getD 9 (0 : Int64)) (ss.getD 3 (0 : Int64)) x7)) + (aliF (ss.getD 9 (0 : Int64)) (ss.getD 4 (0 : Int64)) x7)) + (aliF (ss.getD 9 (0 : Int64)) (ss.getD 5 (0 : Int64)) x7)) + (aliF (ss.getD 9 (0 : Int64)) (ss.getD 6 (0 : Int64)) x7)) + (aliF (ss.getD 9 (0 : Int64)) (ss.getD 7 (0 : Int64)) x7)) + (aliF (ss.getD 9 (0 : Int64)) (ss.getD 8 (0 : Int64)) x7)))])) _
      refine XS.iadd X45.here hx rfl (hb hby at_399) rfl ?_
      show Steps p.tables e below (T45.setTop (mkF m 400 #[.val (.long p1), .second, .val (.long p2), .second, .val (.int p3), .val (.int p4), .val (.int p5), .val (.long x7), .second, .val (.ref b1), .val (.ref b50), .val (.long (ss.getD 9 (0 : Int64))), .second, .unset, .unset, .unset, .unset, .unset, .unset, .unset] [(.int ((((((((((aliF (ss.getD 9 (0 : Int64)) (ss.getD 0 (0 : Int64)) x7) + (aliF (ss.getD 9 (0 : Int64)) (ss.getD 1 (0 : Int64)) x7)) + (aliF (ss.getD 9 (0 : Int64)) (ss.getD 2 (0 : Int64)) x7)) + (aliF (ss.getD 9 (0 : Int64)) (ss.getD 3 (0 : Int64)) x7)) + (aliF (ss.getD 9 (0 : Int64)) (ss.getD 4 (0 : Int64)) x7)) + (aliF (ss.getD 9 (0 : Int64)) (ss.getD 5 (0 : Int64)) x7)) + (aliF (ss.getD 9 (0 : Int64)) (ss.getD 6 (0 : Int64)) x7)) + (aliF (ss.getD 9 (0 : Int64)) (ss.getD 7 (0 : Int64)) x7)) + (aliF (ss.getD 9 (0 : Int64)) (ss.getD 8 (0 : Int64)) x7)) + (aliF (ss.getD 9 (0 : Int64)) (ss.getD 9 (0 : Int64)) x7)))])) _
      refine XS.istore X45.here hx rfl (hb hby at_400) rfl (l' := #[.val (.long p1), .second, .val (.long p2), .second, .val (.int p3), .val (.int p4), .val (.int p5), .val (.long x7), .second, .val (.ref b1), .val (.ref b50), .val (.long (ss.getD 9 (0 : Int64))), .second, .val (.int ((((((((((aliF (ss.getD 9 (0 : Int64)) (ss.getD 0 (0 : Int64)) x7) + (aliF (ss.getD 9 (0 : Int64)) (ss.getD 1 (0 : Int64)) x7)) + (aliF (ss.getD 9 (0 : Int64)) (ss.getD 2 (0 : Int64)) x7)) + (aliF (ss.getD 9 (0 : Int64)) (ss.getD 3 (0 : Int64)) x7)) + (aliF (ss.getD 9 (0 : Int64)) (ss.getD 4 (0 : Int64)) x7)) + (aliF (ss.getD 9 (0 : Int64)) (ss.getD 5 (0 : Int64)) x7)) + (aliF (ss.getD 9 (0 : Int64)) (ss.getD 6 (0 : Int64)) x7)) + (aliF (ss.getD 9 (0 : Int64)) (ss.getD 7 (0 : Int64)) x7)) + (aliF (ss.getD 9 (0 : Int64)) (ss.getD 8 (0 : Int64)) x7)) + (aliF (ss.getD 9 (0 : Int64)) (ss.getD 9 (0 : Int64)) x7))), .unset, .unset, .unset, .unset, .unset, .unset]) rfl ?_
      show Steps p.tables e below (T45.setTop (mkF m 402 #[.val (.long p1), .second, .val (.long p2), .second, .val (.int p3), .val (.int p4), .val (.int p5), .val (.long x7), .second, .val (.ref b1), .val (.ref b50), .val (.long (ss.getD 9 (0 : Int64))), .second, .val (.int ((((((((((aliF (ss.getD 9 (0 : Int64)) (ss.getD 0 (0 : Int64)) x7) + (aliF (ss.getD 9 (0 : Int64)) (ss.getD 1 (0 : Int64)) x7)) + (aliF (ss.getD 9 (0 : Int64)) (ss.getD 2 (0 : Int64)) x7)) + (aliF (ss.getD 9 (0 : Int64)) (ss.getD 3 (0 : Int64)) x7)) + (aliF (ss.getD 9 (0 : Int64)) (ss.getD 4 (0 : Int64)) x7)) + (aliF (ss.getD 9 (0 : Int64)) (ss.getD 5 (0 : Int64)) x7)) + (aliF (ss.getD 9 (0 : Int64)) (ss.getD 6 (0 : Int64)) x7)) + (aliF (ss.getD 9 (0 : Int64)) (ss.getD 7 (0 : Int64)) x7)) + (aliF (ss.getD 9 (0 : Int64)) (ss.getD 8 (0 : Int64)) x7)) + (aliF (ss.getD 9 (0 : Int64)) (ss.getD 9 (0 : Int64)) x7))), .unset, .unset, .unset, .unset, .unset, .unset] [])) _
      refine XS.iload X45.here hx rfl (hb hby at_402) rfl ?_
      show Steps p.tables e below (T45.setTop (mkF m 404 #[.val (.long p1), .second, .val (.long p2), .second, .val (.int p3), .val (.int p4), .val (.int p5), .val (.long x7), .second, .val (.ref b1), .val (.ref b50), .val (.long (ss.getD 9 (0 : Int64))), .second, .val (.int ((((((((((aliF (ss.getD 9 (0 : Int64)) (ss.getD 0 (0 : Int64)) x7) + (aliF (ss.getD 9 (0 : Int64)) (ss.getD 1 (0 : Int64)) x7)) + (aliF (ss.getD 9 (0 : Int64)) (ss.getD 2 (0 : Int64)) x7)) + (aliF (ss.getD 9 (0 : Int64)) (ss.getD 3 (0 : Int64)) x7)) + (aliF (ss.getD 9 (0 : Int64)) (ss.getD 4 (0 : Int64)) x7)) + (aliF (ss.getD 9 (0 : Int64)) (ss.getD 5 (0 : Int64)) x7)) + (aliF (ss.getD 9 (0 : Int64)) (ss.getD 6 (0 : Int64)) x7)) + (aliF (ss.getD 9 (0 : Int64)) (ss.getD 7 (0 : Int64)) x7)) + (aliF (ss.getD 9 (0 : Int64)) (ss.getD 8 (0 : Int64)) x7)) + (aliF (ss.getD 9 (0 : Int64)) (ss.getD 9 (0 : Int64)) x7))), .unset, .unset, .unset, .unset, .unset, .unset] [(.int p5)])) _
      refine X45.ldcInt hx hown (mvT hZ (hw _ (List.mem_of_getElem? (i := 44) rfl))) (g := (mkF m 404 #[.val (.long p1), .second, .val (.long p2), .second, .val (.int p3), .val (.int p4), .val (.int p5), .val (.long x7), .second, .val (.ref b1), .val (.ref b50), .val (.long (ss.getD 9 (0 : Int64))), .second, .val (.int ((((((((((aliF (ss.getD 9 (0 : Int64)) (ss.getD 0 (0 : Int64)) x7) + (aliF (ss.getD 9 (0 : Int64)) (ss.getD 1 (0 : Int64)) x7)) + (aliF (ss.getD 9 (0 : Int64)) (ss.getD 2 (0 : Int64)) x7)) + (aliF (ss.getD 9 (0 : Int64)) (ss.getD 3 (0 : Int64)) x7)) + (aliF (ss.getD 9 (0 : Int64)) (ss.getD 4 (0 : Int64)) x7)) + (aliF (ss.getD 9 (0 : Int64)) (ss.getD 5 (0 : Int64)) x7)) + (aliF (ss.getD 9 (0 : Int64)) (ss.getD 6 (0 : Int64)) x7)) + (aliF (ss.getD 9 (0 : Int64)) (ss.getD 7 (0 : Int64)) x7)) + (aliF (ss.getD 9 (0 : Int64)) (ss.getD 8 (0 : Int64)) x7)) + (aliF (ss.getD 9 (0 : Int64)) (ss.getD 9 (0 : Int64)) x7))), .unset, .unset, .unset, .unset, .unset, .unset] [(.int p5)])) rfl (hb hby at_404) _ ?_
      show Steps p.tables e below (T45.setTop (mkF m 406 #[.val (.long p1), .second, .val (.long p2), .second, .val (.int p3), .val (.int p4), .val (.int p5), .val (.long x7), .second, .val (.ref b1), .val (.ref b50), .val (.long (ss.getD 9 (0 : Int64))), .second, .val (.int ((((((((((aliF (ss.getD 9 (0 : Int64)) (ss.getD 0 (0 : Int64)) x7) + (aliF (ss.getD 9 (0 : Int64)) (ss.getD 1 (0 : Int64)) x7)) + (aliF (ss.getD 9 (0 : Int64)) (ss.getD 2 (0 : Int64)) x7)) + (aliF (ss.getD 9 (0 : Int64)) (ss.getD 3 (0 : Int64)) x7)) + (aliF (ss.getD 9 (0 : Int64)) (ss.getD 4 (0 : Int64)) x7)) + (aliF (ss.getD 9 (0 : Int64)) (ss.getD 5 (0 : Int64)) x7)) + (aliF (ss.getD 9 (0 : Int64)) (ss.getD 6 (0 : Int64)) x7)) + (aliF (ss.getD 9 (0 : Int64)) (ss.getD 7 (0 : Int64)) x7)) + (aliF (ss.getD 9 (0 : Int64)) (ss.getD 8 (0 : Int64)) x7)) + (aliF (ss.getD 9 (0 : Int64)) (ss.getD 9 (0 : Int64)) x7))), .unset, .unset, .unset, .unset, .unset, .unset] [(.int (2147483647 : Int32)), (.int p5)])) _
      refine XS.iand X45.here hx rfl (hb hby at_406) rfl ?_
      show Steps p.tables e below (T45.setTop (mkF m 407 #[.val (.long p1), .second, .val (.long p2), .second, .val (.int p3), .val (.int p4), .val (.int p5), .val (.long x7), .second, .val (.ref b1), .val (.ref b50), .val (.long (ss.getD 9 (0 : Int64))), .second, .val (.int ((((((((((aliF (ss.getD 9 (0 : Int64)) (ss.getD 0 (0 : Int64)) x7) + (aliF (ss.getD 9 (0 : Int64)) (ss.getD 1 (0 : Int64)) x7)) + (aliF (ss.getD 9 (0 : Int64)) (ss.getD 2 (0 : Int64)) x7)) + (aliF (ss.getD 9 (0 : Int64)) (ss.getD 3 (0 : Int64)) x7)) + (aliF (ss.getD 9 (0 : Int64)) (ss.getD 4 (0 : Int64)) x7)) + (aliF (ss.getD 9 (0 : Int64)) (ss.getD 5 (0 : Int64)) x7)) + (aliF (ss.getD 9 (0 : Int64)) (ss.getD 6 (0 : Int64)) x7)) + (aliF (ss.getD 9 (0 : Int64)) (ss.getD 7 (0 : Int64)) x7)) + (aliF (ss.getD 9 (0 : Int64)) (ss.getD 8 (0 : Int64)) x7)) + (aliF (ss.getD 9 (0 : Int64)) (ss.getD 9 (0 : Int64)) x7))), .unset, .unset, .unset, .unset, .unset, .unset] [(.int (p5 &&& (2147483647 : Int32)))])) _
      refine XS.istore X45.here hx rfl (hb hby at_407) rfl (l' := #[.val (.long p1), .second, .val (.long p2), .second, .val (.int p3), .val (.int p4), .val (.int p5), .val (.long x7), .second, .val (.ref b1), .val (.ref b50), .val (.long (ss.getD 9 (0 : Int64))), .second, .val (.int ((((((((((aliF (ss.getD 9 (0 : Int64)) (ss.getD 0 (0 : Int64)) x7) + (aliF (ss.getD 9 (0 : Int64)) (ss.getD 1 (0 : Int64)) x7)) + (aliF (ss.getD 9 (0 : Int64)) (ss.getD 2 (0 : Int64)) x7)) + (aliF (ss.getD 9 (0 : Int64)) (ss.getD 3 (0 : Int64)) x7)) + (aliF (ss.getD 9 (0 : Int64)) (ss.getD 4 (0 : Int64)) x7)) + (aliF (ss.getD 9 (0 : Int64)) (ss.getD 5 (0 : Int64)) x7)) + (aliF (ss.getD 9 (0 : Int64)) (ss.getD 6 (0 : Int64)) x7)) + (aliF (ss.getD 9 (0 : Int64)) (ss.getD 7 (0 : Int64)) x7)) + (aliF (ss.getD 9 (0 : Int64)) (ss.getD 8 (0 : Int64)) x7)) + (aliF (ss.getD 9 (0 : Int64)) (ss.getD 9 (0 : Int64)) x7))), .val (.int (p5 &&& (2147483647 : Int32))), .unset, .unset, .unset, .unset, .unset]) rfl ?_
      show Steps p.tables e below (T45.setTop (mkF m 409 #[.val (.long p1), .second, .val (.long p2), .second, .val (.int p3), .val (.int p4), .val (.int p5), .val (.long x7), .second, .val (.ref b1), .val (.ref b50), .val (.long (ss.getD 9 (0 : Int64))), .second, .val (.int ((((((((((aliF (ss.getD 9 (0 : Int64)) (ss.getD 0 (0 : Int64)) x7) + (aliF (ss.getD 9 (0 : Int64)) (ss.getD 1 (0 : Int64)) x7)) + (aliF (ss.getD 9 (0 : Int64)) (ss.getD 2 (0 : Int64)) x7)) + (aliF (ss.getD 9 (0 : Int64)) (ss.getD 3 (0 : Int64)) x7)) + (aliF (ss.getD 9 (0 : Int64)) (ss.getD 4 (0 : Int64)) x7)) + (aliF (ss.getD 9 (0 : Int64)) (ss.getD 5 (0 : Int64)) x7)) + (aliF (ss.getD 9 (0 : Int64)) (ss.getD 6 (0 : Int64)) x7)) + (aliF (ss.getD 9 (0 : Int64)) (ss.getD 7 (0 : Int64)) x7)) + (aliF (ss.getD 9 (0 : Int64)) (ss.getD 8 (0 : Int64)) x7)) + (aliF (ss.getD 9 (0 : Int64)) (ss.getD 9 (0 : Int64)) x7))), .val (.int (p5 &&& (2147483647 : Int32))), .unset, .unset, .unset, .unset, .unset] [])) _
      refine XS.iload X45.here hx rfl (hb hby at_409) rfl ?_
      show Steps p.tables e below (T45.setTop (mkF m 411 #[.val (.long p1), .second, .val (.long p2), .second, .val (.int p3), .val (.int p4), .val (.int p5), .val (.long x7), .second, .val (.ref b1), .val (.ref b50), .val (.long (ss.getD 9 (0 : Int64))), .second, .val (.int ((((((((((aliF (ss.getD 9 (0 : Int64)) (ss.getD 0 (0 : Int64)) x7) + (aliF (ss.getD 9 (0 : Int64)) (ss.getD 1 (0 : Int64)) x7)) + (aliF (ss.getD 9 (0 : Int64)) (ss.getD 2 (0 : Int64)) x7)) + (aliF (ss.getD 9 (0 : Int64)) (ss.getD 3 (0 : Int64)) x7)) + (aliF (ss.getD 9 (0 : Int64)) (ss.getD 4 (0 : Int64)) x7)) + (aliF (ss.getD 9 (0 : Int64)) (ss.getD 5 (0 : Int64)) x7)) + (aliF (ss.getD 9 (0 : Int64)) (ss.getD 6 (0 : Int64)) x7)) + (aliF (ss.getD 9 (0 : Int64)) (ss.getD 7 (0 : Int64)) x7)) + (aliF (ss.getD 9 (0 : Int64)) (ss.getD 8 (0 : Int64)) x7)) + (aliF (ss.getD 9 (0 : Int64)) (ss.getD 9 (0 : Int64)) x7))), .val (.int (p5 &&& (2147483647 : Int32))), .unset, .unset, .unset, .unset, .unset] [(.int (p5 &&& (2147483647 : Int32)))])) _
      refine XS.bipush X45.here hx rfl (hb hby at_411) ?_
      show Steps p.tables e below (T45.setTop (mkF m 413 #[.val (.long p1), .second, .val (.long p2), .second, .val (.int p3), .val (.int p4), .val (.int p5), .val (.long x7), .second, .val (.ref b1), .val (.ref b50), .val (.long (ss.getD 9 (0 : Int64))), .second, .val (.int ((((((((((aliF (ss.getD 9 (0 : Int64)) (ss.getD 0 (0 : Int64)) x7) + (aliF (ss.getD 9 (0 : Int64)) (ss.getD 1 (0 : Int64)) x7)) + (aliF (ss.getD 9 (0 : Int64)) (ss.getD 2 (0 : Int64)) x7)) + (aliF (ss.getD 9 (0 : Int64)) (ss.getD 3 (0 : Int64)) x7)) + (aliF (ss.getD 9 (0 : Int64)) (ss.getD 4 (0 : Int64)) x7)) + (aliF (ss.getD 9 (0 : Int64)) (ss.getD 5 (0 : Int64)) x7)) + (aliF (ss.getD 9 (0 : Int64)) (ss.getD 6 (0 : Int64)) x7)) + (aliF (ss.getD 9 (0 : Int64)) (ss.getD 7 (0 : Int64)) x7)) + (aliF (ss.getD 9 (0 : Int64)) (ss.getD 8 (0 : Int64)) x7)) + (aliF (ss.getD 9 (0 : Int64)) (ss.getD 9 (0 : Int64)) x7))), .val (.int (p5 &&& (2147483647 : Int32))), .unset, .unset, .unset, .unset, .unset] [(.int (10 : Int32)), (.int (p5 &&& (2147483647 : Int32)))])) _
      refine XS.irem X45.here hx rfl (hb hby at_413) rfl (by decide) ?_
      show Steps p.tables e below (T45.setTop (mkF m 414 #[.val (.long p1), .second, .val (.long p2), .second, .val (.int p3), .val (.int p4), .val (.int p5), .val (.long x7), .second, .val (.ref b1), .val (.ref b50), .val (.long (ss.getD 9 (0 : Int64))), .second, .val (.int ((((((((((aliF (ss.getD 9 (0 : Int64)) (ss.getD 0 (0 : Int64)) x7) + (aliF (ss.getD 9 (0 : Int64)) (ss.getD 1 (0 : Int64)) x7)) + (aliF (ss.getD 9 (0 : Int64)) (ss.getD 2 (0 : Int64)) x7)) + (aliF (ss.getD 9 (0 : Int64)) (ss.getD 3 (0 : Int64)) x7)) + (aliF (ss.getD 9 (0 : Int64)) (ss.getD 4 (0 : Int64)) x7)) + (aliF (ss.getD 9 (0 : Int64)) (ss.getD 5 (0 : Int64)) x7)) + (aliF (ss.getD 9 (0 : Int64)) (ss.getD 6 (0 : Int64)) x7)) + (aliF (ss.getD 9 (0 : Int64)) (ss.getD 7 (0 : Int64)) x7)) + (aliF (ss.getD 9 (0 : Int64)) (ss.getD 8 (0 : Int64)) x7)) + (aliF (ss.getD 9 (0 : Int64)) (ss.getD 9 (0 : Int64)) x7))), .val (.int (p5 &&& (2147483647 : Int32))), .unset, .unset, .unset, .unset, .unset] [(.int ((p5 &&& (2147483647 : Int32)) - ((p5 &&& (2147483647 : Int32)) / (10 : Int32)) * (10 : Int32)))])) _
      rw [own_irem ((p5 &&& (2147483647 : Int32))) ((10 : Int32))]
      show Steps p.tables e below (T45.setTop (mkF m 414 #[.val (.long p1), .second, .val (.long p2), .second, .val (.int p3), .val (.int p4), .val (.int p5), .val (.long x7), .second, .val (.ref b1), .val (.ref b50), .val (.long (ss.getD 9 (0 : Int64))), .second, .val (.int ((((((((((aliF (ss.getD 9 (0 : Int64)) (ss.getD 0 (0 : Int64)) x7) + (aliF (ss.getD 9 (0 : Int64)) (ss.getD 1 (0 : Int64)) x7)) + (aliF (ss.getD 9 (0 : Int64)) (ss.getD 2 (0 : Int64)) x7)) + (aliF (ss.getD 9 (0 : Int64)) (ss.getD 3 (0 : Int64)) x7)) + (aliF (ss.getD 9 (0 : Int64)) (ss.getD 4 (0 : Int64)) x7)) + (aliF (ss.getD 9 (0 : Int64)) (ss.getD 5 (0 : Int64)) x7)) + (aliF (ss.getD 9 (0 : Int64)) (ss.getD 6 (0 : Int64)) x7)) + (aliF (ss.getD 9 (0 : Int64)) (ss.getD 7 (0 : Int64)) x7)) + (aliF (ss.getD 9 (0 : Int64)) (ss.getD 8 (0 : Int64)) x7)) + (aliF (ss.getD 9 (0 : Int64)) (ss.getD 9 (0 : Int64)) x7))), .val (.int (p5 &&& (2147483647 : Int32))), .unset, .unset, .unset, .unset, .unset] [(.int ((p5 &&& (2147483647 : Int32)) % (10 : Int32)))])) _
      refine XS.istore X45.here hx rfl (hb hby at_414) rfl (l' := #[.val (.long p1), .second, .val (.long p2), .second, .val (.int p3), .val (.int p4), .val (.int p5), .val (.long x7), .second, .val (.ref b1), .val (.ref b50), .val (.long (ss.getD 9 (0 : Int64))), .second, .val (.int ((((((((((aliF (ss.getD 9 (0 : Int64)) (ss.getD 0 (0 : Int64)) x7) + (aliF (ss.getD 9 (0 : Int64)) (ss.getD 1 (0 : Int64)) x7)) + (aliF (ss.getD 9 (0 : Int64)) (ss.getD 2 (0 : Int64)) x7)) + (aliF (ss.getD 9 (0 : Int64)) (ss.getD 3 (0 : Int64)) x7)) + (aliF (ss.getD 9 (0 : Int64)) (ss.getD 4 (0 : Int64)) x7)) + (aliF (ss.getD 9 (0 : Int64)) (ss.getD 5 (0 : Int64)) x7)) + (aliF (ss.getD 9 (0 : Int64)) (ss.getD 6 (0 : Int64)) x7)) + (aliF (ss.getD 9 (0 : Int64)) (ss.getD 7 (0 : Int64)) x7)) + (aliF (ss.getD 9 (0 : Int64)) (ss.getD 8 (0 : Int64)) x7)) + (aliF (ss.getD 9 (0 : Int64)) (ss.getD 9 (0 : Int64)) x7))), .val (.int (p5 &&& (2147483647 : Int32))), .val (.int ((p5 &&& (2147483647 : Int32)) % (10 : Int32))), .unset, .unset, .unset, .unset]) rfl ?_
      show Steps p.tables e below (T45.setTop (mkF m 416 #[.val (.long p1), .second, .val (.long p2), .second, .val (.int p3), .val (.int p4), .val (.int p5), .val (.long x7), .second, .val (.ref b1), .val (.ref b50), .val (.long (ss.getD 9 (0 : Int64))), .second, .val (.int ((((((((((aliF (ss.getD 9 (0 : Int64)) (ss.getD 0 (0 : Int64)) x7) + (aliF (ss.getD 9 (0 : Int64)) (ss.getD 1 (0 : Int64)) x7)) + (aliF (ss.getD 9 (0 : Int64)) (ss.getD 2 (0 : Int64)) x7)) + (aliF (ss.getD 9 (0 : Int64)) (ss.getD 3 (0 : Int64)) x7)) + (aliF (ss.getD 9 (0 : Int64)) (ss.getD 4 (0 : Int64)) x7)) + (aliF (ss.getD 9 (0 : Int64)) (ss.getD 5 (0 : Int64)) x7)) + (aliF (ss.getD 9 (0 : Int64)) (ss.getD 6 (0 : Int64)) x7)) + (aliF (ss.getD 9 (0 : Int64)) (ss.getD 7 (0 : Int64)) x7)) + (aliF (ss.getD 9 (0 : Int64)) (ss.getD 8 (0 : Int64)) x7)) + (aliF (ss.getD 9 (0 : Int64)) (ss.getD 9 (0 : Int64)) x7))), .val (.int (p5 &&& (2147483647 : Int32))), .val (.int ((p5 &&& (2147483647 : Int32)) % (10 : Int32))), .unset, .unset, .unset, .unset] [])) _
      refine XS.iload X45.here hx rfl (hb hby at_416) rfl ?_
      show Steps p.tables e below (T45.setTop (mkF m 418 #[.val (.long p1), .second, .val (.long p2), .second, .val (.int p3), .val (.int p4), .val (.int p5), .val (.long x7), .second, .val (.ref b1), .val (.ref b50), .val (.long (ss.getD 9 (0 : Int64))), .second, .val (.int ((((((((((aliF (ss.getD 9 (0 : Int64)) (ss.getD 0 (0 : Int64)) x7) + (aliF (ss.getD 9 (0 : Int64)) (ss.getD 1 (0 : Int64)) x7)) + (aliF (ss.getD 9 (0 : Int64)) (ss.getD 2 (0 : Int64)) x7)) + (aliF (ss.getD 9 (0 : Int64)) (ss.getD 3 (0 : Int64)) x7)) + (aliF (ss.getD 9 (0 : Int64)) (ss.getD 4 (0 : Int64)) x7)) + (aliF (ss.getD 9 (0 : Int64)) (ss.getD 5 (0 : Int64)) x7)) + (aliF (ss.getD 9 (0 : Int64)) (ss.getD 6 (0 : Int64)) x7)) + (aliF (ss.getD 9 (0 : Int64)) (ss.getD 7 (0 : Int64)) x7)) + (aliF (ss.getD 9 (0 : Int64)) (ss.getD 8 (0 : Int64)) x7)) + (aliF (ss.getD 9 (0 : Int64)) (ss.getD 9 (0 : Int64)) x7))), .val (.int (p5 &&& (2147483647 : Int32))), .val (.int ((p5 &&& (2147483647 : Int32)) % (10 : Int32))), .unset, .unset, .unset, .unset] [(.int ((p5 &&& (2147483647 : Int32)) % (10 : Int32)))])) _
      refine XS.iconst X45.here hx rfl (hb hby at_418) ?_
      show Steps p.tables e below (T45.setTop (mkF m 419 #[.val (.long p1), .second, .val (.long p2), .second, .val (.int p3), .val (.int p4), .val (.int p5), .val (.long x7), .second, .val (.ref b1), .val (.ref b50), .val (.long (ss.getD 9 (0 : Int64))), .second, .val (.int ((((((((((aliF (ss.getD 9 (0 : Int64)) (ss.getD 0 (0 : Int64)) x7) + (aliF (ss.getD 9 (0 : Int64)) (ss.getD 1 (0 : Int64)) x7)) + (aliF (ss.getD 9 (0 : Int64)) (ss.getD 2 (0 : Int64)) x7)) + (aliF (ss.getD 9 (0 : Int64)) (ss.getD 3 (0 : Int64)) x7)) + (aliF (ss.getD 9 (0 : Int64)) (ss.getD 4 (0 : Int64)) x7)) + (aliF (ss.getD 9 (0 : Int64)) (ss.getD 5 (0 : Int64)) x7)) + (aliF (ss.getD 9 (0 : Int64)) (ss.getD 6 (0 : Int64)) x7)) + (aliF (ss.getD 9 (0 : Int64)) (ss.getD 7 (0 : Int64)) x7)) + (aliF (ss.getD 9 (0 : Int64)) (ss.getD 8 (0 : Int64)) x7)) + (aliF (ss.getD 9 (0 : Int64)) (ss.getD 9 (0 : Int64)) x7))), .val (.int (p5 &&& (2147483647 : Int32))), .val (.int ((p5 &&& (2147483647 : Int32)) % (10 : Int32))), .unset, .unset, .unset, .unset] [(.int (1 : Int32)), (.int ((p5 &&& (2147483647 : Int32)) % (10 : Int32)))])) _
      refine XS.iadd X45.here hx rfl (hb hby at_419) rfl ?_
      show Steps p.tables e below (T45.setTop (mkF m 420 #[.val (.long p1), .second, .val (.long p2), .second, .val (.int p3), .val (.int p4), .val (.int p5), .val (.long x7), .second, .val (.ref b1), .val (.ref b50), .val (.long (ss.getD 9 (0 : Int64))), .second, .val (.int ((((((((((aliF (ss.getD 9 (0 : Int64)) (ss.getD 0 (0 : Int64)) x7) + (aliF (ss.getD 9 (0 : Int64)) (ss.getD 1 (0 : Int64)) x7)) + (aliF (ss.getD 9 (0 : Int64)) (ss.getD 2 (0 : Int64)) x7)) + (aliF (ss.getD 9 (0 : Int64)) (ss.getD 3 (0 : Int64)) x7)) + (aliF (ss.getD 9 (0 : Int64)) (ss.getD 4 (0 : Int64)) x7)) + (aliF (ss.getD 9 (0 : Int64)) (ss.getD 5 (0 : Int64)) x7)) + (aliF (ss.getD 9 (0 : Int64)) (ss.getD 6 (0 : Int64)) x7)) + (aliF (ss.getD 9 (0 : Int64)) (ss.getD 7 (0 : Int64)) x7)) + (aliF (ss.getD 9 (0 : Int64)) (ss.getD 8 (0 : Int64)) x7)) + (aliF (ss.getD 9 (0 : Int64)) (ss.getD 9 (0 : Int64)) x7))), .val (.int (p5 &&& (2147483647 : Int32))), .val (.int ((p5 &&& (2147483647 : Int32)) % (10 : Int32))), .unset, .unset, .unset, .unset] [(.int (((p5 &&& (2147483647 : Int32)) % (10 : Int32)) + (1 : Int32)))])) _
      refine XS.iload X45.here hx rfl (hb hby at_420) rfl ?_
      show Steps p.tables e below (T45.setTop (mkF m 422 #[.val (.long p1), .second, .val (.long p2), .second, .val (.int p3), .val (.int p4), .val (.int p5), .val (.long x7), .second, .val (.ref b1), .val (.ref b50), .val (.long (ss.getD 9 (0 : Int64))), .second, .val (.int ((((((((((aliF (ss.getD 9 (0 : Int64)) (ss.getD 0 (0 : Int64)) x7) + (aliF (ss.getD 9 (0 : Int64)) (ss.getD 1 (0 : Int64)) x7)) + (aliF (ss.getD 9 (0 : Int64)) (ss.getD 2 (0 : Int64)) x7)) + (aliF (ss.getD 9 (0 : Int64)) (ss.getD 3 (0 : Int64)) x7)) + (aliF (ss.getD 9 (0 : Int64)) (ss.getD 4 (0 : Int64)) x7)) + (aliF (ss.getD 9 (0 : Int64)) (ss.getD 5 (0 : Int64)) x7)) + (aliF (ss.getD 9 (0 : Int64)) (ss.getD 6 (0 : Int64)) x7)) + (aliF (ss.getD 9 (0 : Int64)) (ss.getD 7 (0 : Int64)) x7)) + (aliF (ss.getD 9 (0 : Int64)) (ss.getD 8 (0 : Int64)) x7)) + (aliF (ss.getD 9 (0 : Int64)) (ss.getD 9 (0 : Int64)) x7))), .val (.int (p5 &&& (2147483647 : Int32))), .val (.int ((p5 &&& (2147483647 : Int32)) % (10 : Int32))), .unset, .unset, .unset, .unset] [(.int (p5 &&& (2147483647 : Int32))), (.int (((p5 &&& (2147483647 : Int32)) % (10 : Int32)) + (1 : Int32)))])) _
      refine XS.bipush X45.here hx rfl (hb hby at_422) ?_
      show Steps p.tables e below (T45.setTop (mkF m 424 #[.val (.long p1), .second, .val (.long p2), .second, .val (.int p3), .val (.int p4), .val (.int p5), .val (.long x7), .second, .val (.ref b1), .val (.ref b50), .val (.long (ss.getD 9 (0 : Int64))), .second, .val (.int ((((((((((aliF (ss.getD 9 (0 : Int64)) (ss.getD 0 (0 : Int64)) x7) + (aliF (ss.getD 9 (0 : Int64)) (ss.getD 1 (0 : Int64)) x7)) + (aliF (ss.getD 9 (0 : Int64)) (ss.getD 2 (0 : Int64)) x7)) + (aliF (ss.getD 9 (0 : Int64)) (ss.getD 3 (0 : Int64)) x7)) + (aliF (ss.getD 9 (0 : Int64)) (ss.getD 4 (0 : Int64)) x7)) + (aliF (ss.getD 9 (0 : Int64)) (ss.getD 5 (0 : Int64)) x7)) + (aliF (ss.getD 9 (0 : Int64)) (ss.getD 6 (0 : Int64)) x7)) + (aliF (ss.getD 9 (0 : Int64)) (ss.getD 7 (0 : Int64)) x7)) + (aliF (ss.getD 9 (0 : Int64)) (ss.getD 8 (0 : Int64)) x7)) + (aliF (ss.getD 9 (0 : Int64)) (ss.getD 9 (0 : Int64)) x7))), .val (.int (p5 &&& (2147483647 : Int32))), .val (.int ((p5 &&& (2147483647 : Int32)) % (10 : Int32))), .unset, .unset, .unset, .unset] [(.int (10 : Int32)), (.int (p5 &&& (2147483647 : Int32))), (.int (((p5 &&& (2147483647 : Int32)) % (10 : Int32)) + (1 : Int32)))])) _
      refine XS.idiv X45.here hx rfl (hb hby at_424) rfl (by decide) ?_
      show Steps p.tables e below (T45.setTop (mkF m 425 #[.val (.long p1), .second, .val (.long p2), .second, .val (.int p3), .val (.int p4), .val (.int p5), .val (.long x7), .second, .val (.ref b1), .val (.ref b50), .val (.long (ss.getD 9 (0 : Int64))), .second, .val (.int ((((((((((aliF (ss.getD 9 (0 : Int64)) (ss.getD 0 (0 : Int64)) x7) + (aliF (ss.getD 9 (0 : Int64)) (ss.getD 1 (0 : Int64)) x7)) + (aliF (ss.getD 9 (0 : Int64)) (ss.getD 2 (0 : Int64)) x7)) + (aliF (ss.getD 9 (0 : Int64)) (ss.getD 3 (0 : Int64)) x7)) + (aliF (ss.getD 9 (0 : Int64)) (ss.getD 4 (0 : Int64)) x7)) + (aliF (ss.getD 9 (0 : Int64)) (ss.getD 5 (0 : Int64)) x7)) + (aliF (ss.getD 9 (0 : Int64)) (ss.getD 6 (0 : Int64)) x7)) + (aliF (ss.getD 9 (0 : Int64)) (ss.getD 7 (0 : Int64)) x7)) + (aliF (ss.getD 9 (0 : Int64)) (ss.getD 8 (0 : Int64)) x7)) + (aliF (ss.getD 9 (0 : Int64)) (ss.getD 9 (0 : Int64)) x7))), .val (.int (p5 &&& (2147483647 : Int32))), .val (.int ((p5 &&& (2147483647 : Int32)) % (10 : Int32))), .unset, .unset, .unset, .unset] [(.int ((p5 &&& (2147483647 : Int32)) / (10 : Int32))), (.int (((p5 &&& (2147483647 : Int32)) % (10 : Int32)) + (1 : Int32)))])) _
      refine XS.bipush X45.here hx rfl (hb hby at_425) ?_
      show Steps p.tables e below (T45.setTop (mkF m 427 #[.val (.long p1), .second, .val (.long p2), .second, .val (.int p3), .val (.int p4), .val (.int p5), .val (.long x7), .second, .val (.ref b1), .val (.ref b50), .val (.long (ss.getD 9 (0 : Int64))), .second, .val (.int ((((((((((aliF (ss.getD 9 (0 : Int64)) (ss.getD 0 (0 : Int64)) x7) + (aliF (ss.getD 9 (0 : Int64)) (ss.getD 1 (0 : Int64)) x7)) + (aliF (ss.getD 9 (0 : Int64)) (ss.getD 2 (0 : Int64)) x7)) + (aliF (ss.getD 9 (0 : Int64)) (ss.getD 3 (0 : Int64)) x7)) + (aliF (ss.getD 9 (0 : Int64)) (ss.getD 4 (0 : Int64)) x7)) + (aliF (ss.getD 9 (0 : Int64)) (ss.getD 5 (0 : Int64)) x7)) + (aliF (ss.getD 9 (0 : Int64)) (ss.getD 6 (0 : Int64)) x7)) + (aliF (ss.getD 9 (0 : Int64)) (ss.getD 7 (0 : Int64)) x7)) + (aliF (ss.getD 9 (0 : Int64)) (ss.getD 8 (0 : Int64)) x7)) + (aliF (ss.getD 9 (0 : Int64)) (ss.getD 9 (0 : Int64)) x7))), .val (.int (p5 &&& (2147483647 : Int32))), .val (.int ((p5 &&& (2147483647 : Int32)) % (10 : Int32))), .unset, .unset, .unset, .unset] [(.int (9 : Int32)), (.int ((p5 &&& (2147483647 : Int32)) / (10 : Int32))), (.int (((p5 &&& (2147483647 : Int32)) % (10 : Int32)) + (1 : Int32)))])) _
      refine XS.irem X45.here hx rfl (hb hby at_427) rfl (by decide) ?_
      show Steps p.tables e below (T45.setTop (mkF m 428 #[.val (.long p1), .second, .val (.long p2), .second, .val (.int p3), .val (.int p4), .val (.int p5), .val (.long x7), .second, .val (.ref b1), .val (.ref b50), .val (.long (ss.getD 9 (0 : Int64))), .second, .val (.int ((((((((((aliF (ss.getD 9 (0 : Int64)) (ss.getD 0 (0 : Int64)) x7) + (aliF (ss.getD 9 (0 : Int64)) (ss.getD 1 (0 : Int64)) x7)) + (aliF (ss.getD 9 (0 : Int64)) (ss.getD 2 (0 : Int64)) x7)) + (aliF (ss.getD 9 (0 : Int64)) (ss.getD 3 (0 : Int64)) x7)) + (aliF (ss.getD 9 (0 : Int64)) (ss.getD 4 (0 : Int64)) x7)) + (aliF (ss.getD 9 (0 : Int64)) (ss.getD 5 (0 : Int64)) x7)) + (aliF (ss.getD 9 (0 : Int64)) (ss.getD 6 (0 : Int64)) x7)) + (aliF (ss.getD 9 (0 : Int64)) (ss.getD 7 (0 : Int64)) x7)) + (aliF (ss.getD 9 (0 : Int64)) (ss.getD 8 (0 : Int64)) x7)) + (aliF (ss.getD 9 (0 : Int64)) (ss.getD 9 (0 : Int64)) x7))), .val (.int (p5 &&& (2147483647 : Int32))), .val (.int ((p5 &&& (2147483647 : Int32)) % (10 : Int32))), .unset, .unset, .unset, .unset] [(.int (((p5 &&& (2147483647 : Int32)) / (10 : Int32)) - (((p5 &&& (2147483647 : Int32)) / (10 : Int32)) / (9 : Int32)) * (9 : Int32))), (.int (((p5 &&& (2147483647 : Int32)) % (10 : Int32)) + (1 : Int32)))])) _
      rw [own_irem (((p5 &&& (2147483647 : Int32)) / (10 : Int32))) ((9 : Int32))]
      show Steps p.tables e below (T45.setTop (mkF m 428 #[.val (.long p1), .second, .val (.long p2), .second, .val (.int p3), .val (.int p4), .val (.int p5), .val (.long x7), .second, .val (.ref b1), .val (.ref b50), .val (.long (ss.getD 9 (0 : Int64))), .second, .val (.int ((((((((((aliF (ss.getD 9 (0 : Int64)) (ss.getD 0 (0 : Int64)) x7) + (aliF (ss.getD 9 (0 : Int64)) (ss.getD 1 (0 : Int64)) x7)) + (aliF (ss.getD 9 (0 : Int64)) (ss.getD 2 (0 : Int64)) x7)) + (aliF (ss.getD 9 (0 : Int64)) (ss.getD 3 (0 : Int64)) x7)) + (aliF (ss.getD 9 (0 : Int64)) (ss.getD 4 (0 : Int64)) x7)) + (aliF (ss.getD 9 (0 : Int64)) (ss.getD 5 (0 : Int64)) x7)) + (aliF (ss.getD 9 (0 : Int64)) (ss.getD 6 (0 : Int64)) x7)) + (aliF (ss.getD 9 (0 : Int64)) (ss.getD 7 (0 : Int64)) x7)) + (aliF (ss.getD 9 (0 : Int64)) (ss.getD 8 (0 : Int64)) x7)) + (aliF (ss.getD 9 (0 : Int64)) (ss.getD 9 (0 : Int64)) x7))), .val (.int (p5 &&& (2147483647 : Int32))), .val (.int ((p5 &&& (2147483647 : Int32)) % (10 : Int32))), .unset, .unset, .unset, .unset] [(.int (((p5 &&& (2147483647 : Int32)) / (10 : Int32)) % (9 : Int32))), (.int (((p5 &&& (2147483647 : Int32)) % (10 : Int32)) + (1 : Int32)))])) _
      refine XS.iadd X45.here hx rfl (hb hby at_428) rfl ?_
      show Steps p.tables e below (T45.setTop (mkF m 429 #[.val (.long p1), .second, .val (.long p2), .second, .val (.int p3), .val (.int p4), .val (.int p5), .val (.long x7), .second, .val (.ref b1), .val (.ref b50), .val (.long (ss.getD 9 (0 : Int64))), .second, .val (.int ((((((((((aliF (ss.getD 9 (0 : Int64)) (ss.getD 0 (0 : Int64)) x7) + (aliF (ss.getD 9 (0 : Int64)) (ss.getD 1 (0 : Int64)) x7)) + (aliF (ss.getD 9 (0 : Int64)) (ss.getD 2 (0 : Int64)) x7)) + (aliF (ss.getD 9 (0 : Int64)) (ss.getD 3 (0 : Int64)) x7)) + (aliF (ss.getD 9 (0 : Int64)) (ss.getD 4 (0 : Int64)) x7)) + (aliF (ss.getD 9 (0 : Int64)) (ss.getD 5 (0 : Int64)) x7)) + (aliF (ss.getD 9 (0 : Int64)) (ss.getD 6 (0 : Int64)) x7)) + (aliF (ss.getD 9 (0 : Int64)) (ss.getD 7 (0 : Int64)) x7)) + (aliF (ss.getD 9 (0 : Int64)) (ss.getD 8 (0 : Int64)) x7)) + (aliF (ss.getD 9 (0 : Int64)) (ss.getD 9 (0 : Int64)) x7))), .val (.int (p5 &&& (2147483647 : Int32))), .val (.int ((p5 &&& (2147483647 : Int32)) % (10 : Int32))), .unset, .unset, .unset, .unset] [(.int ((((p5 &&& (2147483647 : Int32)) % (10 : Int32)) + (1 : Int32)) + (((p5 &&& (2147483647 : Int32)) / (10 : Int32)) % (9 : Int32))))])) _
      refine XS.bipush X45.here hx rfl (hb hby at_429) ?_
      show Steps p.tables e below (T45.setTop (mkF m 431 #[.val (.long p1), .second, .val (.long p2), .second, .val (.int p3), .val (.int p4), .val (.int p5), .val (.long x7), .second, .val (.ref b1), .val (.ref b50), .val (.long (ss.getD 9 (0 : Int64))), .second, .val (.int ((((((((((aliF (ss.getD 9 (0 : Int64)) (ss.getD 0 (0 : Int64)) x7) + (aliF (ss.getD 9 (0 : Int64)) (ss.getD 1 (0 : Int64)) x7)) + (aliF (ss.getD 9 (0 : Int64)) (ss.getD 2 (0 : Int64)) x7)) + (aliF (ss.getD 9 (0 : Int64)) (ss.getD 3 (0 : Int64)) x7)) + (aliF (ss.getD 9 (0 : Int64)) (ss.getD 4 (0 : Int64)) x7)) + (aliF (ss.getD 9 (0 : Int64)) (ss.getD 5 (0 : Int64)) x7)) + (aliF (ss.getD 9 (0 : Int64)) (ss.getD 6 (0 : Int64)) x7)) + (aliF (ss.getD 9 (0 : Int64)) (ss.getD 7 (0 : Int64)) x7)) + (aliF (ss.getD 9 (0 : Int64)) (ss.getD 8 (0 : Int64)) x7)) + (aliF (ss.getD 9 (0 : Int64)) (ss.getD 9 (0 : Int64)) x7))), .val (.int (p5 &&& (2147483647 : Int32))), .val (.int ((p5 &&& (2147483647 : Int32)) % (10 : Int32))), .unset, .unset, .unset, .unset] [(.int (10 : Int32)), (.int ((((p5 &&& (2147483647 : Int32)) % (10 : Int32)) + (1 : Int32)) + (((p5 &&& (2147483647 : Int32)) / (10 : Int32)) % (9 : Int32))))])) _
      refine XS.irem X45.here hx rfl (hb hby at_431) rfl (by decide) ?_
      show Steps p.tables e below (T45.setTop (mkF m 432 #[.val (.long p1), .second, .val (.long p2), .second, .val (.int p3), .val (.int p4), .val (.int p5), .val (.long x7), .second, .val (.ref b1), .val (.ref b50), .val (.long (ss.getD 9 (0 : Int64))), .second, .val (.int ((((((((((aliF (ss.getD 9 (0 : Int64)) (ss.getD 0 (0 : Int64)) x7) + (aliF (ss.getD 9 (0 : Int64)) (ss.getD 1 (0 : Int64)) x7)) + (aliF (ss.getD 9 (0 : Int64)) (ss.getD 2 (0 : Int64)) x7)) + (aliF (ss.getD 9 (0 : Int64)) (ss.getD 3 (0 : Int64)) x7)) + (aliF (ss.getD 9 (0 : Int64)) (ss.getD 4 (0 : Int64)) x7)) + (aliF (ss.getD 9 (0 : Int64)) (ss.getD 5 (0 : Int64)) x7)) + (aliF (ss.getD 9 (0 : Int64)) (ss.getD 6 (0 : Int64)) x7)) + (aliF (ss.getD 9 (0 : Int64)) (ss.getD 7 (0 : Int64)) x7)) + (aliF (ss.getD 9 (0 : Int64)) (ss.getD 8 (0 : Int64)) x7)) + (aliF (ss.getD 9 (0 : Int64)) (ss.getD 9 (0 : Int64)) x7))), .val (.int (p5 &&& (2147483647 : Int32))), .val (.int ((p5 &&& (2147483647 : Int32)) % (10 : Int32))), .unset, .unset, .unset, .unset] [(.int (((((p5 &&& (2147483647 : Int32)) % (10 : Int32)) + (1 : Int32)) + (((p5 &&& (2147483647 : Int32)) / (10 : Int32)) % (9 : Int32))) - (((((p5 &&& (2147483647 : Int32)) % (10 : Int32)) + (1 : Int32)) + (((p5 &&& (2147483647 : Int32)) / (10 : Int32)) % (9 : Int32))) / (10 : Int32)) * (10 : Int32)))])) _
      rw [own_irem (((((p5 &&& (2147483647 : Int32)) % (10 : Int32)) + (1 : Int32)) + (((p5 &&& (2147483647 : Int32)) / (10 : Int32)) % (9 : Int32)))) ((10 : Int32))]
      show Steps p.tables e below (T45.setTop (mkF m 432 #[.val (.long p1), .second, .val (.long p2), .second, .val (.int p3), .val (.int p4), .val (.int p5), .val (.long x7), .second, .val (.ref b1), .val (.ref b50), .val (.long (ss.getD 9 (0 : Int64))), .second, .val (.int ((((((((((aliF (ss.getD 9 (0 : Int64)) (ss.getD 0 (0 : Int64)) x7) + (aliF (ss.getD 9 (0 : Int64)) (ss.getD 1 (0 : Int64)) x7)) + (aliF (ss.getD 9 (0 : Int64)) (ss.getD 2 (0 : Int64)) x7)) + (aliF (ss.getD 9 (0 : Int64)) (ss.getD 3 (0 : Int64)) x7)) + (aliF (ss.getD 9 (0 : Int64)) (ss.getD 4 (0 : Int64)) x7)) + (aliF (ss.getD 9 (0 : Int64)) (ss.getD 5 (0 : Int64)) x7)) + (aliF (ss.getD 9 (0 : Int64)) (ss.getD 6 (0 : Int64)) x7)) + (aliF (ss.getD 9 (0 : Int64)) (ss.getD 7 (0 : Int64)) x7)) + (aliF (ss.getD 9 (0 : Int64)) (ss.getD 8 (0 : Int64)) x7)) + (aliF (ss.getD 9 (0 : Int64)) (ss.getD 9 (0 : Int64)) x7))), .val (.int (p5 &&& (2147483647 : Int32))), .val (.int ((p5 &&& (2147483647 : Int32)) % (10 : Int32))), .unset, .unset, .unset, .unset] [(.int (((((p5 &&& (2147483647 : Int32)) % (10 : Int32)) + (1 : Int32)) + (((p5 &&& (2147483647 : Int32)) / (10 : Int32)) % (9 : Int32))) % (10 : Int32)))])) _
      refine XS.istore X45.here hx rfl (hb hby at_432) rfl (l' := #[.val (.long p1), .second, .val (.long p2), .second, .val (.int p3), .val (.int p4), .val (.int p5), .val (.long x7), .second, .val (.ref b1), .val (.ref b50), .val (.long (ss.getD 9 (0 : Int64))), .second, .val (.int ((((((((((aliF (ss.getD 9 (0 : Int64)) (ss.getD 0 (0 : Int64)) x7) + (aliF (ss.getD 9 (0 : Int64)) (ss.getD 1 (0 : Int64)) x7)) + (aliF (ss.getD 9 (0 : Int64)) (ss.getD 2 (0 : Int64)) x7)) + (aliF (ss.getD 9 (0 : Int64)) (ss.getD 3 (0 : Int64)) x7)) + (aliF (ss.getD 9 (0 : Int64)) (ss.getD 4 (0 : Int64)) x7)) + (aliF (ss.getD 9 (0 : Int64)) (ss.getD 5 (0 : Int64)) x7)) + (aliF (ss.getD 9 (0 : Int64)) (ss.getD 6 (0 : Int64)) x7)) + (aliF (ss.getD 9 (0 : Int64)) (ss.getD 7 (0 : Int64)) x7)) + (aliF (ss.getD 9 (0 : Int64)) (ss.getD 8 (0 : Int64)) x7)) + (aliF (ss.getD 9 (0 : Int64)) (ss.getD 9 (0 : Int64)) x7))), .val (.int (p5 &&& (2147483647 : Int32))), .val (.int ((p5 &&& (2147483647 : Int32)) % (10 : Int32))), .val (.int (((((p5 &&& (2147483647 : Int32)) % (10 : Int32)) + (1 : Int32)) + (((p5 &&& (2147483647 : Int32)) / (10 : Int32)) % (9 : Int32))) % (10 : Int32))), .unset, .unset, .unset]) rfl ?_
      exact kt
    exact S434 _ _ _ _ X45 (Nat.le_trans (Nat.add_le_add_right (Nat.add_le_add_right (Nat.add_le_add_right (Nat.add_le_add_right (Nat.add_le_add_right (Nat.add_le_add_right (Nat.add_le_add_right (Nat.add_le_add_right (Nat.add_le_add_right (Nat.add_le_add_right hcl 0) 0) 0) 0) 0) 0) 0) 0) 0) 0) (by decide)) (Nat.le_trans (Nat.add_le_add_right (Nat.add_le_add_right (Nat.add_le_add_right (Nat.add_le_add_right (Nat.add_le_add_right (Nat.add_le_add_right (Nat.add_le_add_right (Nat.add_le_add_right (Nat.add_le_add_right (Nat.add_le_add_right hsl 0) 0) 0) 0) 0) 0) 0) 0) 0) 0) (by decide)) h e45 N45 x7 (ss.getD 9 (0 : Int64)) ((((((((((aliF (ss.getD 9 (0 : Int64)) (ss.getD 0 (0 : Int64)) x7) + (aliF (ss.getD 9 (0 : Int64)) (ss.getD 1 (0 : Int64)) x7)) + (aliF (ss.getD 9 (0 : Int64)) (ss.getD 2 (0 : Int64)) x7)) + (aliF (ss.getD 9 (0 : Int64)) (ss.getD 3 (0 : Int64)) x7)) + (aliF (ss.getD 9 (0 : Int64)) (ss.getD 4 (0 : Int64)) x7)) + (aliF (ss.getD 9 (0 : Int64)) (ss.getD 5 (0 : Int64)) x7)) + (aliF (ss.getD 9 (0 : Int64)) (ss.getD 6 (0 : Int64)) x7)) + (aliF (ss.getD 9 (0 : Int64)) (ss.getD 7 (0 : Int64)) x7)) + (aliF (ss.getD 9 (0 : Int64)) (ss.getD 8 (0 : Int64)) x7)) + (aliF (ss.getD 9 (0 : Int64)) (ss.getD 9 (0 : Int64)) x7)) (p5 &&& (2147483647 : Int32)) ((p5 &&& (2147483647 : Int32)) % (10 : Int32)) (((((p5 &&& (2147483647 : Int32)) % (10 : Int32)) + (1 : Int32)) + (((p5 &&& (2147483647 : Int32)) / (10 : Int32)) % (9 : Int32))) % (10 : Int32)) b1 b50 s2_102 a2_102 ss c1 o1 sl al NN K fc0 fc1 fc2 fc3 fc4 fc5 fc6 fc7 fc8 g_b1 g_b50 g_s2_102 g_a2_102 sz_b1 sz_b50 sz_s2_102 sz_a2_102 ne_b1_b50 ne_b1_s2_102 ne_b50_s2_102 ne_b1_a2_102 ne_b50_a2_102 ne_s2_102_a2_102 hA hS h7 rfl (own_n13 hS h7) (own_jk p5)
  have S260 : ∀ (T : State) (locs : List Loc) (cells slots : Nat) (X : Stand p l e room_1 s m #[(.long p1), (.long p2), (.int p3), (.int p4), (.int p5)] below meth c T locs cells slots) (hcl : cells ≤ 6) (hsl : slots ≤ 63) (h : Heap) (eT : T.heap = h) (N : Fr n0 locs) (x7 : Int64)  (b1 : Addr) (b50 : Addr) (s2_93 : Addr) (a2_93 : Addr) (ss : List Int64) (c1 : Int32) (o1 : Int32) (sl : List Int64) (al : List Int32) (NN : Nat) (K : Keep h0 h []) (fc0 : VA Z h b1 .long (ss.map Value.long)) (fc1 : Exa Z h b50 "com/example/talthybius/talthybius/AwaitedPings") (fc2 : Fld Z h b50 "com/example/talthybius/talthybius/AwaitedPings" "sentAt" "[J" (.ref s2_93)) (fc3 : Fld Z h b50 "com/example/talthybius/talthybius/AwaitedPings" "answered" "[Z" (.ref a2_93)) (fc4 : Fld Z h b50 "com/example/talthybius/talthybius/AwaitedPings" "timeoutNanos" "J" (.long x7)) (fc5 : Fld Z h b50 "com/example/talthybius/talthybius/AwaitedPings" "count" "I" (.int c1)) (fc6 : Fld Z h b50 "com/example/talthybius/talthybius/AwaitedPings" "oldest" "I" (.int o1)) (fc7 : VA Z h s2_93 .long (sl.map Value.long)) (fc8 : VA Z h a2_93 .boolean (al.map Value.int)) (g_b1 : n0 ≤ b1) (g_b50 : n0 ≤ b50) (g_s2_93 : n0 ≤ s2_93) (g_a2_93 : n0 ≤ a2_93) (sz_b1 : h0.size ≤ b1) (sz_b50 : h0.size ≤ b50) (sz_s2_93 : h0.size ≤ s2_93) (sz_a2_93 : h0.size ≤ a2_93) (ne_b1_b50 : b1 ≠ b50) (ne_b1_s2_93 : b1 ≠ s2_93) (ne_b50_s2_93 : b50 ≠ s2_93) (ne_b1_a2_93 : b1 ≠ a2_93) (ne_b50_a2_93 : b50 ≠ a2_93) (ne_s2_93_a2_93 : s2_93 ≠ a2_93) (hA : own_AP NN sl al o1 c1 (own_Qn x7 ss 8)) (hl : (own_Qn x7 ss 8).length ≤ 9) (hS : own_SS 9 ss) (h7 : 0 ≤ x7.toInt), Go p e below s (Q0 Z p1 p2 p3 p4 p5 h0 n0) 24 192 T (mkF m 260 #[.val (.long p1), .second, .val (.long p2), .second, .val (.int p3), .val (.int p4), .val (.int p5), .val (.long x7), .second, .val (.ref b1), .val (.ref b50), .unset, .unset, .unset, .unset, .unset, .unset, .unset, .unset, .unset] []) := by
    intro T locs cells slots X hcl hsl h eT N x7 b1 b50 s2_93 a2_93 ss c1 o1 sl al NN K fc0 fc1 fc2 fc3 fc4 fc5 fc6 fc7 fc8 g_b1 g_b50 g_s2_93 g_a2_93 sz_b1 sz_b50 sz_s2_93 sz_a2_93 ne_b1_b50 ne_b1_s2_93 ne_b50_s2_93 ne_b1_a2_93 ne_b50_a2_93 ne_s2_93_a2_93 hA hl hS h7
    have Zh : n0 ≤ h.size := Nat.le_trans Z0 K.1
    have ix46 : 0 ≤ ((9 : Int32)).toInt ∧ ((9 : Int32)).toInt < ((ss).length : Int) := own_ixl hS (by decide)
    refine Go.step (T' := T) (f' := (mkF m 267 #[.val (.long p1), .second, .val (.long p2), .second, .val (.int p3), .val (.int p4), .val (.int p5), .val (.long x7), .second, .val (.ref b1), .val (.ref b50), .unset, .unset, .unset, .unset, .unset, .unset, .unset, .unset, .unset] [(.long (ss.getD 9 (0 : Int64))), (.ref b50)])) (fun t kt => ?_) ?_
    · show Steps p.tables e below (T.setTop (mkF m 260 #[.val (.long p1), .second, .val (.long p2), .second, .val (.int p3), .val (.int p4), .val (.int p5), .val (.long x7), .second, .val (.ref b1), .val (.ref b50), .unset, .unset, .unset, .unset, .unset, .unset, .unset, .unset, .unset] [])) _
      refine XS.aload X.here hx rfl (hb hby at_260) rfl rfl ?_
      show Steps p.tables e below (T.setTop (mkF m 262 #[.val (.long p1), .second, .val (.long p2), .second, .val (.int p3), .val (.int p4), .val (.int p5), .val (.long x7), .second, .val (.ref b1), .val (.ref b50), .unset, .unset, .unset, .unset, .unset, .unset, .unset, .unset, .unset] [(.ref b50)])) _
      refine XS.aload X.here hx rfl (hb hby at_262) rfl rfl ?_
      show Steps p.tables e below (T.setTop (mkF m 264 #[.val (.long p1), .second, .val (.long p2), .second, .val (.int p3), .val (.int p4), .val (.int p5), .val (.long x7), .second, .val (.ref b1), .val (.ref b50), .unset, .unset, .unset, .unset, .unset, .unset, .unset, .unset, .unset] [(.ref b1), (.ref b50)])) _
      refine XS.bipush X.here hx rfl (hb hby at_264) ?_
      show Steps p.tables e below (T.setTop (mkF m 266 #[.val (.long p1), .second, .val (.long p2), .second, .val (.int p3), .val (.int p4), .val (.int p5), .val (.long x7), .second, .val (.ref b1), .val (.ref b50), .unset, .unset, .unset, .unset, .unset, .unset, .unset, .unset, .unset] [(.int (9 : Int32)), (.ref b1), (.ref b50)])) _
      refine ldJ X hx hZ eT fc0 ix46.1 ix46.2 (g := (mkF m 266 #[.val (.long p1), .second, .val (.long p2), .second, .val (.int p3), .val (.int p4), .val (.int p5), .val (.long x7), .second, .val (.ref b1), .val (.ref b50), .unset, .unset, .unset, .unset, .unset, .unset, .unset, .unset, .unset] [(.int (9 : Int32)), (.ref b1), (.ref b50)])) rfl rfl (hb hby at_266) _ ?_
      exact kt
    by_cases hg267 : NN = 8 ∧ (own_dr (ss.getD 9 (0 : Int64)) x7 (own_Qn x7 ss 8)).length = 8
    · have _ := hg267
      obtain ⟨cq47, kq47, q47a, q47b, q47c⟩ := isOf hZ eT (fc1 : Exa Z h b50 "com/example/talthybius/talthybius/AwaitedPings")
      obtain ⟨_, _, ⟨T47, L47, k47, n47⟩, -, X47, ⟨Lc47, hQ47, l47, y47, z47⟩, st47⟩ := X.virtualBack hx (y := (⟨"com/example/talthybius/talthybius/AwaitedPings", "sent", "(J)V"⟩ : MethodName)) (z := (⟨"com/example/talthybius/talthybius/AwaitedPings", "sent", "(J)V"⟩ : MethodName)) hown (mvT hZ (hw _ (List.mem_of_getElem? (i := 24) rfl))) (mvT hZ (hw _ (List.mem_of_getElem? (i := 25) rfl))) (notFace_of_selects (args := #[]) (mvT hZ (hw _ (List.mem_of_getElem? (i := 27) rfl)))) (mvT hZ (hw _ (List.mem_of_getElem? (i := 27) rfl))) (mvT hZ (hw _ (List.mem_of_getElem? (i := 26) rfl))) (by decide) (backOf (W := 0) (rm_senG l Z a0 hw [] b50 (ss.getD 9 (0 : Int64)) s2_93 a2_93 x7 o1 c1 sl al (own_Qn x7 ss 8) h n0 Zh fc1 fc4 fc2 fc3 fc6 fc5 fc7 fc8 g_b50 ne_b50_s2_93 ne_b50_a2_93 ne_s2_93_a2_93 (own_hA8 hg267.1 hA) hg267.2) hZ (hw _ (List.mem_of_getElem? (i := 28) rfl)) (hw _ (List.mem_of_getElem? (i := 10) rfl)) (by decide) (by decide)) q47a q47c (g := (mkF m 267 #[.val (.long p1), .second, .val (.long p2), .second, .val (.int p3), .val (.int p4), .val (.int p5), .val (.long x7), .second, .val (.ref b1), .val (.ref b50), .unset, .unset, .unset, .unset, .unset, .unset, .unset, .unset, .unset] [(.long (ss.getD 9 (0 : Int64))), (.ref b50)])) rfl (by rw [hml]; rfl) (Steps.refl _) (argsL := [(.long (ss.getD 9 (0 : Int64)))]) (rest := []) (lenOf pd_1 rfl) rfl (by show 2 * 0 + _ ≤ _; exact Nat.le_of_eq rfl) (hb hby at_267) (fun _ _ => ⟨rfl, eT, (Nat.le_trans (Nat.add_le_add_right hcl 2) (by decide)), (Nat.le_trans (Nat.add_le_add_right hsl 32) (by decide))⟩)
      dsimp only [Pt.U, Pt.locs, Pt.cells, Pt.slots] at X47 l47 y47 z47 st47 hQ47
      subst l47 y47 z47
      obtain ⟨s2_47, a2_47, o1_47, c1_47, sl1_47, al1_47, rfl, N47q, Kq47, fz_s2_47, fz_a2_47, ne_s2_47_a2_47, pf47_0, pf47_1, pf47_2, pf47_3, pf47_4, pf47_5, pf47_6, ph47_0⟩ := hQ47
      have oldlt_47_b1 : b1 < h.size := fc0.lt
      have oldlt_47_b50 : b50 < h.size := fc1.lt
      have oldlt_47_s2_93 : s2_93 < h.size := fc7.lt
      have oldlt_47_a2_93 : a2_93 < h.size := fc8.lt
      have G48 : VA Z T47.heap b1 .long (ss.map Value.long) := fc0.keep Kq47 (ninS ne_b1_b50 nin0)
      have G49 : Exa Z T47.heap b50 "com/example/talthybius/talthybius/AwaitedPings" := Exa.keep fc1 Kq47
      have G50 : VA Z T47.heap s2_93 .long (sl.map Value.long) := fc7.keep Kq47 (ninS (Ne.symm ne_b50_s2_93) nin0)
      have G51 : VA Z T47.heap a2_93 .boolean (al.map Value.int) := fc8.keep Kq47 (ninS (Ne.symm ne_b50_a2_93) nin0)
      have ne_b1_s2_47 : b1 ≠ s2_47 := Nat.ne_of_lt (Nat.lt_of_lt_of_le oldlt_47_b1 fz_s2_47)
      have ne_b50_s2_47 : b50 ≠ s2_47 := Nat.ne_of_lt (Nat.lt_of_lt_of_le oldlt_47_b50 fz_s2_47)
      have ne_s2_93_s2_47 : s2_93 ≠ s2_47 := Nat.ne_of_lt (Nat.lt_of_lt_of_le oldlt_47_s2_93 fz_s2_47)
      have ne_a2_93_s2_47 : a2_93 ≠ s2_47 := Nat.ne_of_lt (Nat.lt_of_lt_of_le oldlt_47_a2_93 fz_s2_47)
      have g_s2_47 : n0 ≤ s2_47 := Nat.le_trans Zh fz_s2_47
      have sz_s2_47 : h0.size ≤ s2_47 := Nat.le_trans K.1 fz_s2_47
      have ne_b1_a2_47 : b1 ≠ a2_47 := Nat.ne_of_lt (Nat.lt_of_lt_of_le oldlt_47_b1 fz_a2_47)
      have ne_b50_a2_47 : b50 ≠ a2_47 := Nat.ne_of_lt (Nat.lt_of_lt_of_le oldlt_47_b50 fz_a2_47)
      have ne_s2_93_a2_47 : s2_93 ≠ a2_47 := Nat.ne_of_lt (Nat.lt_of_lt_of_le oldlt_47_s2_93 fz_a2_47)
      have ne_a2_93_a2_47 : a2_93 ≠ a2_47 := Nat.ne_of_lt (Nat.lt_of_lt_of_le oldlt_47_a2_93 fz_a2_47)
      have g_a2_47 : n0 ≤ a2_47 := Nat.le_trans Zh fz_a2_47
      have sz_a2_47 : h0.size ≤ a2_47 := Nat.le_trans K.1 fz_a2_47
      have K47 : Keep h0 T47.heap [] := Keep.trans K Kq47 (allS (Or.inr sz_b50) all0)
      have Z47 : n0 ≤ T47.heap.size := Nat.le_trans Z0 K47.1
      have N47 := Fr.app N N47q
      have hA9 : own_AP 16 sl1_47 al1_47 o1_47 c1_47 (own_Qn x7 ss 9) := ph47_0
      refine Go.step (T' := T47) (f' := (mkF m 270 #[.val (.long p1), .second, .val (.long p2), .second, .val (.int p3), .val (.int p4), .val (.int p5), .val (.long x7), .second, .val (.ref b1), .val (.ref b50), .unset, .unset, .unset, .unset, .unset, .unset, .unset, .unset, .unset] [])) (fun t kt => ?_) ?_
      · show Steps p.tables e below (T.setTop (mkF m 267 #[.val (.long p1), .second, .val (.long p2), .second, .val (.int p3), .val (.int p4), .val (.int p5), .val (.long x7), .second, .val (.ref b1), .val (.ref b50), .unset, .unset, .unset, .unset, .unset, .unset, .unset, .unset, .unset] [(.long (ss.getD 9 (0 : Int64))), (.ref b50)])) _
        refine st47.trans ?_
        exact kt
      exact S270 _ _ _ _ X47 (Nat.le_trans (Nat.add_le_add_right hcl 2) (by decide)) (Nat.le_trans (Nat.add_le_add_right hsl 32) (by decide)) T47.heap rfl N47 x7 b1 b50 s2_47 a2_47 ss c1_47 o1_47 sl1_47 al1_47 16 K47 G48 G49 pf47_1 pf47_2 pf47_0 pf47_4 pf47_3 pf47_5 pf47_6 g_b1 g_b50 g_s2_47 g_a2_47 sz_b1 sz_b50 sz_s2_47 sz_a2_47 ne_b1_b50 ne_b1_s2_47 ne_b50_s2_47 ne_b1_a2_47 ne_b50_a2_47 ne_s2_47_a2_47 hA9 hS h7
    · have _ := hg267
      obtain ⟨cq52, kq52, q52a, q52b, q52c⟩ := isOf hZ eT (fc1 : Exa Z h b50 "com/example/talthybius/talthybius/AwaitedPings")
      obtain ⟨_, _, ⟨T52, L52, k52, n52⟩, -, X52, ⟨Lc52, hQ52, l52, y52, z52⟩, st52⟩ := X.virtualBack hx (y := (⟨"com/example/talthybius/talthybius/AwaitedPings", "sent", "(J)V"⟩ : MethodName)) (z := (⟨"com/example/talthybius/talthybius/AwaitedPings", "sent", "(J)V"⟩ : MethodName)) hown (mvT hZ (hw _ (List.mem_of_getElem? (i := 24) rfl))) (mvT hZ (hw _ (List.mem_of_getElem? (i := 25) rfl))) (notFace_of_selects (args := #[]) (mvT hZ (hw _ (List.mem_of_getElem? (i := 27) rfl)))) (mvT hZ (hw _ (List.mem_of_getElem? (i := 27) rfl))) (mvT hZ (hw _ (List.mem_of_getElem? (i := 26) rfl))) (by decide) (backOf (W := 0) (rm_senN l Z a0 hw [] b50 (ss.getD 9 (0 : Int64)) s2_93 a2_93 x7 o1 c1 sl al NN (own_Qn x7 ss 8) h n0 Zh fc1 fc4 fc2 fc3 fc6 fc5 fc7 fc8 g_b50 g_s2_93 g_a2_93 ne_b50_s2_93 ne_b50_a2_93 ne_s2_93_a2_93 hA (own_hl9 hA hl hg267)) hZ (hw _ (List.mem_of_getElem? (i := 28) rfl)) (hw _ (List.mem_of_getElem? (i := 10) rfl)) (by decide) (by decide)) q52a q52c (g := (mkF m 267 #[.val (.long p1), .second, .val (.long p2), .second, .val (.int p3), .val (.int p4), .val (.int p5), .val (.long x7), .second, .val (.ref b1), .val (.ref b50), .unset, .unset, .unset, .unset, .unset, .unset, .unset, .unset, .unset] [(.long (ss.getD 9 (0 : Int64))), (.ref b50)])) rfl (by rw [hml]; rfl) (Steps.refl _) (argsL := [(.long (ss.getD 9 (0 : Int64)))]) (rest := []) (lenOf pd_1 rfl) rfl (by show 2 * 0 + _ ≤ _; exact Nat.le_of_eq rfl) (hb hby at_267) (fun _ _ => ⟨rfl, eT, (Nat.le_trans (Nat.add_le_add_right hcl 0) (by decide)), (Nat.le_trans (Nat.add_le_add_right hsl 0) (by decide))⟩)
      dsimp only [Pt.U, Pt.locs, Pt.cells, Pt.slots] at X52 l52 y52 z52 st52 hQ52
      subst l52 y52 z52
      obtain ⟨o1_52, c1_52, sl1_52, al1_52, rfl, N52q, Kq52, pf52_0, pf52_1, pf52_2, pf52_3, pf52_4, pf52_5, pf52_6, ph52_0⟩ := hQ52
      have G53 : VA Z T52.heap b1 .long (ss.map Value.long) := fc0.keep Kq52 (ninS ne_b1_b50 (ninS ne_b1_s2_93 (ninS ne_b1_a2_93 nin0)))
      have G54 : Exa Z T52.heap b50 "com/example/talthybius/talthybius/AwaitedPings" := Exa.keep fc1 Kq52
      have K52 : Keep h0 T52.heap [] := Keep.trans K Kq52 (allS (Or.inr sz_b50) (allS (Or.inr sz_s2_93) (allS (Or.inr sz_a2_93) all0)))
      have Z52 : n0 ≤ T52.heap.size := Nat.le_trans Z0 K52.1
      have N52 := Fr.app N N52q
      have hA9 : own_AP NN sl1_52 al1_52 o1_52 c1_52 (own_Qn x7 ss 9) := ph52_0
      refine Go.step (T' := T52) (f' := (mkF m 270 #[.val (.long p1), .second, .val (.long p2), .second, .val (.int p3), .val (.int p4), .val (.int p5), .val (.long x7), .second, .val (.ref b1), .val (.ref b50), .unset, .unset, .unset, .unset, .unset, .unset, .unset, .unset, .unset] [])) (fun t kt => ?_) ?_
      · show Steps p.tables e below (T.setTop (mkF m 267 #[.val (.long p1), .second, .val (.long p2), .second, .val (.int p3), .val (.int p4), .val (.int p5), .val (.long x7), .second, .val (.ref b1), .val (.ref b50), .unset, .unset, .unset, .unset, .unset, .unset, .unset, .unset, .unset] [(.long (ss.getD 9 (0 : Int64))), (.ref b50)])) _
        refine st52.trans ?_
        exact kt
      exact S270 _ _ _ _ X52 (Nat.le_trans (Nat.add_le_add_right hcl 0) (by decide)) (Nat.le_trans (Nat.add_le_add_right hsl 0) (by decide)) T52.heap rfl N52 x7 b1 b50 s2_93 a2_93 ss c1_52 o1_52 sl1_52 al1_52 NN K52 G53 G54 pf52_1 pf52_2 pf52_0 pf52_4 pf52_3 pf52_5 pf52_6 g_b1 g_b50 g_s2_93 g_a2_93 sz_b1 sz_b50 sz_s2_93 sz_a2_93 ne_b1_b50 ne_b1_s2_93 ne_b50_s2_93 ne_b1_a2_93 ne_b50_a2_93 ne_s2_93_a2_93 hA9 hS h7
  have S165 : ∀ (T : State) (locs : List Loc) (cells slots : Nat) (X : Stand p l e room_1 s m #[(.long p1), (.long p2), (.int p3), (.int p4), (.int p5)] below meth c T locs cells slots) (hcl : cells ≤ 1) (hsl : slots ≤ 10) (h : Heap) (eT : T.heap = h) (N : Fr n0 locs) (x7 : Int64)  (b1 : Addr) (ss : List Int64) (K : Keep h0 h []) (fc0 : VA Z h b1 .long (ss.map Value.long)) (g_b1 : n0 ≤ b1) (sz_b1 : h0.size ≤ b1) (hS : own_SS 9 ss) (h7 : 0 ≤ x7.toInt), Go p e below s (Q0 Z p1 p2 p3 p4 p5 h0 n0) 24 192 T (mkF m 165 #[.val (.long p1), .second, .val (.long p2), .second, .val (.int p3), .val (.int p4), .val (.int p5), .val (.long x7), .second, .val (.ref b1), .unset, .unset, .unset, .unset, .unset, .unset, .unset, .unset, .unset, .unset] []) := by
    intro T locs cells slots X hcl hsl h eT N x7 b1 ss K fc0 g_b1 sz_b1 hS h7
    have Zh : n0 ≤ h.size := Nat.le_trans Z0 K.1
    obtain ⟨T55, h55, X55, e55, E55, A55, D55, -, st55⟩ := newO X hx hZ hown (hw _ (List.mem_of_getElem? (i := 8) rfl)) (hw _ (List.mem_of_getElem? (i := 9) rfl)) (hw _ (List.mem_of_getElem? (i := 10) rfl)) eT (g := (mkF m 165 #[.val (.long p1), .second, .val (.long p2), .second, .val (.int p3), .val (.int p4), .val (.int p5), .val (.long x7), .second, .val (.ref b1), .unset, .unset, .unset, .unset, .unset, .unset, .unset, .unset, .unset, .unset] [])) rfl (hb hby at_165) (Nat.le_trans (Nat.add_le_add_right hcl 1) (by decide)) (Nat.le_trans (Nat.add_le_add_right hsl 5) (by decide))
    obtain ⟨b55, g55⟩ : ∃ z, z = h.size := ⟨_, rfl⟩
    rw [← g55] at A55 D55 st55
    have ne_b1_b55 : b1 ≠ b55 := Nat.ne_of_lt (Nat.lt_of_lt_of_le fc0.lt (Nat.le_of_eq g55.symm))
    have G56 : VA Z h55 b1 .long (ss.map Value.long) := fc0.ext E55
    have g_b55 : n0 ≤ b55 := Nat.le_trans Zh (Nat.le_of_eq g55.symm)
    have sz_b55 : h0.size ≤ b55 := Nat.le_trans K.1 (Nat.le_of_eq g55.symm)
    have K55 : Keep h0 h55 [] := Keep.ext K E55
    have Z55 : n0 ≤ h55.size := Nat.le_trans Z0 K55.1
    have G57 : Fld Z h55 b55 "com/example/talthybius/talthybius/AwaitedPings" "sentAt" "[J" .null := D55 (Or.inl (hw _ (List.mem_of_getElem? (i := 18) rfl))) (ty := (.array .long)) (by decide)
    have G58 : Fld Z h55 b55 "com/example/talthybius/talthybius/AwaitedPings" "answered" "[Z" .null := D55 (Or.inl (hw _ (List.mem_of_getElem? (i := 21) rfl))) (ty := (.array .boolean)) (by decide)
    have G59 : Fld Z h55 b55 "com/example/talthybius/talthybius/AwaitedPings" "timeoutNanos" "J" (.long (0 : Int64)) := D55 (Or.inr (hw _ (List.mem_of_getElem? (i := 23) rfl))) (ty := .long) (by decide)
    have G60 : Fld Z h55 b55 "com/example/talthybius/talthybius/AwaitedPings" "count" "I" (.int (0 : Int32)) := D55 (Or.inl (hw _ (List.mem_of_getElem? (i := 34) rfl))) (ty := .int) (by decide)
    have G61 : Fld Z h55 b55 "com/example/talthybius/talthybius/AwaitedPings" "oldest" "I" (.int (0 : Int32)) := D55 (Or.inl (hw _ (List.mem_of_getElem? (i := 40) rfl))) (ty := .int) (by decide)
    obtain ⟨_, _, ⟨T62, L62, k62, n62⟩, -, X62, ⟨Lc62, hQ62, l62, y62, z62⟩, st62⟩ := X55.specialBack hx (y := (⟨"com/example/talthybius/talthybius/AwaitedPings", "<init>", "(J)V"⟩ : MethodName)) rfl hown (mvT hZ (hw _ (List.mem_of_getElem? (i := 11) rfl))) (mvT hZ (hw _ (List.mem_of_getElem? (i := 12) rfl))) (mvT hZ (hw _ (List.mem_of_getElem? (i := 13) rfl))) (by decide) (backOf (W := 1) (rm_iniA l Z a0 hw [] b55 x7 (0 : Int64) (0 : Int32) (0 : Int32) h55 n0 Z55 A55 G59 G57 G58 G61 G60 g_b55 ) hZ (hw _ (List.mem_of_getElem? (i := 13) rfl)) (hw _ (List.mem_of_getElem? (i := 10) rfl)) (by decide) (by decide)) (g := (mkF m 171 #[.val (.long p1), .second, .val (.long p2), .second, .val (.int p3), .val (.int p4), .val (.int p5), .val (.long x7), .second, .val (.ref b1), .unset, .unset, .unset, .unset, .unset, .unset, .unset, .unset, .unset, .unset] [(.long x7), (.ref b55), (.ref b55)])) rfl (by rw [hml]; rfl) (Steps.refl _) (a := b55) (argsL := [(.long x7)]) (rest := [(.ref b55)]) (lenOf pd_1 rfl) rfl (by show 2 * 0 + _ ≤ _; exact Nat.le_of_eq rfl) (hb hby at_171) (fun _ _ => ⟨rfl, e55, (Nat.le_trans (Nat.add_le_add_right (Nat.add_le_add_right hcl 1) 2) (by decide)), (Nat.le_trans (Nat.add_le_add_right (Nat.add_le_add_right hsl 5) 16) (by decide))⟩)
    dsimp only [Pt.U, Pt.locs, Pt.cells, Pt.slots] at X62 l62 y62 z62 st62 hQ62
    subst l62 y62 z62
    obtain ⟨aS_62, aA_62, rfl, N62q, Kq62, fz_aS_62, fz_aA_62, ne_aS_62_aA_62, pf62_0, pf62_1, pf62_2, pf62_3, pf62_4, pf62_5, pf62_6⟩ := hQ62
    have oldlt_62_b1 : b1 < h55.size := G56.lt
    have oldlt_62_b55 : b55 < h55.size := A55.lt
    have G63 : VA Z T62.heap b1 .long (ss.map Value.long) := G56.keep Kq62 (ninS ne_b1_b55 nin0)
    have G64 : Exa Z T62.heap b55 "com/example/talthybius/talthybius/AwaitedPings" := Exa.keep A55 Kq62
    have ne_b1_aS_62 : b1 ≠ aS_62 := Nat.ne_of_lt (Nat.lt_of_lt_of_le oldlt_62_b1 fz_aS_62)
    have ne_b55_aS_62 : b55 ≠ aS_62 := Nat.ne_of_lt (Nat.lt_of_lt_of_le oldlt_62_b55 fz_aS_62)
    have g_aS_62 : n0 ≤ aS_62 := Nat.le_trans Z55 fz_aS_62
    have sz_aS_62 : h0.size ≤ aS_62 := Nat.le_trans K55.1 fz_aS_62
    have ne_b1_aA_62 : b1 ≠ aA_62 := Nat.ne_of_lt (Nat.lt_of_lt_of_le oldlt_62_b1 fz_aA_62)
    have ne_b55_aA_62 : b55 ≠ aA_62 := Nat.ne_of_lt (Nat.lt_of_lt_of_le oldlt_62_b55 fz_aA_62)
    have g_aA_62 : n0 ≤ aA_62 := Nat.le_trans Z55 fz_aA_62
    have sz_aA_62 : h0.size ≤ aA_62 := Nat.le_trans K55.1 fz_aA_62
    have K62 : Keep h0 T62.heap [] := Keep.trans K55 Kq62 (allS (Or.inr sz_b55) all0)
    have Z62 : n0 ≤ T62.heap.size := Nat.le_trans Z0 K62.1
    have N62 := Fr.app N N62q
    have ix65 : 0 ≤ ((0 : Int32)).toInt ∧ ((0 : Int32)).toInt < ((ss).length : Int) := own_ixl hS (by decide)
    obtain ⟨cq66, kq66, q66a, q66b, q66c⟩ := isOf hZ rfl (G64 : Exa Z T62.heap b55 "com/example/talthybius/talthybius/AwaitedPings")
    obtain ⟨_, _, ⟨T66, L66, k66, n66⟩, -, X66, ⟨Lc66, hQ66, l66, y66, z66⟩, st66⟩ := X62.virtualBack hx (y := (⟨"com/example/talthybius/talthybius/AwaitedPings", "sent", "(J)V"⟩ : MethodName)) (z := (⟨"com/example/talthybius/talthybius/AwaitedPings", "sent", "(J)V"⟩ : MethodName)) hown (mvT hZ (hw _ (List.mem_of_getElem? (i := 24) rfl))) (mvT hZ (hw _ (List.mem_of_getElem? (i := 25) rfl))) (notFace_of_selects (args := #[]) (mvT hZ (hw _ (List.mem_of_getElem? (i := 27) rfl)))) (mvT hZ (hw _ (List.mem_of_getElem? (i := 27) rfl))) (mvT hZ (hw _ (List.mem_of_getElem? (i := 26) rfl))) (by decide) (backOf (W := 0) (rm_senN l Z a0 hw [] b55 (ss.getD 0 (0 : Int64)) aS_62 aA_62 x7 (0 : Int32) (0 : Int32) [(0 : Int64), (0 : Int64), (0 : Int64), (0 : Int64), (0 : Int64), (0 : Int64), (0 : Int64), (0 : Int64)] [(0 : Int32), (0 : Int32), (0 : Int32), (0 : Int32), (0 : Int32), (0 : Int32), (0 : Int32), (0 : Int32)] 8 ([] : List (Int64 × Int32)) T62.heap n0 Z62 G64 pf62_0 pf62_1 pf62_2 pf62_3 pf62_4 pf62_5 pf62_6 g_b55 g_aS_62 g_aA_62 ne_b55_aS_62 ne_b55_aA_62 ne_aS_62_aA_62 own_ap0 (own_hlt (n := 0) (Nat.le_refl 0) (by decide))) hZ (hw _ (List.mem_of_getElem? (i := 28) rfl)) (hw _ (List.mem_of_getElem? (i := 10) rfl)) (by decide) (by decide)) q66a q66c (g := (mkF m 182 #[.val (.long p1), .second, .val (.long p2), .second, .val (.int p3), .val (.int p4), .val (.int p5), .val (.long x7), .second, .val (.ref b1), .val (.ref b55), .unset, .unset, .unset, .unset, .unset, .unset, .unset, .unset, .unset] [(.long (ss.getD 0 (0 : Int64))), (.ref b55)])) rfl (by rw [hml]; rfl) (Steps.refl _) (argsL := [(.long (ss.getD 0 (0 : Int64)))]) (rest := []) (lenOf pd_1 rfl) rfl (by show 2 * 0 + _ ≤ _; exact Nat.le_of_eq rfl) (hb hby at_182) (fun _ _ => ⟨rfl, rfl, (Nat.le_trans (Nat.add_le_add_right (Nat.add_le_add_right (Nat.add_le_add_right hcl 1) 2) 0) (by decide)), (Nat.le_trans (Nat.add_le_add_right (Nat.add_le_add_right (Nat.add_le_add_right hsl 5) 16) 0) (by decide))⟩)
    dsimp only [Pt.U, Pt.locs, Pt.cells, Pt.slots] at X66 l66 y66 z66 st66 hQ66
    subst l66 y66 z66
    obtain ⟨o1_66, c1_66, sl1_66, al1_66, rfl, N66q, Kq66, pf66_0, pf66_1, pf66_2, pf66_3, pf66_4, pf66_5, pf66_6, ph66_0⟩ := hQ66
    have G67 : VA Z T66.heap b1 .long (ss.map Value.long) := G63.keep Kq66 (ninS ne_b1_b55 (ninS ne_b1_aS_62 (ninS ne_b1_aA_62 nin0)))
    have G68 : Exa Z T66.heap b55 "com/example/talthybius/talthybius/AwaitedPings" := Exa.keep G64 Kq66
    have K66 : Keep h0 T66.heap [] := Keep.trans K62 Kq66 (allS (Or.inr sz_b55) (allS (Or.inr sz_aS_62) (allS (Or.inr sz_aA_62) all0)))
    have Z66 : n0 ≤ T66.heap.size := Nat.le_trans Z0 K66.1
    have N66 := Fr.app N62 N66q
    have hA0 : own_AP 8 sl1_66 al1_66 o1_66 c1_66 (own_Qn x7 ss 0) := ph66_0
    have hl0 : (own_Qn x7 ss 0).length ≤ 1 := own_lP (Nat.le_refl 0)
    have ix69 : 0 ≤ ((1 : Int32)).toInt ∧ ((1 : Int32)).toInt < ((ss).length : Int) := own_ixl hS (by decide)
    obtain ⟨cq70, kq70, q70a, q70b, q70c⟩ := isOf hZ rfl (G68 : Exa Z T66.heap b55 "com/example/talthybius/talthybius/AwaitedPings")
    obtain ⟨_, _, ⟨T70, L70, k70, n70⟩, -, X70, ⟨Lc70, hQ70, l70, y70, z70⟩, st70⟩ := X66.virtualBack hx (y := (⟨"com/example/talthybius/talthybius/AwaitedPings", "sent", "(J)V"⟩ : MethodName)) (z := (⟨"com/example/talthybius/talthybius/AwaitedPings", "sent", "(J)V"⟩ : MethodName)) hown (mvT hZ (hw _ (List.mem_of_getElem? (i := 24) rfl))) (mvT hZ (hw _ (List.mem_of_getElem? (i := 25) rfl))) (notFace_of_selects (args := #[]) (mvT hZ (hw _ (List.mem_of_getElem? (i := 27) rfl)))) (mvT hZ (hw _ (List.mem_of_getElem? (i := 27) rfl))) (mvT hZ (hw _ (List.mem_of_getElem? (i := 26) rfl))) (by decide) (backOf (W := 0) (rm_senN l Z a0 hw [] b55 (ss.getD 1 (0 : Int64)) aS_62 aA_62 x7 o1_66 c1_66 sl1_66 al1_66 8 (own_Qn x7 ss 0) T66.heap n0 Z66 G68 pf66_0 pf66_1 pf66_2 pf66_3 pf66_4 pf66_5 pf66_6 g_b55 g_aS_62 g_aA_62 ne_b55_aS_62 ne_b55_aA_62 ne_aS_62_aA_62 hA0 (own_hlt (n := 1) hl0 (by decide))) hZ (hw _ (List.mem_of_getElem? (i := 28) rfl)) (hw _ (List.mem_of_getElem? (i := 10) rfl)) (by decide) (by decide)) q70a q70c (g := (mkF m 191 #[.val (.long p1), .second, .val (.long p2), .second, .val (.int p3), .val (.int p4), .val (.int p5), .val (.long x7), .second, .val (.ref b1), .val (.ref b55), .unset, .unset, .unset, .unset, .unset, .unset, .unset, .unset, .unset] [(.long (ss.getD 1 (0 : Int64))), (.ref b55)])) rfl (by rw [hml]; rfl) (Steps.refl _) (argsL := [(.long (ss.getD 1 (0 : Int64)))]) (rest := []) (lenOf pd_1 rfl) rfl (by show 2 * 0 + _ ≤ _; exact Nat.le_of_eq rfl) (hb hby at_191) (fun _ _ => ⟨rfl, rfl, (Nat.le_trans (Nat.add_le_add_right (Nat.add_le_add_right (Nat.add_le_add_right (Nat.add_le_add_right hcl 1) 2) 0) 0) (by decide)), (Nat.le_trans (Nat.add_le_add_right (Nat.add_le_add_right (Nat.add_le_add_right (Nat.add_le_add_right hsl 5) 16) 0) 0) (by decide))⟩)
    dsimp only [Pt.U, Pt.locs, Pt.cells, Pt.slots] at X70 l70 y70 z70 st70 hQ70
    subst l70 y70 z70
    obtain ⟨o1_70, c1_70, sl1_70, al1_70, rfl, N70q, Kq70, pf70_0, pf70_1, pf70_2, pf70_3, pf70_4, pf70_5, pf70_6, ph70_0⟩ := hQ70
    have G71 : VA Z T70.heap b1 .long (ss.map Value.long) := G67.keep Kq70 (ninS ne_b1_b55 (ninS ne_b1_aS_62 (ninS ne_b1_aA_62 nin0)))
    have G72 : Exa Z T70.heap b55 "com/example/talthybius/talthybius/AwaitedPings" := Exa.keep G68 Kq70
    have K70 : Keep h0 T70.heap [] := Keep.trans K66 Kq70 (allS (Or.inr sz_b55) (allS (Or.inr sz_aS_62) (allS (Or.inr sz_aA_62) all0)))
    have Z70 : n0 ≤ T70.heap.size := Nat.le_trans Z0 K70.1
    have N70 := Fr.app N66 N70q
    have hA1 : own_AP 8 sl1_70 al1_70 o1_70 c1_70 (own_Qn x7 ss 1) := ph70_0
    have hl1 : (own_Qn x7 ss 1).length ≤ 2 := own_lP hl0
    have ix73 : 0 ≤ ((2 : Int32)).toInt ∧ ((2 : Int32)).toInt < ((ss).length : Int) := own_ixl hS (by decide)
    obtain ⟨cq74, kq74, q74a, q74b, q74c⟩ := isOf hZ rfl (G72 : Exa Z T70.heap b55 "com/example/talthybius/talthybius/AwaitedPings")
    obtain ⟨_, _, ⟨T74, L74, k74, n74⟩, -, X74, ⟨Lc74, hQ74, l74, y74, z74⟩, st74⟩ := X70.virtualBack hx (y := (⟨"com/example/talthybius/talthybius/AwaitedPings", "sent", "(J)V"⟩ : MethodName)) (z := (⟨"com/example/talthybius/talthybius/AwaitedPings", "sent", "(J)V"⟩ : MethodName)) hown (mvT hZ (hw _ (List.mem_of_getElem? (i := 24) rfl))) (mvT hZ (hw _ (List.mem_of_getElem? (i := 25) rfl))) (notFace_of_selects (args := #[]) (mvT hZ (hw _ (List.mem_of_getElem? (i := 27) rfl)))) (mvT hZ (hw _ (List.mem_of_getElem? (i := 27) rfl))) (mvT hZ (hw _ (List.mem_of_getElem? (i := 26) rfl))) (by decide) (backOf (W := 0) (rm_senN l Z a0 hw [] b55 (ss.getD 2 (0 : Int64)) aS_62 aA_62 x7 o1_70 c1_70 sl1_70 al1_70 8 (own_Qn x7 ss 1) T70.heap n0 Z70 G72 pf70_0 pf70_1 pf70_2 pf70_3 pf70_4 pf70_5 pf70_6 g_b55 g_aS_62 g_aA_62 ne_b55_aS_62 ne_b55_aA_62 ne_aS_62_aA_62 hA1 (own_hlt (n := 2) hl1 (by decide))) hZ (hw _ (List.mem_of_getElem? (i := 28) rfl)) (hw _ (List.mem_of_getElem? (i := 10) rfl)) (by decide) (by decide)) q74a q74c (g := (mkF m 200 #[.val (.long p1), .second, .val (.long p2), .second, .val (.int p3), .val (.int p4), .val (.int p5), .val (.long x7), .second, .val (.ref b1), .val (.ref b55), .unset, .unset, .unset, .unset, .unset, .unset, .unset, .unset, .unset] [(.long (ss.getD 2 (0 : Int64))), (.ref b55)])) rfl (by rw [hml]; rfl) (Steps.refl _) (argsL := [(.long (ss.getD 2 (0 : Int64)))]) (rest := []) (lenOf pd_1 rfl) rfl (by show 2 * 0 + _ ≤ _; exact Nat.le_of_eq rfl) (hb hby at_200) (fun _ _ => ⟨rfl, rfl, (Nat.le_trans (Nat.add_le_add_right (Nat.add_le_add_right (Nat.add_le_add_right (Nat.add_le_add_right (Nat.add_le_add_right hcl 1) 2) 0) 0) 0) (by decide)), (Nat.le_trans (Nat.add_le_add_right (Nat.add_le_add_right (Nat.add_le_add_right (Nat.add_le_add_right (Nat.add_le_add_right hsl 5) 16) 0) 0) 0) (by decide))⟩)
    dsimp only [Pt.U, Pt.locs, Pt.cells, Pt.slots] at X74 l74 y74 z74 st74 hQ74
    subst l74 y74 z74
    obtain ⟨o1_74, c1_74, sl1_74, al1_74, rfl, N74q, Kq74, pf74_0, pf74_1, pf74_2, pf74_3, pf74_4, pf74_5, pf74_6, ph74_0⟩ := hQ74
    have G75 : VA Z T74.heap b1 .long (ss.map Value.long) := G71.keep Kq74 (ninS ne_b1_b55 (ninS ne_b1_aS_62 (ninS ne_b1_aA_62 nin0)))
    have G76 : Exa Z T74.heap b55 "com/example/talthybius/talthybius/AwaitedPings" := Exa.keep G72 Kq74
    have K74 : Keep h0 T74.heap [] := Keep.trans K70 Kq74 (allS (Or.inr sz_b55) (allS (Or.inr sz_aS_62) (allS (Or.inr sz_aA_62) all0)))
    have Z74 : n0 ≤ T74.heap.size := Nat.le_trans Z0 K74.1
    have N74 := Fr.app N70 N74q
    have hA2 : own_AP 8 sl1_74 al1_74 o1_74 c1_74 (own_Qn x7 ss 2) := ph74_0
    have hl2 : (own_Qn x7 ss 2).length ≤ 3 := own_lP hl1
    have ix77 : 0 ≤ ((3 : Int32)).toInt ∧ ((3 : Int32)).toInt < ((ss).length : Int) := own_ixl hS (by decide)
    obtain ⟨cq78, kq78, q78a, q78b, q78c⟩ := isOf hZ rfl (G76 : Exa Z T74.heap b55 "com/example/talthybius/talthybius/AwaitedPings")
    obtain ⟨_, _, ⟨T78, L78, k78, n78⟩, -, X78, ⟨Lc78, hQ78, l78, y78, z78⟩, st78⟩ := X74.virtualBack hx (y := (⟨"com/example/talthybius/talthybius/AwaitedPings", "sent", "(J)V"⟩ : MethodName)) (z := (⟨"com/example/talthybius/talthybius/AwaitedPings", "sent", "(J)V"⟩ : MethodName)) hown (mvT hZ (hw _ (List.mem_of_getElem? (i := 24) rfl))) (mvT hZ (hw _ (List.mem_of_getElem? (i := 25) rfl))) (notFace_of_selects (args := #[]) (mvT hZ (hw _ (List.mem_of_getElem? (i := 27) rfl)))) (mvT hZ (hw _ (List.mem_of_getElem? (i := 27) rfl))) (mvT hZ (hw _ (List.mem_of_getElem? (i := 26) rfl))) (by decide) (backOf (W := 0) (rm_senN l Z a0 hw [] b55 (ss.getD 3 (0 : Int64)) aS_62 aA_62 x7 o1_74 c1_74 sl1_74 al1_74 8 (own_Qn x7 ss 2) T74.heap n0 Z74 G76 pf74_0 pf74_1 pf74_2 pf74_3 pf74_4 pf74_5 pf74_6 g_b55 g_aS_62 g_aA_62 ne_b55_aS_62 ne_b55_aA_62 ne_aS_62_aA_62 hA2 (own_hlt (n := 3) hl2 (by decide))) hZ (hw _ (List.mem_of_getElem? (i := 28) rfl)) (hw _ (List.mem_of_getElem? (i := 10) rfl)) (by decide) (by decide)) q78a q78c (g := (mkF m 209 #[.val (.long p1), .second, .val (.long p2), .second, .val (.int p3), .val (.int p4), .val (.int p5), .val (.long x7), .second, .val (.ref b1), .val (.ref b55), .unset, .unset, .unset, .unset, .unset, .unset, .unset, .unset, .unset] [(.long (ss.getD 3 (0 : Int64))), (.ref b55)])) rfl (by rw [hml]; rfl) (Steps.refl _) (argsL := [(.long (ss.getD 3 (0 : Int64)))]) (rest := []) (lenOf pd_1 rfl) rfl (by show 2 * 0 + _ ≤ _; exact Nat.le_of_eq rfl) (hb hby at_209) (fun _ _ => ⟨rfl, rfl, (Nat.le_trans (Nat.add_le_add_right (Nat.add_le_add_right (Nat.add_le_add_right (Nat.add_le_add_right (Nat.add_le_add_right (Nat.add_le_add_right hcl 1) 2) 0) 0) 0) 0) (by decide)), (Nat.le_trans (Nat.add_le_add_right (Nat.add_le_add_right (Nat.add_le_add_right (Nat.add_le_add_right (Nat.add_le_add_right (Nat.add_le_add_right hsl 5) 16) 0) 0) 0) 0) (by decide))⟩)
    dsimp only [Pt.U, Pt.locs, Pt.cells, Pt.slots] at X78 l78 y78 z78 st78 hQ78
    subst l78 y78 z78
    obtain ⟨o1_78, c1_78, sl1_78, al1_78, rfl, N78q, Kq78, pf78_0, pf78_1, pf78_2, pf78_3, pf78_4, pf78_5, pf78_6, ph78_0⟩ := hQ78
    have G79 : VA Z T78.heap b1 .long (ss.map Value.long) := G75.keep Kq78 (ninS ne_b1_b55 (ninS ne_b1_aS_62 (ninS ne_b1_aA_62 nin0)))
    have G80 : Exa Z T78.heap b55 "com/example/talthybius/talthybius/AwaitedPings" := Exa.keep G76 Kq78
    have K78 : Keep h0 T78.heap [] := Keep.trans K74 Kq78 (allS (Or.inr sz_b55) (allS (Or.inr sz_aS_62) (allS (Or.inr sz_aA_62) all0)))
    have Z78 : n0 ≤ T78.heap.size := Nat.le_trans Z0 K78.1
    have N78 := Fr.app N74 N78q
    have hA3 : own_AP 8 sl1_78 al1_78 o1_78 c1_78 (own_Qn x7 ss 3) := ph78_0
    have hl3 : (own_Qn x7 ss 3).length ≤ 4 := own_lP hl2
    have ix81 : 0 ≤ ((4 : Int32)).toInt ∧ ((4 : Int32)).toInt < ((ss).length : Int) := own_ixl hS (by decide)
    obtain ⟨cq82, kq82, q82a, q82b, q82c⟩ := isOf hZ rfl (G80 : Exa Z T78.heap b55 "com/example/talthybius/talthybius/AwaitedPings")
    obtain ⟨_, _, ⟨T82, L82, k82, n82⟩, -, X82, ⟨Lc82, hQ82, l82, y82, z82⟩, st82⟩ := X78.virtualBack hx (y := (⟨"com/example/talthybius/talthybius/AwaitedPings", "sent", "(J)V"⟩ : MethodName)) (z := (⟨"com/example/talthybius/talthybius/AwaitedPings", "sent", "(J)V"⟩ : MethodName)) hown (mvT hZ (hw _ (List.mem_of_getElem? (i := 24) rfl))) (mvT hZ (hw _ (List.mem_of_getElem? (i := 25) rfl))) (notFace_of_selects (args := #[]) (mvT hZ (hw _ (List.mem_of_getElem? (i := 27) rfl)))) (mvT hZ (hw _ (List.mem_of_getElem? (i := 27) rfl))) (mvT hZ (hw _ (List.mem_of_getElem? (i := 26) rfl))) (by decide) (backOf (W := 0) (rm_senN l Z a0 hw [] b55 (ss.getD 4 (0 : Int64)) aS_62 aA_62 x7 o1_78 c1_78 sl1_78 al1_78 8 (own_Qn x7 ss 3) T78.heap n0 Z78 G80 pf78_0 pf78_1 pf78_2 pf78_3 pf78_4 pf78_5 pf78_6 g_b55 g_aS_62 g_aA_62 ne_b55_aS_62 ne_b55_aA_62 ne_aS_62_aA_62 hA3 (own_hlt (n := 4) hl3 (by decide))) hZ (hw _ (List.mem_of_getElem? (i := 28) rfl)) (hw _ (List.mem_of_getElem? (i := 10) rfl)) (by decide) (by decide)) q82a q82c (g := (mkF m 218 #[.val (.long p1), .second, .val (.long p2), .second, .val (.int p3), .val (.int p4), .val (.int p5), .val (.long x7), .second, .val (.ref b1), .val (.ref b55), .unset, .unset, .unset, .unset, .unset, .unset, .unset, .unset, .unset] [(.long (ss.getD 4 (0 : Int64))), (.ref b55)])) rfl (by rw [hml]; rfl) (Steps.refl _) (argsL := [(.long (ss.getD 4 (0 : Int64)))]) (rest := []) (lenOf pd_1 rfl) rfl (by show 2 * 0 + _ ≤ _; exact Nat.le_of_eq rfl) (hb hby at_218) (fun _ _ => ⟨rfl, rfl, (Nat.le_trans (Nat.add_le_add_right (Nat.add_le_add_right (Nat.add_le_add_right (Nat.add_le_add_right (Nat.add_le_add_right (Nat.add_le_add_right (Nat.add_le_add_right hcl 1) 2) 0) 0) 0) 0) 0) (by decide)), (Nat.le_trans (Nat.add_le_add_right (Nat.add_le_add_right (Nat.add_le_add_right (Nat.add_le_add_right (Nat.add_le_add_right (Nat.add_le_add_right (Nat.add_le_add_right hsl 5) 16) 0) 0) 0) 0) 0) (by decide))⟩)
    dsimp only [Pt.U, Pt.locs, Pt.cells, Pt.slots] at X82 l82 y82 z82 st82 hQ82
    subst l82 y82 z82
    obtain ⟨o1_82, c1_82, sl1_82, al1_82, rfl, N82q, Kq82, pf82_0, pf82_1, pf82_2, pf82_3, pf82_4, pf82_5, pf82_6, ph82_0⟩ := hQ82
    have G83 : VA Z T82.heap b1 .long (ss.map Value.long) := G79.keep Kq82 (ninS ne_b1_b55 (ninS ne_b1_aS_62 (ninS ne_b1_aA_62 nin0)))
    have G84 : Exa Z T82.heap b55 "com/example/talthybius/talthybius/AwaitedPings" := Exa.keep G80 Kq82
    have K82 : Keep h0 T82.heap [] := Keep.trans K78 Kq82 (allS (Or.inr sz_b55) (allS (Or.inr sz_aS_62) (allS (Or.inr sz_aA_62) all0)))
    have Z82 : n0 ≤ T82.heap.size := Nat.le_trans Z0 K82.1
    have N82 := Fr.app N78 N82q
    have hA4 : own_AP 8 sl1_82 al1_82 o1_82 c1_82 (own_Qn x7 ss 4) := ph82_0
    have hl4 : (own_Qn x7 ss 4).length ≤ 5 := own_lP hl3
    have ix85 : 0 ≤ ((5 : Int32)).toInt ∧ ((5 : Int32)).toInt < ((ss).length : Int) := own_ixl hS (by decide)
    obtain ⟨cq86, kq86, q86a, q86b, q86c⟩ := isOf hZ rfl (G84 : Exa Z T82.heap b55 "com/example/talthybius/talthybius/AwaitedPings")
    obtain ⟨_, _, ⟨T86, L86, k86, n86⟩, -, X86, ⟨Lc86, hQ86, l86, y86, z86⟩, st86⟩ := X82.virtualBack hx (y := (⟨"com/example/talthybius/talthybius/AwaitedPings", "sent", "(J)V"⟩ : MethodName)) (z := (⟨"com/example/talthybius/talthybius/AwaitedPings", "sent", "(J)V"⟩ : MethodName)) hown (mvT hZ (hw _ (List.mem_of_getElem? (i := 24) rfl))) (mvT hZ (hw _ (List.mem_of_getElem? (i := 25) rfl))) (notFace_of_selects (args := #[]) (mvT hZ (hw _ (List.mem_of_getElem? (i := 27) rfl)))) (mvT hZ (hw _ (List.mem_of_getElem? (i := 27) rfl))) (mvT hZ (hw _ (List.mem_of_getElem? (i := 26) rfl))) (by decide) (backOf (W := 0) (rm_senN l Z a0 hw [] b55 (ss.getD 5 (0 : Int64)) aS_62 aA_62 x7 o1_82 c1_82 sl1_82 al1_82 8 (own_Qn x7 ss 4) T82.heap n0 Z82 G84 pf82_0 pf82_1 pf82_2 pf82_3 pf82_4 pf82_5 pf82_6 g_b55 g_aS_62 g_aA_62 ne_b55_aS_62 ne_b55_aA_62 ne_aS_62_aA_62 hA4 (own_hlt (n := 5) hl4 (by decide))) hZ (hw _ (List.mem_of_getElem? (i := 28) rfl)) (hw _ (List.mem_of_getElem? (i := 10) rfl)) (by decide) (by decide)) q86a q86c (g := (mkF m 227 #[.val (.long p1), .second, .val (.long p2), .second, .val (.int p3), .val (.int p4), .val (.int p5), .val (.long x7), .second, .val (.ref b1), .val (.ref b55), .unset, .unset, .unset, .unset, .unset, .unset, .unset, .unset, .unset] [(.long (ss.getD 5 (0 : Int64))), (.ref b55)])) rfl (by rw [hml]; rfl) (Steps.refl _) (argsL := [(.long (ss.getD 5 (0 : Int64)))]) (rest := []) (lenOf pd_1 rfl) rfl (by show 2 * 0 + _ ≤ _; exact Nat.le_of_eq rfl) (hb hby at_227) (fun _ _ => ⟨rfl, rfl, (Nat.le_trans (Nat.add_le_add_right (Nat.add_le_add_right (Nat.add_le_add_right (Nat.add_le_add_right (Nat.add_le_add_right (Nat.add_le_add_right (Nat.add_le_add_right (Nat.add_le_add_right hcl 1) 2) 0) 0) 0) 0) 0) 0) (by decide)), (Nat.le_trans (Nat.add_le_add_right (Nat.add_le_add_right (Nat.add_le_add_right (Nat.add_le_add_right (Nat.add_le_add_right (Nat.add_le_add_right (Nat.add_le_add_right (Nat.add_le_add_right hsl 5) 16) 0) 0) 0) 0) 0) 0) (by decide))⟩)
    dsimp only [Pt.U, Pt.locs, Pt.cells, Pt.slots] at X86 l86 y86 z86 st86 hQ86
    subst l86 y86 z86
    obtain ⟨o1_86, c1_86, sl1_86, al1_86, rfl, N86q, Kq86, pf86_0, pf86_1, pf86_2, pf86_3, pf86_4, pf86_5, pf86_6, ph86_0⟩ := hQ86
    have G87 : VA Z T86.heap b1 .long (ss.map Value.long) := G83.keep Kq86 (ninS ne_b1_b55 (ninS ne_b1_aS_62 (ninS ne_b1_aA_62 nin0)))
    have G88 : Exa Z T86.heap b55 "com/example/talthybius/talthybius/AwaitedPings" := Exa.keep G84 Kq86
    have K86 : Keep h0 T86.heap [] := Keep.trans K82 Kq86 (allS (Or.inr sz_b55) (allS (Or.inr sz_aS_62) (allS (Or.inr sz_aA_62) all0)))
    have Z86 : n0 ≤ T86.heap.size := Nat.le_trans Z0 K86.1
    have N86 := Fr.app N82 N86q
    have hA5 : own_AP 8 sl1_86 al1_86 o1_86 c1_86 (own_Qn x7 ss 5) := ph86_0
    have hl5 : (own_Qn x7 ss 5).length ≤ 6 := own_lP hl4
    have ix89 : 0 ≤ ((6 : Int32)).toInt ∧ ((6 : Int32)).toInt < ((ss).length : Int) := own_ixl hS (by decide)
    obtain ⟨cq90, kq90, q90a, q90b, q90c⟩ := isOf hZ rfl (G88 : Exa Z T86.heap b55 "com/example/talthybius/talthybius/AwaitedPings")
    obtain ⟨_, _, ⟨T90, L90, k90, n90⟩, -, X90, ⟨Lc90, hQ90, l90, y90, z90⟩, st90⟩ := X86.virtualBack hx (y := (⟨"com/example/talthybius/talthybius/AwaitedPings", "sent", "(J)V"⟩ : MethodName)) (z := (⟨"com/example/talthybius/talthybius/AwaitedPings", "sent", "(J)V"⟩ : MethodName)) hown (mvT hZ (hw _ (List.mem_of_getElem? (i := 24) rfl))) (mvT hZ (hw _ (List.mem_of_getElem? (i := 25) rfl))) (notFace_of_selects (args := #[]) (mvT hZ (hw _ (List.mem_of_getElem? (i := 27) rfl)))) (mvT hZ (hw _ (List.mem_of_getElem? (i := 27) rfl))) (mvT hZ (hw _ (List.mem_of_getElem? (i := 26) rfl))) (by decide) (backOf (W := 0) (rm_senN l Z a0 hw [] b55 (ss.getD 6 (0 : Int64)) aS_62 aA_62 x7 o1_86 c1_86 sl1_86 al1_86 8 (own_Qn x7 ss 5) T86.heap n0 Z86 G88 pf86_0 pf86_1 pf86_2 pf86_3 pf86_4 pf86_5 pf86_6 g_b55 g_aS_62 g_aA_62 ne_b55_aS_62 ne_b55_aA_62 ne_aS_62_aA_62 hA5 (own_hlt (n := 6) hl5 (by decide))) hZ (hw _ (List.mem_of_getElem? (i := 28) rfl)) (hw _ (List.mem_of_getElem? (i := 10) rfl)) (by decide) (by decide)) q90a q90c (g := (mkF m 237 #[.val (.long p1), .second, .val (.long p2), .second, .val (.int p3), .val (.int p4), .val (.int p5), .val (.long x7), .second, .val (.ref b1), .val (.ref b55), .unset, .unset, .unset, .unset, .unset, .unset, .unset, .unset, .unset] [(.long (ss.getD 6 (0 : Int64))), (.ref b55)])) rfl (by rw [hml]; rfl) (Steps.refl _) (argsL := [(.long (ss.getD 6 (0 : Int64)))]) (rest := []) (lenOf pd_1 rfl) rfl (by show 2 * 0 + _ ≤ _; exact Nat.le_of_eq rfl) (hb hby at_237) (fun _ _ => ⟨rfl, rfl, (Nat.le_trans (Nat.add_le_add_right (Nat.add_le_add_right (Nat.add_le_add_right (Nat.add_le_add_right (Nat.add_le_add_right (Nat.add_le_add_right (Nat.add_le_add_right (Nat.add_le_add_right (Nat.add_le_add_right hcl 1) 2) 0) 0) 0) 0) 0) 0) 0) (by decide)), (Nat.le_trans (Nat.add_le_add_right (Nat.add_le_add_right (Nat.add_le_add_right (Nat.add_le_add_right (Nat.add_le_add_right (Nat.add_le_add_right (Nat.add_le_add_right (Nat.add_le_add_right (Nat.add_le_add_right hsl 5) 16) 0) 0) 0) 0) 0) 0) 0) (by decide))⟩)
    dsimp only [Pt.U, Pt.locs, Pt.cells, Pt.slots] at X90 l90 y90 z90 st90 hQ90
    subst l90 y90 z90
    obtain ⟨o1_90, c1_90, sl1_90, al1_90, rfl, N90q, Kq90, pf90_0, pf90_1, pf90_2, pf90_3, pf90_4, pf90_5, pf90_6, ph90_0⟩ := hQ90
    have G91 : VA Z T90.heap b1 .long (ss.map Value.long) := G87.keep Kq90 (ninS ne_b1_b55 (ninS ne_b1_aS_62 (ninS ne_b1_aA_62 nin0)))
    have G92 : Exa Z T90.heap b55 "com/example/talthybius/talthybius/AwaitedPings" := Exa.keep G88 Kq90
    have K90 : Keep h0 T90.heap [] := Keep.trans K86 Kq90 (allS (Or.inr sz_b55) (allS (Or.inr sz_aS_62) (allS (Or.inr sz_aA_62) all0)))
    have Z90 : n0 ≤ T90.heap.size := Nat.le_trans Z0 K90.1
    have N90 := Fr.app N86 N90q
    have hA6 : own_AP 8 sl1_90 al1_90 o1_90 c1_90 (own_Qn x7 ss 6) := ph90_0
    have hl6 : (own_Qn x7 ss 6).length ≤ 7 := own_lP hl5
    have ix93 : 0 ≤ ((7 : Int32)).toInt ∧ ((7 : Int32)).toInt < ((ss).length : Int) := own_ixl hS (by decide)
    obtain ⟨cq94, kq94, q94a, q94b, q94c⟩ := isOf hZ rfl (G92 : Exa Z T90.heap b55 "com/example/talthybius/talthybius/AwaitedPings")
    obtain ⟨_, _, ⟨T94, L94, k94, n94⟩, -, X94, ⟨Lc94, hQ94, l94, y94, z94⟩, st94⟩ := X90.virtualBack hx (y := (⟨"com/example/talthybius/talthybius/AwaitedPings", "sent", "(J)V"⟩ : MethodName)) (z := (⟨"com/example/talthybius/talthybius/AwaitedPings", "sent", "(J)V"⟩ : MethodName)) hown (mvT hZ (hw _ (List.mem_of_getElem? (i := 24) rfl))) (mvT hZ (hw _ (List.mem_of_getElem? (i := 25) rfl))) (notFace_of_selects (args := #[]) (mvT hZ (hw _ (List.mem_of_getElem? (i := 27) rfl)))) (mvT hZ (hw _ (List.mem_of_getElem? (i := 27) rfl))) (mvT hZ (hw _ (List.mem_of_getElem? (i := 26) rfl))) (by decide) (backOf (W := 0) (rm_senN l Z a0 hw [] b55 (ss.getD 7 (0 : Int64)) aS_62 aA_62 x7 o1_90 c1_90 sl1_90 al1_90 8 (own_Qn x7 ss 6) T90.heap n0 Z90 G92 pf90_0 pf90_1 pf90_2 pf90_3 pf90_4 pf90_5 pf90_6 g_b55 g_aS_62 g_aA_62 ne_b55_aS_62 ne_b55_aA_62 ne_aS_62_aA_62 hA6 (own_hlt (n := 7) hl6 (by decide))) hZ (hw _ (List.mem_of_getElem? (i := 28) rfl)) (hw _ (List.mem_of_getElem? (i := 10) rfl)) (by decide) (by decide)) q94a q94c (g := (mkF m 247 #[.val (.long p1), .second, .val (.long p2), .second, .val (.int p3), .val (.int p4), .val (.int p5), .val (.long x7), .second, .val (.ref b1), .val (.ref b55), .unset, .unset, .unset, .unset, .unset, .unset, .unset, .unset, .unset] [(.long (ss.getD 7 (0 : Int64))), (.ref b55)])) rfl (by rw [hml]; rfl) (Steps.refl _) (argsL := [(.long (ss.getD 7 (0 : Int64)))]) (rest := []) (lenOf pd_1 rfl) rfl (by show 2 * 0 + _ ≤ _; exact Nat.le_of_eq rfl) (hb hby at_247) (fun _ _ => ⟨rfl, rfl, (Nat.le_trans (Nat.add_le_add_right (Nat.add_le_add_right (Nat.add_le_add_right (Nat.add_le_add_right (Nat.add_le_add_right (Nat.add_le_add_right (Nat.add_le_add_right (Nat.add_le_add_right (Nat.add_le_add_right (Nat.add_le_add_right hcl 1) 2) 0) 0) 0) 0) 0) 0) 0) 0) (by decide)), (Nat.le_trans (Nat.add_le_add_right (Nat.add_le_add_right (Nat.add_le_add_right (Nat.add_le_add_right (Nat.add_le_add_right (Nat.add_le_add_right (Nat.add_le_add_right (Nat.add_le_add_right (Nat.add_le_add_right (Nat.add_le_add_right hsl 5) 16) 0) 0) 0) 0) 0) 0) 0) 0) (by decide))⟩)
    dsimp only [Pt.U, Pt.locs, Pt.cells, Pt.slots] at X94 l94 y94 z94 st94 hQ94
    subst l94 y94 z94
    obtain ⟨o1_94, c1_94, sl1_94, al1_94, rfl, N94q, Kq94, pf94_0, pf94_1, pf94_2, pf94_3, pf94_4, pf94_5, pf94_6, ph94_0⟩ := hQ94
    have G95 : VA Z T94.heap b1 .long (ss.map Value.long) := G91.keep Kq94 (ninS ne_b1_b55 (ninS ne_b1_aS_62 (ninS ne_b1_aA_62 nin0)))
    have G96 : Exa Z T94.heap b55 "com/example/talthybius/talthybius/AwaitedPings" := Exa.keep G92 Kq94
    have K94 : Keep h0 T94.heap [] := Keep.trans K90 Kq94 (allS (Or.inr sz_b55) (allS (Or.inr sz_aS_62) (allS (Or.inr sz_aA_62) all0)))
    have Z94 : n0 ≤ T94.heap.size := Nat.le_trans Z0 K94.1
    have N94 := Fr.app N90 N94q
    have hA7 : own_AP 8 sl1_94 al1_94 o1_94 c1_94 (own_Qn x7 ss 7) := ph94_0
    have hl7 : (own_Qn x7 ss 7).length ≤ 8 := own_lP hl6
    have ix97 : 0 ≤ ((8 : Int32)).toInt ∧ ((8 : Int32)).toInt < ((ss).length : Int) := own_ixl hS (by decide)
    refine Go.step (T' := T94) (f' := (mkF m 257 #[.val (.long p1), .second, .val (.long p2), .second, .val (.int p3), .val (.int p4), .val (.int p5), .val (.long x7), .second, .val (.ref b1), .val (.ref b55), .unset, .unset, .unset, .unset, .unset, .unset, .unset, .unset, .unset] [(.long (ss.getD 8 (0 : Int64))), (.ref b55)])) (fun t kt => ?_) ?_
    · show Steps p.tables e below (T.setTop (mkF m 165 #[.val (.long p1), .second, .val (.long p2), .second, .val (.int p3), .val (.int p4), .val (.int p5), .val (.long x7), .second, .val (.ref b1), .unset, .unset, .unset, .unset, .unset, .unset, .unset, .unset, .unset, .unset] [])) _
      refine st55 _ ?_
      show Steps p.tables e below (T55.setTop (mkF m 168 #[.val (.long p1), .second, .val (.long p2), .second, .val (.int p3), .val (.int p4), .val (.int p5), .val (.long x7), .second, .val (.ref b1), .unset, .unset, .unset, .unset, .unset, .unset, .unset, .unset, .unset, .unset] [(.ref b55)])) _
      refine XS.dup X55.here hx rfl (hb hby at_168) rfl rfl ?_
      show Steps p.tables e below (T55.setTop (mkF m 169 #[.val (.long p1), .second, .val (.long p2), .second, .val (.int p3), .val (.int p4), .val (.int p5), .val (.long x7), .second, .val (.ref b1), .unset, .unset, .unset, .unset, .unset, .unset, .unset, .unset, .unset, .unset] [(.ref b55), (.ref b55)])) _
      refine XS.lload X55.here hx rfl (hb hby at_169) rfl ?_
      show Steps p.tables e below (T55.setTop (mkF m 171 #[.val (.long p1), .second, .val (.long p2), .second, .val (.int p3), .val (.int p4), .val (.int p5), .val (.long x7), .second, .val (.ref b1), .unset, .unset, .unset, .unset, .unset, .unset, .unset, .unset, .unset, .unset] [(.long x7), (.ref b55), (.ref b55)])) _
      refine st62.trans ?_
      show Steps p.tables e below (T62.setTop (mkF m 174 #[.val (.long p1), .second, .val (.long p2), .second, .val (.int p3), .val (.int p4), .val (.int p5), .val (.long x7), .second, .val (.ref b1), .unset, .unset, .unset, .unset, .unset, .unset, .unset, .unset, .unset, .unset] [(.ref b55)])) _
      refine XS.astore X62.here hx rfl (hb hby at_174) rfl rfl (l' := #[.val (.long p1), .second, .val (.long p2), .second, .val (.int p3), .val (.int p4), .val (.int p5), .val (.long x7), .second, .val (.ref b1), .val (.ref b55), .unset, .unset, .unset, .unset, .unset, .unset, .unset, .unset, .unset]) rfl ?_
      show Steps p.tables e below (T62.setTop (mkF m 176 #[.val (.long p1), .second, .val (.long p2), .second, .val (.int p3), .val (.int p4), .val (.int p5), .val (.long x7), .second, .val (.ref b1), .val (.ref b55), .unset, .unset, .unset, .unset, .unset, .unset, .unset, .unset, .unset] [])) _
      refine XS.aload X62.here hx rfl (hb hby at_176) rfl rfl ?_
      show Steps p.tables e below (T62.setTop (mkF m 178 #[.val (.long p1), .second, .val (.long p2), .second, .val (.int p3), .val (.int p4), .val (.int p5), .val (.long x7), .second, .val (.ref b1), .val (.ref b55), .unset, .unset, .unset, .unset, .unset, .unset, .unset, .unset, .unset] [(.ref b55)])) _
      refine XS.aload X62.here hx rfl (hb hby at_178) rfl rfl ?_
      show Steps p.tables e below (T62.setTop (mkF m 180 #[.val (.long p1), .second, .val (.long p2), .second, .val (.int p3), .val (.int p4), .val (.int p5), .val (.long x7), .second, .val (.ref b1), .val (.ref b55), .unset, .unset, .unset, .unset, .unset, .unset, .unset, .unset, .unset] [(.ref b1), (.ref b55)])) _
      refine XS.iconst X62.here hx rfl (hb hby at_180) ?_
      show Steps p.tables e below (T62.setTop (mkF m 181 #[.val (.long p1), .second, .val (.long p2), .second, .val (.int p3), .val (.int p4), .val (.int p5), .val (.long x7), .second, .val (.ref b1), .val (.ref b55), .unset, .unset, .unset, .unset, .unset, .unset, .unset, .unset, .unset] [(.int (0 : Int32)), (.ref b1), (.ref b55)])) _
      refine ldJ X62 hx hZ rfl G63 ix65.1 ix65.2 (g := (mkF m 181 #[.val (.long p1), .second, .val (.long p2), .second, .val (.int p3), .val (.int p4), .val (.int p5), .val (.long x7), .second, .val (.ref b1), .val (.ref b55), .unset, .unset, .unset, .unset, .unset, .unset, .unset, .unset, .unset] [(.int (0 : Int32)), (.ref b1), (.ref b55)])) rfl rfl (hb hby at_181) _ ?_
      show Steps p.tables e below (T62.setTop (mkF m 182 #[.val (.long p1), .second, .val (.long p2), .second, .val (.int p3), .val (.int p4), .val (.int p5), .val (.long x7), .second, .val (.ref b1), .val (.ref b55), .unset, .unset, .unset, .unset, .unset, .unset, .unset, .unset, .unset] [(.long (ss.getD 0 (0 : Int64))), (.ref b55)])) _
      refine st66.trans ?_
      show Steps p.tables e below (T66.setTop (mkF m 185 #[.val (.long p1), .second, .val (.long p2), .second, .val (.int p3), .val (.int p4), .val (.int p5), .val (.long x7), .second, .val (.ref b1), .val (.ref b55), .unset, .unset, .unset, .unset, .unset, .unset, .unset, .unset, .unset] [])) _
      refine XS.aload X66.here hx rfl (hb hby at_185) rfl rfl ?_
      show Steps p.tables e below (T66.setTop (mkF m 187 #[.val (.long p1), .second, .val (.long p2), .second, .val (.int p3), .val (.int p4), .val (.int p5), .val (.long x7), .second, .val (.ref b1), .val (.ref b55), .unset, .unset, .unset, .unset, .unset, .unset, .unset, .unset, .unset] [(.ref b55)])) _
      refine XS.aload X66.here hx rfl (hb hby at_187) rfl rfl ?_
      show Steps p.tables e below (T66.setTop (mkF m 189 #[.val (.long p1), .second, .val (.long p2), .second, .val (.int p3), .val (.int p4), .val (.int p5), .val (.long x7), .second, .val (.ref b1), .val (.ref b55), .unset, .unset, .unset, .unset, .unset, .unset, .unset, .unset, .unset] [(.ref b1), (.ref b55)])) _
      refine XS.iconst X66.here hx rfl (hb hby at_189) ?_
      show Steps p.tables e below (T66.setTop (mkF m 190 #[.val (.long p1), .second, .val (.long p2), .second, .val (.int p3), .val (.int p4), .val (.int p5), .val (.long x7), .second, .val (.ref b1), .val (.ref b55), .unset, .unset, .unset, .unset, .unset, .unset, .unset, .unset, .unset] [(.int (1 : Int32)), (.ref b1), (.ref b55)])) _
      refine ldJ X66 hx hZ rfl G67 ix69.1 ix69.2 (g := (mkF m 190 #[.val (.long p1), .second, .val (.long p2), .second, .val (.int p3), .val (.int p4), .val (.int p5), .val (.long x7), .second, .val (.ref b1), .val (.ref b55), .unset, .unset, .unset, .unset, .unset, .unset, .unset, .unset, .unset] [(.int (1 : Int32)), (.ref b1), (.ref b55)])) rfl rfl (hb hby at_190) _ ?_
      show Steps p.tables e below (T66.setTop (mkF m 191 #[.val (.long p1), .second, .val (.long p2), .second, .val (.int p3), .val (.int p4), .val (.int p5), .val (.long x7), .second, .val (.ref b1), .val (.ref b55), .unset, .unset, .unset, .unset, .unset, .unset, .unset, .unset, .unset] [(.long (ss.getD 1 (0 : Int64))), (.ref b55)])) _
      refine st70.trans ?_
      show Steps p.tables e below (T70.setTop (mkF m 194 #[.val (.long p1), .second, .val (.long p2), .second, .val (.int p3), .val (.int p4), .val (.int p5), .val (.long x7), .second, .val (.ref b1), .val (.ref b55), .unset, .unset, .unset, .unset, .unset, .unset, .unset, .unset, .unset] [])) _
      refine XS.aload X70.here hx rfl (hb hby at_194) rfl rfl ?_
      show Steps p.tables e below (T70.setTop (mkF m 196 #[.val (.long p1), .second, .val (.long p2), .second, .val (.int p3), .val (.int p4), .val (.int p5), .val (.long x7), .second, .val (.ref b1), .val (.ref b55), .unset, .unset, .unset, .unset, .unset, .unset, .unset, .unset, .unset] [(.ref b55)])) _
      refine XS.aload X70.here hx rfl (hb hby at_196) rfl rfl ?_
      show Steps p.tables e below (T70.setTop (mkF m 198 #[.val (.long p1), .second, .val (.long p2), .second, .val (.int p3), .val (.int p4), .val (.int p5), .val (.long x7), .second, .val (.ref b1), .val (.ref b55), .unset, .unset, .unset, .unset, .unset, .unset, .unset, .unset, .unset] [(.ref b1), (.ref b55)])) _
      refine XS.iconst X70.here hx rfl (hb hby at_198) ?_
      show Steps p.tables e below (T70.setTop (mkF m 199 #[.val (.long p1), .second, .val (.long p2), .second, .val (.int p3), .val (.int p4), .val (.int p5), .val (.long x7), .second, .val (.ref b1), .val (.ref b55), .unset, .unset, .unset, .unset, .unset, .unset, .unset, .unset, .unset] [(.int (2 : Int32)), (.ref b1), (.ref b55)])) _
      refine ldJ X70 hx hZ rfl G71 ix73.1 ix73.2 (g := (mkF m 199 #[.val (.long p1), .second, .val (.long p2), .second, .val (.int p3), .val (.int p4), .val (.int p5), .val (.long x7), .second, .val (.ref b1), .val (.ref b55), .unset, .unset, .unset, .unset, .unset, .unset, .unset, .unset, .unset] [(.int (2 : Int32)), (.ref b1), (.ref b55)])) rfl rfl (hb hby at_199) _ ?_
      show Steps p.tables e below (T70.setTop (mkF m 200 #[.val (.long p1), .second, .val (.long p2), .second, .val (.int p3), .val (.int p4), .val (.int p5), .val (.long x7), .second, .val (.ref b1), .val (.ref b55), .unset, .unset, .unset, .unset, .unset, .unset, .unset, .unset, .unset] [(.long (ss.getD 2 (0 : Int64))), (.ref b55)])) _
      refine st74.trans ?_
      show Steps p.tables e below (T74.setTop (mkF m 203 #[.val (.long p1), .second, .val (.long p2), .second, .val (.int p3), .val (.int p4), .val (.int p5), .val (.long x7), .second, .val (.ref b1), .val (.ref b55), .unset, .unset, .unset, .unset, .unset, .unset, .unset, .unset, .unset] [])) _
      refine XS.aload X74.here hx rfl (hb hby at_203) rfl rfl ?_
      show Steps p.tables e below (T74.setTop (mkF m 205 #[.val (.long p1), .second, .val (.long p2), .second, .val (.int p3), .val (.int p4), .val (.int p5), .val (.long x7), .second, .val (.ref b1), .val (.ref b55), .unset, .unset, .unset, .unset, .unset, .unset, .unset, .unset, .unset] [(.ref b55)])) _
      refine XS.aload X74.here hx rfl (hb hby at_205) rfl rfl ?_
      show Steps p.tables e below (T74.setTop (mkF m 207 #[.val (.long p1), .second, .val (.long p2), .second, .val (.int p3), .val (.int p4), .val (.int p5), .val (.long x7), .second, .val (.ref b1), .val (.ref b55), .unset, .unset, .unset, .unset, .unset, .unset, .unset, .unset, .unset] [(.ref b1), (.ref b55)])) _
      refine XS.iconst X74.here hx rfl (hb hby at_207) ?_
      show Steps p.tables e below (T74.setTop (mkF m 208 #[.val (.long p1), .second, .val (.long p2), .second, .val (.int p3), .val (.int p4), .val (.int p5), .val (.long x7), .second, .val (.ref b1), .val (.ref b55), .unset, .unset, .unset, .unset, .unset, .unset, .unset, .unset, .unset] [(.int (3 : Int32)), (.ref b1), (.ref b55)])) _
      refine ldJ X74 hx hZ rfl G75 ix77.1 ix77.2 (g := (mkF m 208 #[.val (.long p1), .second, .val (.long p2), .second, .val (.int p3), .val (.int p4), .val (.int p5), .val (.long x7), .second, .val (.ref b1), .val (.ref b55), .unset, .unset, .unset, .unset, .unset, .unset, .unset, .unset, .unset] [(.int (3 : Int32)), (.ref b1), (.ref b55)])) rfl rfl (hb hby at_208) _ ?_
      show Steps p.tables e below (T74.setTop (mkF m 209 #[.val (.long p1), .second, .val (.long p2), .second, .val (.int p3), .val (.int p4), .val (.int p5), .val (.long x7), .second, .val (.ref b1), .val (.ref b55), .unset, .unset, .unset, .unset, .unset, .unset, .unset, .unset, .unset] [(.long (ss.getD 3 (0 : Int64))), (.ref b55)])) _
      refine st78.trans ?_
      show Steps p.tables e below (T78.setTop (mkF m 212 #[.val (.long p1), .second, .val (.long p2), .second, .val (.int p3), .val (.int p4), .val (.int p5), .val (.long x7), .second, .val (.ref b1), .val (.ref b55), .unset, .unset, .unset, .unset, .unset, .unset, .unset, .unset, .unset] [])) _
      refine XS.aload X78.here hx rfl (hb hby at_212) rfl rfl ?_
      show Steps p.tables e below (T78.setTop (mkF m 214 #[.val (.long p1), .second, .val (.long p2), .second, .val (.int p3), .val (.int p4), .val (.int p5), .val (.long x7), .second, .val (.ref b1), .val (.ref b55), .unset, .unset, .unset, .unset, .unset, .unset, .unset, .unset, .unset] [(.ref b55)])) _
      refine XS.aload X78.here hx rfl (hb hby at_214) rfl rfl ?_
      show Steps p.tables e below (T78.setTop (mkF m 216 #[.val (.long p1), .second, .val (.long p2), .second, .val (.int p3), .val (.int p4), .val (.int p5), .val (.long x7), .second, .val (.ref b1), .val (.ref b55), .unset, .unset, .unset, .unset, .unset, .unset, .unset, .unset, .unset] [(.ref b1), (.ref b55)])) _
      refine XS.iconst X78.here hx rfl (hb hby at_216) ?_
      show Steps p.tables e below (T78.setTop (mkF m 217 #[.val (.long p1), .second, .val (.long p2), .second, .val (.int p3), .val (.int p4), .val (.int p5), .val (.long x7), .second, .val (.ref b1), .val (.ref b55), .unset, .unset, .unset, .unset, .unset, .unset, .unset, .unset, .unset] [(.int (4 : Int32)), (.ref b1), (.ref b55)])) _
      refine ldJ X78 hx hZ rfl G79 ix81.1 ix81.2 (g := (mkF m 217 #[.val (.long p1), .second, .val (.long p2), .second, .val (.int p3), .val (.int p4), .val (.int p5), .val (.long x7), .second, .val (.ref b1), .val (.ref b55), .unset, .unset, .unset, .unset, .unset, .unset, .unset, .unset, .unset] [(.int (4 : Int32)), (.ref b1), (.ref b55)])) rfl rfl (hb hby at_217) _ ?_
      show Steps p.tables e below (T78.setTop (mkF m 218 #[.val (.long p1), .second, .val (.long p2), .second, .val (.int p3), .val (.int p4), .val (.int p5), .val (.long x7), .second, .val (.ref b1), .val (.ref b55), .unset, .unset, .unset, .unset, .unset, .unset, .unset, .unset, .unset] [(.long (ss.getD 4 (0 : Int64))), (.ref b55)])) _
      refine st82.trans ?_
      show Steps p.tables e below (T82.setTop (mkF m 221 #[.val (.long p1), .second, .val (.long p2), .second, .val (.int p3), .val (.int p4), .val (.int p5), .val (.long x7), .second, .val (.ref b1), .val (.ref b55), .unset, .unset, .unset, .unset, .unset, .unset, .unset, .unset, .unset] [])) _
      refine XS.aload X82.here hx rfl (hb hby at_221) rfl rfl ?_
      show Steps p.tables e below (T82.setTop (mkF m 223 #[.val (.long p1), .second, .val (.long p2), .second, .val (.int p3), .val (.int p4), .val (.int p5), .val (.long x7), .second, .val (.ref b1), .val (.ref b55), .unset, .unset, .unset, .unset, .unset, .unset, .unset, .unset, .unset] [(.ref b55)])) _
      refine XS.aload X82.here hx rfl (hb hby at_223) rfl rfl ?_
      show Steps p.tables e below (T82.setTop (mkF m 225 #[.val (.long p1), .second, .val (.long p2), .second, .val (.int p3), .val (.int p4), .val (.int p5), .val (.long x7), .second, .val (.ref b1), .val (.ref b55), .unset, .unset, .unset, .unset, .unset, .unset, .unset, .unset, .unset] [(.ref b1), (.ref b55)])) _
      refine XS.iconst X82.here hx rfl (hb hby at_225) ?_
      show Steps p.tables e below (T82.setTop (mkF m 226 #[.val (.long p1), .second, .val (.long p2), .second, .val (.int p3), .val (.int p4), .val (.int p5), .val (.long x7), .second, .val (.ref b1), .val (.ref b55), .unset, .unset, .unset, .unset, .unset, .unset, .unset, .unset, .unset] [(.int (5 : Int32)), (.ref b1), (.ref b55)])) _
      refine ldJ X82 hx hZ rfl G83 ix85.1 ix85.2 (g := (mkF m 226 #[.val (.long p1), .second, .val (.long p2), .second, .val (.int p3), .val (.int p4), .val (.int p5), .val (.long x7), .second, .val (.ref b1), .val (.ref b55), .unset, .unset, .unset, .unset, .unset, .unset, .unset, .unset, .unset] [(.int (5 : Int32)), (.ref b1), (.ref b55)])) rfl rfl (hb hby at_226) _ ?_
      show Steps p.tables e below (T82.setTop (mkF m 227 #[.val (.long p1), .second, .val (.long p2), .second, .val (.int p3), .val (.int p4), .val (.int p5), .val (.long x7), .second, .val (.ref b1), .val (.ref b55), .unset, .unset, .unset, .unset, .unset, .unset, .unset, .unset, .unset] [(.long (ss.getD 5 (0 : Int64))), (.ref b55)])) _
      refine st86.trans ?_
      show Steps p.tables e below (T86.setTop (mkF m 230 #[.val (.long p1), .second, .val (.long p2), .second, .val (.int p3), .val (.int p4), .val (.int p5), .val (.long x7), .second, .val (.ref b1), .val (.ref b55), .unset, .unset, .unset, .unset, .unset, .unset, .unset, .unset, .unset] [])) _
      refine XS.aload X86.here hx rfl (hb hby at_230) rfl rfl ?_
      show Steps p.tables e below (T86.setTop (mkF m 232 #[.val (.long p1), .second, .val (.long p2), .second, .val (.int p3), .val (.int p4), .val (.int p5), .val (.long x7), .second, .val (.ref b1), .val (.ref b55), .unset, .unset, .unset, .unset, .unset, .unset, .unset, .unset, .unset] [(.ref b55)])) _
      refine XS.aload X86.here hx rfl (hb hby at_232) rfl rfl ?_
      show Steps p.tables e below (T86.setTop (mkF m 234 #[.val (.long p1), .second, .val (.long p2), .second, .val (.int p3), .val (.int p4), .val (.int p5), .val (.long x7), .second, .val (.ref b1), .val (.ref b55), .unset, .unset, .unset, .unset, .unset, .unset, .unset, .unset, .unset] [(.ref b1), (.ref b55)])) _
      refine XS.bipush X86.here hx rfl (hb hby at_234) ?_
      show Steps p.tables e below (T86.setTop (mkF m 236 #[.val (.long p1), .second, .val (.long p2), .second, .val (.int p3), .val (.int p4), .val (.int p5), .val (.long x7), .second, .val (.ref b1), .val (.ref b55), .unset, .unset, .unset, .unset, .unset, .unset, .unset, .unset, .unset] [(.int (6 : Int32)), (.ref b1), (.ref b55)])) _
      refine ldJ X86 hx hZ rfl G87 ix89.1 ix89.2 (g := (mkF m 236 #[.val (.long p1), .second, .val (.long p2), .second, .val (.int p3), .val (.int p4), .val (.int p5), .val (.long x7), .second, .val (.ref b1), .val (.ref b55), .unset, .unset, .unset, .unset, .unset, .unset, .unset, .unset, .unset] [(.int (6 : Int32)), (.ref b1), (.ref b55)])) rfl rfl (hb hby at_236) _ ?_
      show Steps p.tables e below (T86.setTop (mkF m 237 #[.val (.long p1), .second, .val (.long p2), .second, .val (.int p3), .val (.int p4), .val (.int p5), .val (.long x7), .second, .val (.ref b1), .val (.ref b55), .unset, .unset, .unset, .unset, .unset, .unset, .unset, .unset, .unset] [(.long (ss.getD 6 (0 : Int64))), (.ref b55)])) _
      refine st90.trans ?_
      show Steps p.tables e below (T90.setTop (mkF m 240 #[.val (.long p1), .second, .val (.long p2), .second, .val (.int p3), .val (.int p4), .val (.int p5), .val (.long x7), .second, .val (.ref b1), .val (.ref b55), .unset, .unset, .unset, .unset, .unset, .unset, .unset, .unset, .unset] [])) _
      refine XS.aload X90.here hx rfl (hb hby at_240) rfl rfl ?_
      show Steps p.tables e below (T90.setTop (mkF m 242 #[.val (.long p1), .second, .val (.long p2), .second, .val (.int p3), .val (.int p4), .val (.int p5), .val (.long x7), .second, .val (.ref b1), .val (.ref b55), .unset, .unset, .unset, .unset, .unset, .unset, .unset, .unset, .unset] [(.ref b55)])) _
      refine XS.aload X90.here hx rfl (hb hby at_242) rfl rfl ?_
      show Steps p.tables e below (T90.setTop (mkF m 244 #[.val (.long p1), .second, .val (.long p2), .second, .val (.int p3), .val (.int p4), .val (.int p5), .val (.long x7), .second, .val (.ref b1), .val (.ref b55), .unset, .unset, .unset, .unset, .unset, .unset, .unset, .unset, .unset] [(.ref b1), (.ref b55)])) _
      refine XS.bipush X90.here hx rfl (hb hby at_244) ?_
      show Steps p.tables e below (T90.setTop (mkF m 246 #[.val (.long p1), .second, .val (.long p2), .second, .val (.int p3), .val (.int p4), .val (.int p5), .val (.long x7), .second, .val (.ref b1), .val (.ref b55), .unset, .unset, .unset, .unset, .unset, .unset, .unset, .unset, .unset] [(.int (7 : Int32)), (.ref b1), (.ref b55)])) _
      refine ldJ X90 hx hZ rfl G91 ix93.1 ix93.2 (g := (mkF m 246 #[.val (.long p1), .second, .val (.long p2), .second, .val (.int p3), .val (.int p4), .val (.int p5), .val (.long x7), .second, .val (.ref b1), .val (.ref b55), .unset, .unset, .unset, .unset, .unset, .unset, .unset, .unset, .unset] [(.int (7 : Int32)), (.ref b1), (.ref b55)])) rfl rfl (hb hby at_246) _ ?_
      show Steps p.tables e below (T90.setTop (mkF m 247 #[.val (.long p1), .second, .val (.long p2), .second, .val (.int p3), .val (.int p4), .val (.int p5), .val (.long x7), .second, .val (.ref b1), .val (.ref b55), .unset, .unset, .unset, .unset, .unset, .unset, .unset, .unset, .unset] [(.long (ss.getD 7 (0 : Int64))), (.ref b55)])) _
      refine st94.trans ?_
      show Steps p.tables e below (T94.setTop (mkF m 250 #[.val (.long p1), .second, .val (.long p2), .second, .val (.int p3), .val (.int p4), .val (.int p5), .val (.long x7), .second, .val (.ref b1), .val (.ref b55), .unset, .unset, .unset, .unset, .unset, .unset, .unset, .unset, .unset] [])) _
      refine XS.aload X94.here hx rfl (hb hby at_250) rfl rfl ?_
      show Steps p.tables e below (T94.setTop (mkF m 252 #[.val (.long p1), .second, .val (.long p2), .second, .val (.int p3), .val (.int p4), .val (.int p5), .val (.long x7), .second, .val (.ref b1), .val (.ref b55), .unset, .unset, .unset, .unset, .unset, .unset, .unset, .unset, .unset] [(.ref b55)])) _
      refine XS.aload X94.here hx rfl (hb hby at_252) rfl rfl ?_
      show Steps p.tables e below (T94.setTop (mkF m 254 #[.val (.long p1), .second, .val (.long p2), .second, .val (.int p3), .val (.int p4), .val (.int p5), .val (.long x7), .second, .val (.ref b1), .val (.ref b55), .unset, .unset, .unset, .unset, .unset, .unset, .unset, .unset, .unset] [(.ref b1), (.ref b55)])) _
      refine XS.bipush X94.here hx rfl (hb hby at_254) ?_
      show Steps p.tables e below (T94.setTop (mkF m 256 #[.val (.long p1), .second, .val (.long p2), .second, .val (.int p3), .val (.int p4), .val (.int p5), .val (.long x7), .second, .val (.ref b1), .val (.ref b55), .unset, .unset, .unset, .unset, .unset, .unset, .unset, .unset, .unset] [(.int (8 : Int32)), (.ref b1), (.ref b55)])) _
      refine ldJ X94 hx hZ rfl G95 ix97.1 ix97.2 (g := (mkF m 256 #[.val (.long p1), .second, .val (.long p2), .second, .val (.int p3), .val (.int p4), .val (.int p5), .val (.long x7), .second, .val (.ref b1), .val (.ref b55), .unset, .unset, .unset, .unset, .unset, .unset, .unset, .unset, .unset] [(.int (8 : Int32)), (.ref b1), (.ref b55)])) rfl rfl (hb hby at_256) _ ?_
      exact kt
    by_cases hg257 : (own_dr (ss.getD 8 (0 : Int64)) x7 (own_Qn x7 ss 7)).length = 8
    · have _ := hg257
      obtain ⟨cq98, kq98, q98a, q98b, q98c⟩ := isOf hZ rfl (G96 : Exa Z T94.heap b55 "com/example/talthybius/talthybius/AwaitedPings")
      obtain ⟨_, _, ⟨T98, L98, k98, n98⟩, -, X98, ⟨Lc98, hQ98, l98, y98, z98⟩, st98⟩ := X94.virtualBack hx (y := (⟨"com/example/talthybius/talthybius/AwaitedPings", "sent", "(J)V"⟩ : MethodName)) (z := (⟨"com/example/talthybius/talthybius/AwaitedPings", "sent", "(J)V"⟩ : MethodName)) hown (mvT hZ (hw _ (List.mem_of_getElem? (i := 24) rfl))) (mvT hZ (hw _ (List.mem_of_getElem? (i := 25) rfl))) (notFace_of_selects (args := #[]) (mvT hZ (hw _ (List.mem_of_getElem? (i := 27) rfl)))) (mvT hZ (hw _ (List.mem_of_getElem? (i := 27) rfl))) (mvT hZ (hw _ (List.mem_of_getElem? (i := 26) rfl))) (by decide) (backOf (W := 0) (rm_senG l Z a0 hw [] b55 (ss.getD 8 (0 : Int64)) aS_62 aA_62 x7 o1_94 c1_94 sl1_94 al1_94 (own_Qn x7 ss 7) T94.heap n0 Z94 G96 pf94_0 pf94_1 pf94_2 pf94_3 pf94_4 pf94_5 pf94_6 g_b55 ne_b55_aS_62 ne_b55_aA_62 ne_aS_62_aA_62 hA7 hg257) hZ (hw _ (List.mem_of_getElem? (i := 28) rfl)) (hw _ (List.mem_of_getElem? (i := 10) rfl)) (by decide) (by decide)) q98a q98c (g := (mkF m 257 #[.val (.long p1), .second, .val (.long p2), .second, .val (.int p3), .val (.int p4), .val (.int p5), .val (.long x7), .second, .val (.ref b1), .val (.ref b55), .unset, .unset, .unset, .unset, .unset, .unset, .unset, .unset, .unset] [(.long (ss.getD 8 (0 : Int64))), (.ref b55)])) rfl (by rw [hml]; rfl) (Steps.refl _) (argsL := [(.long (ss.getD 8 (0 : Int64)))]) (rest := []) (lenOf pd_1 rfl) rfl (by show 2 * 0 + _ ≤ _; exact Nat.le_of_eq rfl) (hb hby at_257) (fun _ _ => ⟨rfl, rfl, (Nat.le_trans (Nat.add_le_add_right (Nat.add_le_add_right (Nat.add_le_add_right (Nat.add_le_add_right (Nat.add_le_add_right (Nat.add_le_add_right (Nat.add_le_add_right (Nat.add_le_add_right (Nat.add_le_add_right (Nat.add_le_add_right (Nat.add_le_add_right hcl 1) 2) 0) 0) 0) 0) 0) 0) 0) 0) 2) (by decide)), (Nat.le_trans (Nat.add_le_add_right (Nat.add_le_add_right (Nat.add_le_add_right (Nat.add_le_add_right (Nat.add_le_add_right (Nat.add_le_add_right (Nat.add_le_add_right (Nat.add_le_add_right (Nat.add_le_add_right (Nat.add_le_add_right (Nat.add_le_add_right hsl 5) 16) 0) 0) 0) 0) 0) 0) 0) 0) 32) (by decide))⟩)
      dsimp only [Pt.U, Pt.locs, Pt.cells, Pt.slots] at X98 l98 y98 z98 st98 hQ98
      subst l98 y98 z98
      obtain ⟨s2_98, a2_98, o1_98, c1_98, sl1_98, al1_98, rfl, N98q, Kq98, fz_s2_98, fz_a2_98, ne_s2_98_a2_98, pf98_0, pf98_1, pf98_2, pf98_3, pf98_4, pf98_5, pf98_6, ph98_0⟩ := hQ98
      have oldlt_98_b1 : b1 < T94.heap.size := G95.lt
      have oldlt_98_b55 : b55 < T94.heap.size := G96.lt
      have oldlt_98_aS_62 : aS_62 < T94.heap.size := pf94_5.lt
      have oldlt_98_aA_62 : aA_62 < T94.heap.size := pf94_6.lt
      have G99 : VA Z T98.heap b1 .long (ss.map Value.long) := G95.keep Kq98 (ninS ne_b1_b55 nin0)
      have G100 : Exa Z T98.heap b55 "com/example/talthybius/talthybius/AwaitedPings" := Exa.keep G96 Kq98
      have G101 : VA Z T98.heap aS_62 .long (sl1_94.map Value.long) := pf94_5.keep Kq98 (ninS (Ne.symm ne_b55_aS_62) nin0)
      have G102 : VA Z T98.heap aA_62 .boolean (al1_94.map Value.int) := pf94_6.keep Kq98 (ninS (Ne.symm ne_b55_aA_62) nin0)
      have ne_b1_s2_98 : b1 ≠ s2_98 := Nat.ne_of_lt (Nat.lt_of_lt_of_le oldlt_98_b1 fz_s2_98)
      have ne_b55_s2_98 : b55 ≠ s2_98 := Nat.ne_of_lt (Nat.lt_of_lt_of_le oldlt_98_b55 fz_s2_98)
      have ne_aS_62_s2_98 : aS_62 ≠ s2_98 := Nat.ne_of_lt (Nat.lt_of_lt_of_le oldlt_98_aS_62 fz_s2_98)
      have ne_aA_62_s2_98 : aA_62 ≠ s2_98 := Nat.ne_of_lt (Nat.lt_of_lt_of_le oldlt_98_aA_62 fz_s2_98)
      have g_s2_98 : n0 ≤ s2_98 := Nat.le_trans Z94 fz_s2_98
      have sz_s2_98 : h0.size ≤ s2_98 := Nat.le_trans K94.1 fz_s2_98
      have ne_b1_a2_98 : b1 ≠ a2_98 := Nat.ne_of_lt (Nat.lt_of_lt_of_le oldlt_98_b1 fz_a2_98)
      have ne_b55_a2_98 : b55 ≠ a2_98 := Nat.ne_of_lt (Nat.lt_of_lt_of_le oldlt_98_b55 fz_a2_98)
      have ne_aS_62_a2_98 : aS_62 ≠ a2_98 := Nat.ne_of_lt (Nat.lt_of_lt_of_le oldlt_98_aS_62 fz_a2_98)
      have ne_aA_62_a2_98 : aA_62 ≠ a2_98 := Nat.ne_of_lt (Nat.lt_of_lt_of_le oldlt_98_aA_62 fz_a2_98)
      have g_a2_98 : n0 ≤ a2_98 := Nat.le_trans Z94 fz_a2_98
      have sz_a2_98 : h0.size ≤ a2_98 := Nat.le_trans K94.1 fz_a2_98
      have K98 : Keep h0 T98.heap [] := Keep.trans K94 Kq98 (allS (Or.inr sz_b55) all0)
      have Z98 : n0 ≤ T98.heap.size := Nat.le_trans Z0 K98.1
      have N98 := Fr.app N94 N98q
      have hA8 : own_AP 16 sl1_98 al1_98 o1_98 c1_98 (own_Qn x7 ss 8) := ph98_0
      have hl8 : (own_Qn x7 ss 8).length ≤ 9 := own_lP hl7
      refine Go.step (T' := T98) (f' := (mkF m 260 #[.val (.long p1), .second, .val (.long p2), .second, .val (.int p3), .val (.int p4), .val (.int p5), .val (.long x7), .second, .val (.ref b1), .val (.ref b55), .unset, .unset, .unset, .unset, .unset, .unset, .unset, .unset, .unset] [])) (fun t kt => ?_) ?_
      · show Steps p.tables e below (T94.setTop (mkF m 257 #[.val (.long p1), .second, .val (.long p2), .second, .val (.int p3), .val (.int p4), .val (.int p5), .val (.long x7), .second, .val (.ref b1), .val (.ref b55), .unset, .unset, .unset, .unset, .unset, .unset, .unset, .unset, .unset] [(.long (ss.getD 8 (0 : Int64))), (.ref b55)])) _
        refine st98.trans ?_
        exact kt
      exact S260 _ _ _ _ X98 (Nat.le_trans (Nat.add_le_add_right (Nat.add_le_add_right (Nat.add_le_add_right (Nat.add_le_add_right (Nat.add_le_add_right (Nat.add_le_add_right (Nat.add_le_add_right (Nat.add_le_add_right (Nat.add_le_add_right (Nat.add_le_add_right (Nat.add_le_add_right hcl 1) 2) 0) 0) 0) 0) 0) 0) 0) 0) 2) (by decide)) (Nat.le_trans (Nat.add_le_add_right (Nat.add_le_add_right (Nat.add_le_add_right (Nat.add_le_add_right (Nat.add_le_add_right (Nat.add_le_add_right (Nat.add_le_add_right (Nat.add_le_add_right (Nat.add_le_add_right (Nat.add_le_add_right (Nat.add_le_add_right hsl 5) 16) 0) 0) 0) 0) 0) 0) 0) 0) 32) (by decide)) T98.heap rfl N98 x7 b1 b55 s2_98 a2_98 ss c1_98 o1_98 sl1_98 al1_98 16 K98 G99 G100 pf98_1 pf98_2 pf98_0 pf98_4 pf98_3 pf98_5 pf98_6 g_b1 g_b55 g_s2_98 g_a2_98 sz_b1 sz_b55 sz_s2_98 sz_a2_98 ne_b1_b55 ne_b1_s2_98 ne_b55_s2_98 ne_b1_a2_98 ne_b55_a2_98 ne_s2_98_a2_98 hA8 hl8 hS h7
    · have _ := hg257
      obtain ⟨cq103, kq103, q103a, q103b, q103c⟩ := isOf hZ rfl (G96 : Exa Z T94.heap b55 "com/example/talthybius/talthybius/AwaitedPings")
      obtain ⟨_, _, ⟨T103, L103, k103, n103⟩, -, X103, ⟨Lc103, hQ103, l103, y103, z103⟩, st103⟩ := X94.virtualBack hx (y := (⟨"com/example/talthybius/talthybius/AwaitedPings", "sent", "(J)V"⟩ : MethodName)) (z := (⟨"com/example/talthybius/talthybius/AwaitedPings", "sent", "(J)V"⟩ : MethodName)) hown (mvT hZ (hw _ (List.mem_of_getElem? (i := 24) rfl))) (mvT hZ (hw _ (List.mem_of_getElem? (i := 25) rfl))) (notFace_of_selects (args := #[]) (mvT hZ (hw _ (List.mem_of_getElem? (i := 27) rfl)))) (mvT hZ (hw _ (List.mem_of_getElem? (i := 27) rfl))) (mvT hZ (hw _ (List.mem_of_getElem? (i := 26) rfl))) (by decide) (backOf (W := 0) (rm_senN l Z a0 hw [] b55 (ss.getD 8 (0 : Int64)) aS_62 aA_62 x7 o1_94 c1_94 sl1_94 al1_94 8 (own_Qn x7 ss 7) T94.heap n0 Z94 G96 pf94_0 pf94_1 pf94_2 pf94_3 pf94_4 pf94_5 pf94_6 g_b55 g_aS_62 g_aA_62 ne_b55_aS_62 ne_b55_aA_62 ne_aS_62_aA_62 hA7 (own_hlt8 hl7 hg257)) hZ (hw _ (List.mem_of_getElem? (i := 28) rfl)) (hw _ (List.mem_of_getElem? (i := 10) rfl)) (by decide) (by decide)) q103a q103c (g := (mkF m 257 #[.val (.long p1), .second, .val (.long p2), .second, .val (.int p3), .val (.int p4), .val (.int p5), .val (.long x7), .second, .val (.ref b1), .val (.ref b55), .unset, .unset, .unset, .unset, .unset, .unset, .unset, .unset, .unset] [(.long (ss.getD 8 (0 : Int64))), (.ref b55)])) rfl (by rw [hml]; rfl) (Steps.refl _) (argsL := [(.long (ss.getD 8 (0 : Int64)))]) (rest := []) (lenOf pd_1 rfl) rfl (by show 2 * 0 + _ ≤ _; exact Nat.le_of_eq rfl) (hb hby at_257) (fun _ _ => ⟨rfl, rfl, (Nat.le_trans (Nat.add_le_add_right (Nat.add_le_add_right (Nat.add_le_add_right (Nat.add_le_add_right (Nat.add_le_add_right (Nat.add_le_add_right (Nat.add_le_add_right (Nat.add_le_add_right (Nat.add_le_add_right (Nat.add_le_add_right (Nat.add_le_add_right hcl 1) 2) 0) 0) 0) 0) 0) 0) 0) 0) 0) (by decide)), (Nat.le_trans (Nat.add_le_add_right (Nat.add_le_add_right (Nat.add_le_add_right (Nat.add_le_add_right (Nat.add_le_add_right (Nat.add_le_add_right (Nat.add_le_add_right (Nat.add_le_add_right (Nat.add_le_add_right (Nat.add_le_add_right (Nat.add_le_add_right hsl 5) 16) 0) 0) 0) 0) 0) 0) 0) 0) 0) (by decide))⟩)
      dsimp only [Pt.U, Pt.locs, Pt.cells, Pt.slots] at X103 l103 y103 z103 st103 hQ103
      subst l103 y103 z103
      obtain ⟨o1_103, c1_103, sl1_103, al1_103, rfl, N103q, Kq103, pf103_0, pf103_1, pf103_2, pf103_3, pf103_4, pf103_5, pf103_6, ph103_0⟩ := hQ103
      have G104 : VA Z T103.heap b1 .long (ss.map Value.long) := G95.keep Kq103 (ninS ne_b1_b55 (ninS ne_b1_aS_62 (ninS ne_b1_aA_62 nin0)))
      have G105 : Exa Z T103.heap b55 "com/example/talthybius/talthybius/AwaitedPings" := Exa.keep G96 Kq103
      have K103 : Keep h0 T103.heap [] := Keep.trans K94 Kq103 (allS (Or.inr sz_b55) (allS (Or.inr sz_aS_62) (allS (Or.inr sz_aA_62) all0)))
      have Z103 : n0 ≤ T103.heap.size := Nat.le_trans Z0 K103.1
      have N103 := Fr.app N94 N103q
      have hA8 : own_AP 8 sl1_103 al1_103 o1_103 c1_103 (own_Qn x7 ss 8) := ph103_0
      have hl8 : (own_Qn x7 ss 8).length ≤ 9 := own_lP hl7
      refine Go.step (T' := T103) (f' := (mkF m 260 #[.val (.long p1), .second, .val (.long p2), .second, .val (.int p3), .val (.int p4), .val (.int p5), .val (.long x7), .second, .val (.ref b1), .val (.ref b55), .unset, .unset, .unset, .unset, .unset, .unset, .unset, .unset, .unset] [])) (fun t kt => ?_) ?_
      · show Steps p.tables e below (T94.setTop (mkF m 257 #[.val (.long p1), .second, .val (.long p2), .second, .val (.int p3), .val (.int p4), .val (.int p5), .val (.long x7), .second, .val (.ref b1), .val (.ref b55), .unset, .unset, .unset, .unset, .unset, .unset, .unset, .unset, .unset] [(.long (ss.getD 8 (0 : Int64))), (.ref b55)])) _
        refine st103.trans ?_
        exact kt
      exact S260 _ _ _ _ X103 (Nat.le_trans (Nat.add_le_add_right (Nat.add_le_add_right (Nat.add_le_add_right (Nat.add_le_add_right (Nat.add_le_add_right (Nat.add_le_add_right (Nat.add_le_add_right (Nat.add_le_add_right (Nat.add_le_add_right (Nat.add_le_add_right (Nat.add_le_add_right hcl 1) 2) 0) 0) 0) 0) 0) 0) 0) 0) 0) (by decide)) (Nat.le_trans (Nat.add_le_add_right (Nat.add_le_add_right (Nat.add_le_add_right (Nat.add_le_add_right (Nat.add_le_add_right (Nat.add_le_add_right (Nat.add_le_add_right (Nat.add_le_add_right (Nat.add_le_add_right (Nat.add_le_add_right (Nat.add_le_add_right hsl 5) 16) 0) 0) 0) 0) 0) 0) 0) 0) 0) (by decide)) T103.heap rfl N103 x7 b1 b55 aS_62 aA_62 ss c1_103 o1_103 sl1_103 al1_103 8 K103 G104 G105 pf103_1 pf103_2 pf103_0 pf103_4 pf103_3 pf103_5 pf103_6 g_b1 g_b55 g_aS_62 g_aA_62 sz_b1 sz_b55 sz_aS_62 sz_aA_62 ne_b1_b55 ne_b1_aS_62 ne_b55_aS_62 ne_b1_aA_62 ne_b55_aA_62 ne_aS_62_aA_62 hA8 hl8 hS h7
  obtain ⟨T106, h106, X106, e106, E106, A106, st106⟩ := newJ X0 hx hZ (hw _ (List.mem_of_getElem? (i := 1) rfl)) e0 (g := (mkF m 11 #[.val (.long p1), .second, .val (.long p2), .second, .val (.int p3), .val (.int p4), .val (.int p5), .val (.long ((p4.toInt64) &&& (8191 : Int64))), .second, .unset, .unset, .unset, .unset, .unset, .unset, .unset, .unset, .unset, .unset, .unset] [(.int (10 : Int32))])) rfl (hb hby at_11) rfl (by decide) (cap := 10) (by decide) (by decide) (Nat.le_trans (Nat.add_le_add_right (Nat.le_refl 0) 1) (by decide)) (Nat.le_trans (Nat.add_le_add_right (Nat.le_refl 0) 10) (by decide))
  obtain ⟨b106, g106⟩ : ∃ z, z = h0.size := ⟨_, rfl⟩
  rw [← g106] at A106 st106
  have g_b106 : n0 ≤ b106 := Nat.le_trans Z0 (Nat.le_of_eq g106.symm)
  have sz_b106 : h0.size ≤ b106 := Nat.le_trans (Keep.refl h0 []).1 (Nat.le_of_eq g106.symm)
  have K106 : Keep h0 h106 [] := Keep.ext (Keep.refl h0 []) E106
  have Z106 : n0 ≤ h106.size := Nat.le_trans Z0 K106.1
  have G107 : VA Z h106 b106 .long ([(0 : Int64), (0 : Int64), (0 : Int64), (0 : Int64), (0 : Int64), (0 : Int64), (0 : Int64), (0 : Int64), (0 : Int64), (0 : Int64)].map Value.long) := A106
  have ix108 : 0 ≤ ((0 : Int32)).toInt ∧ ((0 : Int32)).toInt < (([(0 : Int64), (0 : Int64), (0 : Int64), (0 : Int64), (0 : Int64), (0 : Int64), (0 : Int64), (0 : Int64), (0 : Int64), (0 : Int64)]).length : Int) := by constructor <;> first | decide | (simp; done)
  obtain ⟨T109, h109, X109, e109, W109, V109, st109⟩ := putJ X106 hx hZ e106 G107 ix108.1 ix108.2 (g := (mkF m 21 #[.val (.long p1), .second, .val (.long p2), .second, .val (.int p3), .val (.int p4), .val (.int p5), .val (.long ((p4.toInt64) &&& (8191 : Int64))), .second, .val (.ref b106), .unset, .unset, .unset, .unset, .unset, .unset, .unset, .unset, .unset, .unset] [(.long (p1 >>> ((1 : Int32) &&& 0x3f).toInt64)), (.int (0 : Int32)), (.ref b106)])) rfl rfl (hb hby at_21)
  have G110 : VA Z h109 b106 .long ([(p1 >>> ((1 : Int32) &&& 0x3f).toInt64), (0 : Int64), (0 : Int64), (0 : Int64), (0 : Int64), (0 : Int64), (0 : Int64), (0 : Int64), (0 : Int64), (0 : Int64)].map Value.long) := V109
  have N109 := Fr.snoc X109 N0 g_b106
  have K109 : Keep h0 h109 [] := Keep.wr K106 W109 (Or.inr sz_b106)
  have Z109 : n0 ≤ h109.size := Nat.le_trans Z0 K109.1
  have ix111 : 0 ≤ ((0 : Int32)).toInt ∧ ((0 : Int32)).toInt < (([(p1 >>> ((1 : Int32) &&& 0x3f).toInt64), (0 : Int64), (0 : Int64), (0 : Int64), (0 : Int64), (0 : Int64), (0 : Int64), (0 : Int64), (0 : Int64), (0 : Int64)]).length : Int) := by constructor <;> first | decide | (simp; done)
  obtain ⟨_, _, ⟨T112, L112, k112, n112⟩, -, X112, ⟨Lc112, hQ112, l112, y112, z112⟩, st112⟩ := Jvm.LawKit.callS X109 hx (y := (⟨"com/example/talthybius/talthybius/AwaitedPingsSentPinLaw", "gap", "(JI)J"⟩ : MethodName)) hown (mvT hZ (hw _ (List.mem_of_getElem? (i := 2) rfl))) (mvT hZ (hw _ (List.mem_of_getElem? (i := 3) rfl))) (mvT hZ (hw _ (List.mem_of_getElem? (i := 4) rfl))) (mvT hZ (hw _ (List.mem_of_getElem? (i := 5) rfl))) (by decide) (backOf (W := 4) (rm_gapF l Z a0 hw [] p2 (0 : Int32)  h109 n0 Z109 ) hZ (hw _ (List.mem_of_getElem? (i := 5) rfl)) (hw _ (List.mem_of_getElem? (i := 4) rfl)) (by decide) (by decide)) (g := (mkF m 31 #[.val (.long p1), .second, .val (.long p2), .second, .val (.int p3), .val (.int p4), .val (.int p5), .val (.long ((p4.toInt64) &&& (8191 : Int64))), .second, .val (.ref b106), .unset, .unset, .unset, .unset, .unset, .unset, .unset, .unset, .unset, .unset] [(.int (0 : Int32)), (.long p2), (.long (p1 >>> ((1 : Int32) &&& 0x3f).toInt64)), (.int (1 : Int32)), (.ref b106)])) rfl (by rw [hml]; rfl) (argsL := [(.long p2), (.int (0 : Int32))]) (rest := [(.long (p1 >>> ((1 : Int32) &&& 0x3f).toInt64)), (.int (1 : Int32)), (.ref b106)]) (lenOf pd_4 rfl) rfl (by show 2 * 0 + _ ≤ _; exact Nat.le_of_eq rfl) (hb hby at_31) (fun _ _ => ⟨rfl, e109, (Nat.le_trans (Nat.add_le_add_right (Nat.add_le_add_right (Nat.le_refl 0) 1) 0) (by decide)), (Nat.le_trans (Nat.add_le_add_right (Nat.add_le_add_right (Nat.le_refl 0) 10) 0) (by decide))⟩)
  dsimp only [Pt.U, Pt.locs, Pt.cells, Pt.slots] at X112 l112 y112 z112 st112 hQ112
  subst l112 y112 z112
  obtain ⟨rfl, N112q, e112⟩ := hQ112
  have N112 := Fr.app N109 N112q
  have ix113 : 0 ≤ ((1 : Int32)).toInt ∧ ((1 : Int32)).toInt < (([(p1 >>> ((1 : Int32) &&& 0x3f).toInt64), (0 : Int64), (0 : Int64), (0 : Int64), (0 : Int64), (0 : Int64), (0 : Int64), (0 : Int64), (0 : Int64), (0 : Int64)]).length : Int) := by constructor <;> first | decide | (simp; done)
  obtain ⟨T114, h114, X114, e114, W114, V114, st114⟩ := putJ X112 hx hZ e112 G110 ix113.1 ix113.2 (g := (mkF m 35 #[.val (.long p1), .second, .val (.long p2), .second, .val (.int p3), .val (.int p4), .val (.int p5), .val (.long ((p4.toInt64) &&& (8191 : Int64))), .second, .val (.ref b106), .unset, .unset, .unset, .unset, .unset, .unset, .unset, .unset, .unset, .unset] [(.long ((p1 >>> ((1 : Int32) &&& 0x3f).toInt64) + (gapF p2 (0 : Int32)))), (.int (1 : Int32)), (.ref b106)])) rfl rfl (hb hby at_35)
  have G115 : VA Z h114 b106 .long ([(p1 >>> ((1 : Int32) &&& 0x3f).toInt64), ((p1 >>> ((1 : Int32) &&& 0x3f).toInt64) + (gapF p2 (0 : Int32))), (0 : Int64), (0 : Int64), (0 : Int64), (0 : Int64), (0 : Int64), (0 : Int64), (0 : Int64), (0 : Int64)].map Value.long) := V114
  have N114 := Fr.snoc X114 N112 g_b106
  have K114 : Keep h0 h114 [] := Keep.wr K109 W114 (Or.inr sz_b106)
  have Z114 : n0 ≤ h114.size := Nat.le_trans Z0 K114.1
  have ix116 : 0 ≤ ((1 : Int32)).toInt ∧ ((1 : Int32)).toInt < (([(p1 >>> ((1 : Int32) &&& 0x3f).toInt64), ((p1 >>> ((1 : Int32) &&& 0x3f).toInt64) + (gapF p2 (0 : Int32))), (0 : Int64), (0 : Int64), (0 : Int64), (0 : Int64), (0 : Int64), (0 : Int64), (0 : Int64), (0 : Int64)]).length : Int) := by constructor <;> first | decide | (simp; done)
  obtain ⟨_, _, ⟨T117, L117, k117, n117⟩, -, X117, ⟨Lc117, hQ117, l117, y117, z117⟩, st117⟩ := Jvm.LawKit.callS X114 hx (y := (⟨"com/example/talthybius/talthybius/AwaitedPingsSentPinLaw", "gap", "(JI)J"⟩ : MethodName)) hown (mvT hZ (hw _ (List.mem_of_getElem? (i := 2) rfl))) (mvT hZ (hw _ (List.mem_of_getElem? (i := 3) rfl))) (mvT hZ (hw _ (List.mem_of_getElem? (i := 4) rfl))) (mvT hZ (hw _ (List.mem_of_getElem? (i := 5) rfl))) (by decide) (backOf (W := 4) (rm_gapF l Z a0 hw [] p2 (1 : Int32)  h114 n0 Z114 ) hZ (hw _ (List.mem_of_getElem? (i := 5) rfl)) (hw _ (List.mem_of_getElem? (i := 4) rfl)) (by decide) (by decide)) (g := (mkF m 45 #[.val (.long p1), .second, .val (.long p2), .second, .val (.int p3), .val (.int p4), .val (.int p5), .val (.long ((p4.toInt64) &&& (8191 : Int64))), .second, .val (.ref b106), .unset, .unset, .unset, .unset, .unset, .unset, .unset, .unset, .unset, .unset] [(.int (1 : Int32)), (.long p2), (.long ((p1 >>> ((1 : Int32) &&& 0x3f).toInt64) + (gapF p2 (0 : Int32)))), (.int (2 : Int32)), (.ref b106)])) rfl (by rw [hml]; rfl) (argsL := [(.long p2), (.int (1 : Int32))]) (rest := [(.long ((p1 >>> ((1 : Int32) &&& 0x3f).toInt64) + (gapF p2 (0 : Int32)))), (.int (2 : Int32)), (.ref b106)]) (lenOf pd_4 rfl) rfl (by show 2 * 0 + _ ≤ _; exact Nat.le_of_eq rfl) (hb hby at_45) (fun _ _ => ⟨rfl, e114, (Nat.le_trans (Nat.add_le_add_right (Nat.add_le_add_right (Nat.add_le_add_right (Nat.le_refl 0) 1) 0) 0) (by decide)), (Nat.le_trans (Nat.add_le_add_right (Nat.add_le_add_right (Nat.add_le_add_right (Nat.le_refl 0) 10) 0) 0) (by decide))⟩)
  dsimp only [Pt.U, Pt.locs, Pt.cells, Pt.slots] at X117 l117 y117 z117 st117 hQ117
  subst l117 y117 z117
  obtain ⟨rfl, N117q, e117⟩ := hQ117
  have N117 := Fr.app N114 N117q
  have ix118 : 0 ≤ ((2 : Int32)).toInt ∧ ((2 : Int32)).toInt < (([(p1 >>> ((1 : Int32) &&& 0x3f).toInt64), ((p1 >>> ((1 : Int32) &&& 0x3f).toInt64) + (gapF p2 (0 : Int32))), (0 : Int64), (0 : Int64), (0 : Int64), (0 : Int64), (0 : Int64), (0 : Int64), (0 : Int64), (0 : Int64)]).length : Int) := by constructor <;> first | decide | (simp; done)
  obtain ⟨T119, h119, X119, e119, W119, V119, st119⟩ := putJ X117 hx hZ e117 G115 ix118.1 ix118.2 (g := (mkF m 49 #[.val (.long p1), .second, .val (.long p2), .second, .val (.int p3), .val (.int p4), .val (.int p5), .val (.long ((p4.toInt64) &&& (8191 : Int64))), .second, .val (.ref b106), .unset, .unset, .unset, .unset, .unset, .unset, .unset, .unset, .unset, .unset] [(.long (((p1 >>> ((1 : Int32) &&& 0x3f).toInt64) + (gapF p2 (0 : Int32))) + (gapF p2 (1 : Int32)))), (.int (2 : Int32)), (.ref b106)])) rfl rfl (hb hby at_49)
  have G120 : VA Z h119 b106 .long ([(p1 >>> ((1 : Int32) &&& 0x3f).toInt64), ((p1 >>> ((1 : Int32) &&& 0x3f).toInt64) + (gapF p2 (0 : Int32))), (((p1 >>> ((1 : Int32) &&& 0x3f).toInt64) + (gapF p2 (0 : Int32))) + (gapF p2 (1 : Int32))), (0 : Int64), (0 : Int64), (0 : Int64), (0 : Int64), (0 : Int64), (0 : Int64), (0 : Int64)].map Value.long) := V119
  have N119 := Fr.snoc X119 N117 g_b106
  have K119 : Keep h0 h119 [] := Keep.wr K114 W119 (Or.inr sz_b106)
  have Z119 : n0 ≤ h119.size := Nat.le_trans Z0 K119.1
  have ix121 : 0 ≤ ((2 : Int32)).toInt ∧ ((2 : Int32)).toInt < (([(p1 >>> ((1 : Int32) &&& 0x3f).toInt64), ((p1 >>> ((1 : Int32) &&& 0x3f).toInt64) + (gapF p2 (0 : Int32))), (((p1 >>> ((1 : Int32) &&& 0x3f).toInt64) + (gapF p2 (0 : Int32))) + (gapF p2 (1 : Int32))), (0 : Int64), (0 : Int64), (0 : Int64), (0 : Int64), (0 : Int64), (0 : Int64), (0 : Int64)]).length : Int) := by constructor <;> first | decide | (simp; done)
  obtain ⟨_, _, ⟨T122, L122, k122, n122⟩, -, X122, ⟨Lc122, hQ122, l122, y122, z122⟩, st122⟩ := Jvm.LawKit.callS X119 hx (y := (⟨"com/example/talthybius/talthybius/AwaitedPingsSentPinLaw", "gap", "(JI)J"⟩ : MethodName)) hown (mvT hZ (hw _ (List.mem_of_getElem? (i := 2) rfl))) (mvT hZ (hw _ (List.mem_of_getElem? (i := 3) rfl))) (mvT hZ (hw _ (List.mem_of_getElem? (i := 4) rfl))) (mvT hZ (hw _ (List.mem_of_getElem? (i := 5) rfl))) (by decide) (backOf (W := 4) (rm_gapF l Z a0 hw [] p2 (2 : Int32)  h119 n0 Z119 ) hZ (hw _ (List.mem_of_getElem? (i := 5) rfl)) (hw _ (List.mem_of_getElem? (i := 4) rfl)) (by decide) (by decide)) (g := (mkF m 59 #[.val (.long p1), .second, .val (.long p2), .second, .val (.int p3), .val (.int p4), .val (.int p5), .val (.long ((p4.toInt64) &&& (8191 : Int64))), .second, .val (.ref b106), .unset, .unset, .unset, .unset, .unset, .unset, .unset, .unset, .unset, .unset] [(.int (2 : Int32)), (.long p2), (.long (((p1 >>> ((1 : Int32) &&& 0x3f).toInt64) + (gapF p2 (0 : Int32))) + (gapF p2 (1 : Int32)))), (.int (3 : Int32)), (.ref b106)])) rfl (by rw [hml]; rfl) (argsL := [(.long p2), (.int (2 : Int32))]) (rest := [(.long (((p1 >>> ((1 : Int32) &&& 0x3f).toInt64) + (gapF p2 (0 : Int32))) + (gapF p2 (1 : Int32)))), (.int (3 : Int32)), (.ref b106)]) (lenOf pd_4 rfl) rfl (by show 2 * 0 + _ ≤ _; exact Nat.le_of_eq rfl) (hb hby at_59) (fun _ _ => ⟨rfl, e119, (Nat.le_trans (Nat.add_le_add_right (Nat.add_le_add_right (Nat.add_le_add_right (Nat.add_le_add_right (Nat.le_refl 0) 1) 0) 0) 0) (by decide)), (Nat.le_trans (Nat.add_le_add_right (Nat.add_le_add_right (Nat.add_le_add_right (Nat.add_le_add_right (Nat.le_refl 0) 10) 0) 0) 0) (by decide))⟩)
  dsimp only [Pt.U, Pt.locs, Pt.cells, Pt.slots] at X122 l122 y122 z122 st122 hQ122
  subst l122 y122 z122
  obtain ⟨rfl, N122q, e122⟩ := hQ122
  have N122 := Fr.app N119 N122q
  have ix123 : 0 ≤ ((3 : Int32)).toInt ∧ ((3 : Int32)).toInt < (([(p1 >>> ((1 : Int32) &&& 0x3f).toInt64), ((p1 >>> ((1 : Int32) &&& 0x3f).toInt64) + (gapF p2 (0 : Int32))), (((p1 >>> ((1 : Int32) &&& 0x3f).toInt64) + (gapF p2 (0 : Int32))) + (gapF p2 (1 : Int32))), (0 : Int64), (0 : Int64), (0 : Int64), (0 : Int64), (0 : Int64), (0 : Int64), (0 : Int64)]).length : Int) := by constructor <;> first | decide | (simp; done)
  obtain ⟨T124, h124, X124, e124, W124, V124, st124⟩ := putJ X122 hx hZ e122 G120 ix123.1 ix123.2 (g := (mkF m 63 #[.val (.long p1), .second, .val (.long p2), .second, .val (.int p3), .val (.int p4), .val (.int p5), .val (.long ((p4.toInt64) &&& (8191 : Int64))), .second, .val (.ref b106), .unset, .unset, .unset, .unset, .unset, .unset, .unset, .unset, .unset, .unset] [(.long ((((p1 >>> ((1 : Int32) &&& 0x3f).toInt64) + (gapF p2 (0 : Int32))) + (gapF p2 (1 : Int32))) + (gapF p2 (2 : Int32)))), (.int (3 : Int32)), (.ref b106)])) rfl rfl (hb hby at_63)
  have G125 : VA Z h124 b106 .long ([(p1 >>> ((1 : Int32) &&& 0x3f).toInt64), ((p1 >>> ((1 : Int32) &&& 0x3f).toInt64) + (gapF p2 (0 : Int32))), (((p1 >>> ((1 : Int32) &&& 0x3f).toInt64) + (gapF p2 (0 : Int32))) + (gapF p2 (1 : Int32))), ((((p1 >>> ((1 : Int32) &&& 0x3f).toInt64) + (gapF p2 (0 : Int32))) + (gapF p2 (1 : Int32))) + (gapF p2 (2 : Int32))), (0 : Int64), (0 : Int64), (0 : Int64), (0 : Int64), (0 : Int64), (0 : Int64)].map Value.long) := V124
  have N124 := Fr.snoc X124 N122 g_b106
  have K124 : Keep h0 h124 [] := Keep.wr K119 W124 (Or.inr sz_b106)
  have Z124 : n0 ≤ h124.size := Nat.le_trans Z0 K124.1
  have ix126 : 0 ≤ ((3 : Int32)).toInt ∧ ((3 : Int32)).toInt < (([(p1 >>> ((1 : Int32) &&& 0x3f).toInt64), ((p1 >>> ((1 : Int32) &&& 0x3f).toInt64) + (gapF p2 (0 : Int32))), (((p1 >>> ((1 : Int32) &&& 0x3f).toInt64) + (gapF p2 (0 : Int32))) + (gapF p2 (1 : Int32))), ((((p1 >>> ((1 : Int32) &&& 0x3f).toInt64) + (gapF p2 (0 : Int32))) + (gapF p2 (1 : Int32))) + (gapF p2 (2 : Int32))), (0 : Int64), (0 : Int64), (0 : Int64), (0 : Int64), (0 : Int64), (0 : Int64)]).length : Int) := by constructor <;> first | decide | (simp; done)
  obtain ⟨_, _, ⟨T127, L127, k127, n127⟩, -, X127, ⟨Lc127, hQ127, l127, y127, z127⟩, st127⟩ := Jvm.LawKit.callS X124 hx (y := (⟨"com/example/talthybius/talthybius/AwaitedPingsSentPinLaw", "gap", "(JI)J"⟩ : MethodName)) hown (mvT hZ (hw _ (List.mem_of_getElem? (i := 2) rfl))) (mvT hZ (hw _ (List.mem_of_getElem? (i := 3) rfl))) (mvT hZ (hw _ (List.mem_of_getElem? (i := 4) rfl))) (mvT hZ (hw _ (List.mem_of_getElem? (i := 5) rfl))) (by decide) (backOf (W := 4) (rm_gapF l Z a0 hw [] p2 (3 : Int32)  h124 n0 Z124 ) hZ (hw _ (List.mem_of_getElem? (i := 5) rfl)) (hw _ (List.mem_of_getElem? (i := 4) rfl)) (by decide) (by decide)) (g := (mkF m 73 #[.val (.long p1), .second, .val (.long p2), .second, .val (.int p3), .val (.int p4), .val (.int p5), .val (.long ((p4.toInt64) &&& (8191 : Int64))), .second, .val (.ref b106), .unset, .unset, .unset, .unset, .unset, .unset, .unset, .unset, .unset, .unset] [(.int (3 : Int32)), (.long p2), (.long ((((p1 >>> ((1 : Int32) &&& 0x3f).toInt64) + (gapF p2 (0 : Int32))) + (gapF p2 (1 : Int32))) + (gapF p2 (2 : Int32)))), (.int (4 : Int32)), (.ref b106)])) rfl (by rw [hml]; rfl) (argsL := [(.long p2), (.int (3 : Int32))]) (rest := [(.long ((((p1 >>> ((1 : Int32) &&& 0x3f).toInt64) + (gapF p2 (0 : Int32))) + (gapF p2 (1 : Int32))) + (gapF p2 (2 : Int32)))), (.int (4 : Int32)), (.ref b106)]) (lenOf pd_4 rfl) rfl (by show 2 * 0 + _ ≤ _; exact Nat.le_of_eq rfl) (hb hby at_73) (fun _ _ => ⟨rfl, e124, (Nat.le_trans (Nat.add_le_add_right (Nat.add_le_add_right (Nat.add_le_add_right (Nat.add_le_add_right (Nat.add_le_add_right (Nat.le_refl 0) 1) 0) 0) 0) 0) (by decide)), (Nat.le_trans (Nat.add_le_add_right (Nat.add_le_add_right (Nat.add_le_add_right (Nat.add_le_add_right (Nat.add_le_add_right (Nat.le_refl 0) 10) 0) 0) 0) 0) (by decide))⟩)
  dsimp only [Pt.U, Pt.locs, Pt.cells, Pt.slots] at X127 l127 y127 z127 st127 hQ127
  subst l127 y127 z127
  obtain ⟨rfl, N127q, e127⟩ := hQ127
  have N127 := Fr.app N124 N127q
  have ix128 : 0 ≤ ((4 : Int32)).toInt ∧ ((4 : Int32)).toInt < (([(p1 >>> ((1 : Int32) &&& 0x3f).toInt64), ((p1 >>> ((1 : Int32) &&& 0x3f).toInt64) + (gapF p2 (0 : Int32))), (((p1 >>> ((1 : Int32) &&& 0x3f).toInt64) + (gapF p2 (0 : Int32))) + (gapF p2 (1 : Int32))), ((((p1 >>> ((1 : Int32) &&& 0x3f).toInt64) + (gapF p2 (0 : Int32))) + (gapF p2 (1 : Int32))) + (gapF p2 (2 : Int32))), (0 : Int64), (0 : Int64), (0 : Int64), (0 : Int64), (0 : Int64), (0 : Int64)]).length : Int) := by constructor <;> first | decide | (simp; done)
  obtain ⟨T129, h129, X129, e129, W129, V129, st129⟩ := putJ X127 hx hZ e127 G125 ix128.1 ix128.2 (g := (mkF m 77 #[.val (.long p1), .second, .val (.long p2), .second, .val (.int p3), .val (.int p4), .val (.int p5), .val (.long ((p4.toInt64) &&& (8191 : Int64))), .second, .val (.ref b106), .unset, .unset, .unset, .unset, .unset, .unset, .unset, .unset, .unset, .unset] [(.long (((((p1 >>> ((1 : Int32) &&& 0x3f).toInt64) + (gapF p2 (0 : Int32))) + (gapF p2 (1 : Int32))) + (gapF p2 (2 : Int32))) + (gapF p2 (3 : Int32)))), (.int (4 : Int32)), (.ref b106)])) rfl rfl (hb hby at_77)
  have G130 : VA Z h129 b106 .long ([(p1 >>> ((1 : Int32) &&& 0x3f).toInt64), ((p1 >>> ((1 : Int32) &&& 0x3f).toInt64) + (gapF p2 (0 : Int32))), (((p1 >>> ((1 : Int32) &&& 0x3f).toInt64) + (gapF p2 (0 : Int32))) + (gapF p2 (1 : Int32))), ((((p1 >>> ((1 : Int32) &&& 0x3f).toInt64) + (gapF p2 (0 : Int32))) + (gapF p2 (1 : Int32))) + (gapF p2 (2 : Int32))), (((((p1 >>> ((1 : Int32) &&& 0x3f).toInt64) + (gapF p2 (0 : Int32))) + (gapF p2 (1 : Int32))) + (gapF p2 (2 : Int32))) + (gapF p2 (3 : Int32))), (0 : Int64), (0 : Int64), (0 : Int64), (0 : Int64), (0 : Int64)].map Value.long) := V129
  have N129 := Fr.snoc X129 N127 g_b106
  have K129 : Keep h0 h129 [] := Keep.wr K124 W129 (Or.inr sz_b106)
  have Z129 : n0 ≤ h129.size := Nat.le_trans Z0 K129.1
  have ix131 : 0 ≤ ((4 : Int32)).toInt ∧ ((4 : Int32)).toInt < (([(p1 >>> ((1 : Int32) &&& 0x3f).toInt64), ((p1 >>> ((1 : Int32) &&& 0x3f).toInt64) + (gapF p2 (0 : Int32))), (((p1 >>> ((1 : Int32) &&& 0x3f).toInt64) + (gapF p2 (0 : Int32))) + (gapF p2 (1 : Int32))), ((((p1 >>> ((1 : Int32) &&& 0x3f).toInt64) + (gapF p2 (0 : Int32))) + (gapF p2 (1 : Int32))) + (gapF p2 (2 : Int32))), (((((p1 >>> ((1 : Int32) &&& 0x3f).toInt64) + (gapF p2 (0 : Int32))) + (gapF p2 (1 : Int32))) + (gapF p2 (2 : Int32))) + (gapF p2 (3 : Int32))), (0 : Int64), (0 : Int64), (0 : Int64), (0 : Int64), (0 : Int64)]).length : Int) := by constructor <;> first | decide | (simp; done)
  obtain ⟨_, _, ⟨T132, L132, k132, n132⟩, -, X132, ⟨Lc132, hQ132, l132, y132, z132⟩, st132⟩ := Jvm.LawKit.callS X129 hx (y := (⟨"com/example/talthybius/talthybius/AwaitedPingsSentPinLaw", "gap", "(JI)J"⟩ : MethodName)) hown (mvT hZ (hw _ (List.mem_of_getElem? (i := 2) rfl))) (mvT hZ (hw _ (List.mem_of_getElem? (i := 3) rfl))) (mvT hZ (hw _ (List.mem_of_getElem? (i := 4) rfl))) (mvT hZ (hw _ (List.mem_of_getElem? (i := 5) rfl))) (by decide) (backOf (W := 4) (rm_gapF l Z a0 hw [] p2 (4 : Int32)  h129 n0 Z129 ) hZ (hw _ (List.mem_of_getElem? (i := 5) rfl)) (hw _ (List.mem_of_getElem? (i := 4) rfl)) (by decide) (by decide)) (g := (mkF m 87 #[.val (.long p1), .second, .val (.long p2), .second, .val (.int p3), .val (.int p4), .val (.int p5), .val (.long ((p4.toInt64) &&& (8191 : Int64))), .second, .val (.ref b106), .unset, .unset, .unset, .unset, .unset, .unset, .unset, .unset, .unset, .unset] [(.int (4 : Int32)), (.long p2), (.long (((((p1 >>> ((1 : Int32) &&& 0x3f).toInt64) + (gapF p2 (0 : Int32))) + (gapF p2 (1 : Int32))) + (gapF p2 (2 : Int32))) + (gapF p2 (3 : Int32)))), (.int (5 : Int32)), (.ref b106)])) rfl (by rw [hml]; rfl) (argsL := [(.long p2), (.int (4 : Int32))]) (rest := [(.long (((((p1 >>> ((1 : Int32) &&& 0x3f).toInt64) + (gapF p2 (0 : Int32))) + (gapF p2 (1 : Int32))) + (gapF p2 (2 : Int32))) + (gapF p2 (3 : Int32)))), (.int (5 : Int32)), (.ref b106)]) (lenOf pd_4 rfl) rfl (by show 2 * 0 + _ ≤ _; exact Nat.le_of_eq rfl) (hb hby at_87) (fun _ _ => ⟨rfl, e129, (Nat.le_trans (Nat.add_le_add_right (Nat.add_le_add_right (Nat.add_le_add_right (Nat.add_le_add_right (Nat.add_le_add_right (Nat.add_le_add_right (Nat.le_refl 0) 1) 0) 0) 0) 0) 0) (by decide)), (Nat.le_trans (Nat.add_le_add_right (Nat.add_le_add_right (Nat.add_le_add_right (Nat.add_le_add_right (Nat.add_le_add_right (Nat.add_le_add_right (Nat.le_refl 0) 10) 0) 0) 0) 0) 0) (by decide))⟩)
  dsimp only [Pt.U, Pt.locs, Pt.cells, Pt.slots] at X132 l132 y132 z132 st132 hQ132
  subst l132 y132 z132
  obtain ⟨rfl, N132q, e132⟩ := hQ132
  have N132 := Fr.app N129 N132q
  have ix133 : 0 ≤ ((5 : Int32)).toInt ∧ ((5 : Int32)).toInt < (([(p1 >>> ((1 : Int32) &&& 0x3f).toInt64), ((p1 >>> ((1 : Int32) &&& 0x3f).toInt64) + (gapF p2 (0 : Int32))), (((p1 >>> ((1 : Int32) &&& 0x3f).toInt64) + (gapF p2 (0 : Int32))) + (gapF p2 (1 : Int32))), ((((p1 >>> ((1 : Int32) &&& 0x3f).toInt64) + (gapF p2 (0 : Int32))) + (gapF p2 (1 : Int32))) + (gapF p2 (2 : Int32))), (((((p1 >>> ((1 : Int32) &&& 0x3f).toInt64) + (gapF p2 (0 : Int32))) + (gapF p2 (1 : Int32))) + (gapF p2 (2 : Int32))) + (gapF p2 (3 : Int32))), (0 : Int64), (0 : Int64), (0 : Int64), (0 : Int64), (0 : Int64)]).length : Int) := by constructor <;> first | decide | (simp; done)
  obtain ⟨T134, h134, X134, e134, W134, V134, st134⟩ := putJ X132 hx hZ e132 G130 ix133.1 ix133.2 (g := (mkF m 91 #[.val (.long p1), .second, .val (.long p2), .second, .val (.int p3), .val (.int p4), .val (.int p5), .val (.long ((p4.toInt64) &&& (8191 : Int64))), .second, .val (.ref b106), .unset, .unset, .unset, .unset, .unset, .unset, .unset, .unset, .unset, .unset] [(.long ((((((p1 >>> ((1 : Int32) &&& 0x3f).toInt64) + (gapF p2 (0 : Int32))) + (gapF p2 (1 : Int32))) + (gapF p2 (2 : Int32))) + (gapF p2 (3 : Int32))) + (gapF p2 (4 : Int32)))), (.int (5 : Int32)), (.ref b106)])) rfl rfl (hb hby at_91)
  have G135 : VA Z h134 b106 .long ([(p1 >>> ((1 : Int32) &&& 0x3f).toInt64), ((p1 >>> ((1 : Int32) &&& 0x3f).toInt64) + (gapF p2 (0 : Int32))), (((p1 >>> ((1 : Int32) &&& 0x3f).toInt64) + (gapF p2 (0 : Int32))) + (gapF p2 (1 : Int32))), ((((p1 >>> ((1 : Int32) &&& 0x3f).toInt64) + (gapF p2 (0 : Int32))) + (gapF p2 (1 : Int32))) + (gapF p2 (2 : Int32))), (((((p1 >>> ((1 : Int32) &&& 0x3f).toInt64) + (gapF p2 (0 : Int32))) + (gapF p2 (1 : Int32))) + (gapF p2 (2 : Int32))) + (gapF p2 (3 : Int32))), ((((((p1 >>> ((1 : Int32) &&& 0x3f).toInt64) + (gapF p2 (0 : Int32))) + (gapF p2 (1 : Int32))) + (gapF p2 (2 : Int32))) + (gapF p2 (3 : Int32))) + (gapF p2 (4 : Int32))), (0 : Int64), (0 : Int64), (0 : Int64), (0 : Int64)].map Value.long) := V134
  have N134 := Fr.snoc X134 N132 g_b106
  have K134 : Keep h0 h134 [] := Keep.wr K129 W134 (Or.inr sz_b106)
  have Z134 : n0 ≤ h134.size := Nat.le_trans Z0 K134.1
  have ix136 : 0 ≤ ((5 : Int32)).toInt ∧ ((5 : Int32)).toInt < (([(p1 >>> ((1 : Int32) &&& 0x3f).toInt64), ((p1 >>> ((1 : Int32) &&& 0x3f).toInt64) + (gapF p2 (0 : Int32))), (((p1 >>> ((1 : Int32) &&& 0x3f).toInt64) + (gapF p2 (0 : Int32))) + (gapF p2 (1 : Int32))), ((((p1 >>> ((1 : Int32) &&& 0x3f).toInt64) + (gapF p2 (0 : Int32))) + (gapF p2 (1 : Int32))) + (gapF p2 (2 : Int32))), (((((p1 >>> ((1 : Int32) &&& 0x3f).toInt64) + (gapF p2 (0 : Int32))) + (gapF p2 (1 : Int32))) + (gapF p2 (2 : Int32))) + (gapF p2 (3 : Int32))), ((((((p1 >>> ((1 : Int32) &&& 0x3f).toInt64) + (gapF p2 (0 : Int32))) + (gapF p2 (1 : Int32))) + (gapF p2 (2 : Int32))) + (gapF p2 (3 : Int32))) + (gapF p2 (4 : Int32))), (0 : Int64), (0 : Int64), (0 : Int64), (0 : Int64)]).length : Int) := by constructor <;> first | decide | (simp; done)
  obtain ⟨_, _, ⟨T137, L137, k137, n137⟩, -, X137, ⟨Lc137, hQ137, l137, y137, z137⟩, st137⟩ := Jvm.LawKit.callS X134 hx (y := (⟨"com/example/talthybius/talthybius/AwaitedPingsSentPinLaw", "gap", "(JI)J"⟩ : MethodName)) hown (mvT hZ (hw _ (List.mem_of_getElem? (i := 2) rfl))) (mvT hZ (hw _ (List.mem_of_getElem? (i := 3) rfl))) (mvT hZ (hw _ (List.mem_of_getElem? (i := 4) rfl))) (mvT hZ (hw _ (List.mem_of_getElem? (i := 5) rfl))) (by decide) (backOf (W := 4) (rm_gapF l Z a0 hw [] p2 (5 : Int32)  h134 n0 Z134 ) hZ (hw _ (List.mem_of_getElem? (i := 5) rfl)) (hw _ (List.mem_of_getElem? (i := 4) rfl)) (by decide) (by decide)) (g := (mkF m 102 #[.val (.long p1), .second, .val (.long p2), .second, .val (.int p3), .val (.int p4), .val (.int p5), .val (.long ((p4.toInt64) &&& (8191 : Int64))), .second, .val (.ref b106), .unset, .unset, .unset, .unset, .unset, .unset, .unset, .unset, .unset, .unset] [(.int (5 : Int32)), (.long p2), (.long ((((((p1 >>> ((1 : Int32) &&& 0x3f).toInt64) + (gapF p2 (0 : Int32))) + (gapF p2 (1 : Int32))) + (gapF p2 (2 : Int32))) + (gapF p2 (3 : Int32))) + (gapF p2 (4 : Int32)))), (.int (6 : Int32)), (.ref b106)])) rfl (by rw [hml]; rfl) (argsL := [(.long p2), (.int (5 : Int32))]) (rest := [(.long ((((((p1 >>> ((1 : Int32) &&& 0x3f).toInt64) + (gapF p2 (0 : Int32))) + (gapF p2 (1 : Int32))) + (gapF p2 (2 : Int32))) + (gapF p2 (3 : Int32))) + (gapF p2 (4 : Int32)))), (.int (6 : Int32)), (.ref b106)]) (lenOf pd_4 rfl) rfl (by show 2 * 0 + _ ≤ _; exact Nat.le_of_eq rfl) (hb hby at_102) (fun _ _ => ⟨rfl, e134, (Nat.le_trans (Nat.add_le_add_right (Nat.add_le_add_right (Nat.add_le_add_right (Nat.add_le_add_right (Nat.add_le_add_right (Nat.add_le_add_right (Nat.add_le_add_right (Nat.le_refl 0) 1) 0) 0) 0) 0) 0) 0) (by decide)), (Nat.le_trans (Nat.add_le_add_right (Nat.add_le_add_right (Nat.add_le_add_right (Nat.add_le_add_right (Nat.add_le_add_right (Nat.add_le_add_right (Nat.add_le_add_right (Nat.le_refl 0) 10) 0) 0) 0) 0) 0) 0) (by decide))⟩)
  dsimp only [Pt.U, Pt.locs, Pt.cells, Pt.slots] at X137 l137 y137 z137 st137 hQ137
  subst l137 y137 z137
  obtain ⟨rfl, N137q, e137⟩ := hQ137
  have N137 := Fr.app N134 N137q
  have ix138 : 0 ≤ ((6 : Int32)).toInt ∧ ((6 : Int32)).toInt < (([(p1 >>> ((1 : Int32) &&& 0x3f).toInt64), ((p1 >>> ((1 : Int32) &&& 0x3f).toInt64) + (gapF p2 (0 : Int32))), (((p1 >>> ((1 : Int32) &&& 0x3f).toInt64) + (gapF p2 (0 : Int32))) + (gapF p2 (1 : Int32))), ((((p1 >>> ((1 : Int32) &&& 0x3f).toInt64) + (gapF p2 (0 : Int32))) + (gapF p2 (1 : Int32))) + (gapF p2 (2 : Int32))), (((((p1 >>> ((1 : Int32) &&& 0x3f).toInt64) + (gapF p2 (0 : Int32))) + (gapF p2 (1 : Int32))) + (gapF p2 (2 : Int32))) + (gapF p2 (3 : Int32))), ((((((p1 >>> ((1 : Int32) &&& 0x3f).toInt64) + (gapF p2 (0 : Int32))) + (gapF p2 (1 : Int32))) + (gapF p2 (2 : Int32))) + (gapF p2 (3 : Int32))) + (gapF p2 (4 : Int32))), (0 : Int64), (0 : Int64), (0 : Int64), (0 : Int64)]).length : Int) := by constructor <;> first | decide | (simp; done)
  obtain ⟨T139, h139, X139, e139, W139, V139, st139⟩ := putJ X137 hx hZ e137 G135 ix138.1 ix138.2 (g := (mkF m 106 #[.val (.long p1), .second, .val (.long p2), .second, .val (.int p3), .val (.int p4), .val (.int p5), .val (.long ((p4.toInt64) &&& (8191 : Int64))), .second, .val (.ref b106), .unset, .unset, .unset, .unset, .unset, .unset, .unset, .unset, .unset, .unset] [(.long (((((((p1 >>> ((1 : Int32) &&& 0x3f).toInt64) + (gapF p2 (0 : Int32))) + (gapF p2 (1 : Int32))) + (gapF p2 (2 : Int32))) + (gapF p2 (3 : Int32))) + (gapF p2 (4 : Int32))) + (gapF p2 (5 : Int32)))), (.int (6 : Int32)), (.ref b106)])) rfl rfl (hb hby at_106)
  have G140 : VA Z h139 b106 .long ([(p1 >>> ((1 : Int32) &&& 0x3f).toInt64), ((p1 >>> ((1 : Int32) &&& 0x3f).toInt64) + (gapF p2 (0 : Int32))), (((p1 >>> ((1 : Int32) &&& 0x3f).toInt64) + (gapF p2 (0 : Int32))) + (gapF p2 (1 : Int32))), ((((p1 >>> ((1 : Int32) &&& 0x3f).toInt64) + (gapF p2 (0 : Int32))) + (gapF p2 (1 : Int32))) + (gapF p2 (2 : Int32))), (((((p1 >>> ((1 : Int32) &&& 0x3f).toInt64) + (gapF p2 (0 : Int32))) + (gapF p2 (1 : Int32))) + (gapF p2 (2 : Int32))) + (gapF p2 (3 : Int32))), ((((((p1 >>> ((1 : Int32) &&& 0x3f).toInt64) + (gapF p2 (0 : Int32))) + (gapF p2 (1 : Int32))) + (gapF p2 (2 : Int32))) + (gapF p2 (3 : Int32))) + (gapF p2 (4 : Int32))), (((((((p1 >>> ((1 : Int32) &&& 0x3f).toInt64) + (gapF p2 (0 : Int32))) + (gapF p2 (1 : Int32))) + (gapF p2 (2 : Int32))) + (gapF p2 (3 : Int32))) + (gapF p2 (4 : Int32))) + (gapF p2 (5 : Int32))), (0 : Int64), (0 : Int64), (0 : Int64)].map Value.long) := V139
  have N139 := Fr.snoc X139 N137 g_b106
  have K139 : Keep h0 h139 [] := Keep.wr K134 W139 (Or.inr sz_b106)
  have Z139 : n0 ≤ h139.size := Nat.le_trans Z0 K139.1
  have ix141 : 0 ≤ ((6 : Int32)).toInt ∧ ((6 : Int32)).toInt < (([(p1 >>> ((1 : Int32) &&& 0x3f).toInt64), ((p1 >>> ((1 : Int32) &&& 0x3f).toInt64) + (gapF p2 (0 : Int32))), (((p1 >>> ((1 : Int32) &&& 0x3f).toInt64) + (gapF p2 (0 : Int32))) + (gapF p2 (1 : Int32))), ((((p1 >>> ((1 : Int32) &&& 0x3f).toInt64) + (gapF p2 (0 : Int32))) + (gapF p2 (1 : Int32))) + (gapF p2 (2 : Int32))), (((((p1 >>> ((1 : Int32) &&& 0x3f).toInt64) + (gapF p2 (0 : Int32))) + (gapF p2 (1 : Int32))) + (gapF p2 (2 : Int32))) + (gapF p2 (3 : Int32))), ((((((p1 >>> ((1 : Int32) &&& 0x3f).toInt64) + (gapF p2 (0 : Int32))) + (gapF p2 (1 : Int32))) + (gapF p2 (2 : Int32))) + (gapF p2 (3 : Int32))) + (gapF p2 (4 : Int32))), (((((((p1 >>> ((1 : Int32) &&& 0x3f).toInt64) + (gapF p2 (0 : Int32))) + (gapF p2 (1 : Int32))) + (gapF p2 (2 : Int32))) + (gapF p2 (3 : Int32))) + (gapF p2 (4 : Int32))) + (gapF p2 (5 : Int32))), (0 : Int64), (0 : Int64), (0 : Int64)]).length : Int) := by constructor <;> first | decide | (simp; done)
  obtain ⟨_, _, ⟨T142, L142, k142, n142⟩, -, X142, ⟨Lc142, hQ142, l142, y142, z142⟩, st142⟩ := Jvm.LawKit.callS X139 hx (y := (⟨"com/example/talthybius/talthybius/AwaitedPingsSentPinLaw", "gap", "(JI)J"⟩ : MethodName)) hown (mvT hZ (hw _ (List.mem_of_getElem? (i := 2) rfl))) (mvT hZ (hw _ (List.mem_of_getElem? (i := 3) rfl))) (mvT hZ (hw _ (List.mem_of_getElem? (i := 4) rfl))) (mvT hZ (hw _ (List.mem_of_getElem? (i := 5) rfl))) (by decide) (backOf (W := 4) (rm_gapF l Z a0 hw [] p2 (6 : Int32)  h139 n0 Z139 ) hZ (hw _ (List.mem_of_getElem? (i := 5) rfl)) (hw _ (List.mem_of_getElem? (i := 4) rfl)) (by decide) (by decide)) (g := (mkF m 119 #[.val (.long p1), .second, .val (.long p2), .second, .val (.int p3), .val (.int p4), .val (.int p5), .val (.long ((p4.toInt64) &&& (8191 : Int64))), .second, .val (.ref b106), .unset, .unset, .unset, .unset, .unset, .unset, .unset, .unset, .unset, .unset] [(.int (6 : Int32)), (.long p2), (.long (((((((p1 >>> ((1 : Int32) &&& 0x3f).toInt64) + (gapF p2 (0 : Int32))) + (gapF p2 (1 : Int32))) + (gapF p2 (2 : Int32))) + (gapF p2 (3 : Int32))) + (gapF p2 (4 : Int32))) + (gapF p2 (5 : Int32)))), (.int (7 : Int32)), (.ref b106)])) rfl (by rw [hml]; rfl) (argsL := [(.long p2), (.int (6 : Int32))]) (rest := [(.long (((((((p1 >>> ((1 : Int32) &&& 0x3f).toInt64) + (gapF p2 (0 : Int32))) + (gapF p2 (1 : Int32))) + (gapF p2 (2 : Int32))) + (gapF p2 (3 : Int32))) + (gapF p2 (4 : Int32))) + (gapF p2 (5 : Int32)))), (.int (7 : Int32)), (.ref b106)]) (lenOf pd_4 rfl) rfl (by show 2 * 0 + _ ≤ _; exact Nat.le_of_eq rfl) (hb hby at_119) (fun _ _ => ⟨rfl, e139, (Nat.le_trans (Nat.add_le_add_right (Nat.add_le_add_right (Nat.add_le_add_right (Nat.add_le_add_right (Nat.add_le_add_right (Nat.add_le_add_right (Nat.add_le_add_right (Nat.add_le_add_right (Nat.le_refl 0) 1) 0) 0) 0) 0) 0) 0) 0) (by decide)), (Nat.le_trans (Nat.add_le_add_right (Nat.add_le_add_right (Nat.add_le_add_right (Nat.add_le_add_right (Nat.add_le_add_right (Nat.add_le_add_right (Nat.add_le_add_right (Nat.add_le_add_right (Nat.le_refl 0) 10) 0) 0) 0) 0) 0) 0) 0) (by decide))⟩)
  dsimp only [Pt.U, Pt.locs, Pt.cells, Pt.slots] at X142 l142 y142 z142 st142 hQ142
  subst l142 y142 z142
  obtain ⟨rfl, N142q, e142⟩ := hQ142
  have N142 := Fr.app N139 N142q
  have ix143 : 0 ≤ ((7 : Int32)).toInt ∧ ((7 : Int32)).toInt < (([(p1 >>> ((1 : Int32) &&& 0x3f).toInt64), ((p1 >>> ((1 : Int32) &&& 0x3f).toInt64) + (gapF p2 (0 : Int32))), (((p1 >>> ((1 : Int32) &&& 0x3f).toInt64) + (gapF p2 (0 : Int32))) + (gapF p2 (1 : Int32))), ((((p1 >>> ((1 : Int32) &&& 0x3f).toInt64) + (gapF p2 (0 : Int32))) + (gapF p2 (1 : Int32))) + (gapF p2 (2 : Int32))), (((((p1 >>> ((1 : Int32) &&& 0x3f).toInt64) + (gapF p2 (0 : Int32))) + (gapF p2 (1 : Int32))) + (gapF p2 (2 : Int32))) + (gapF p2 (3 : Int32))), ((((((p1 >>> ((1 : Int32) &&& 0x3f).toInt64) + (gapF p2 (0 : Int32))) + (gapF p2 (1 : Int32))) + (gapF p2 (2 : Int32))) + (gapF p2 (3 : Int32))) + (gapF p2 (4 : Int32))), (((((((p1 >>> ((1 : Int32) &&& 0x3f).toInt64) + (gapF p2 (0 : Int32))) + (gapF p2 (1 : Int32))) + (gapF p2 (2 : Int32))) + (gapF p2 (3 : Int32))) + (gapF p2 (4 : Int32))) + (gapF p2 (5 : Int32))), (0 : Int64), (0 : Int64), (0 : Int64)]).length : Int) := by constructor <;> first | decide | (simp; done)
  obtain ⟨T144, h144, X144, e144, W144, V144, st144⟩ := putJ X142 hx hZ e142 G140 ix143.1 ix143.2 (g := (mkF m 123 #[.val (.long p1), .second, .val (.long p2), .second, .val (.int p3), .val (.int p4), .val (.int p5), .val (.long ((p4.toInt64) &&& (8191 : Int64))), .second, .val (.ref b106), .unset, .unset, .unset, .unset, .unset, .unset, .unset, .unset, .unset, .unset] [(.long ((((((((p1 >>> ((1 : Int32) &&& 0x3f).toInt64) + (gapF p2 (0 : Int32))) + (gapF p2 (1 : Int32))) + (gapF p2 (2 : Int32))) + (gapF p2 (3 : Int32))) + (gapF p2 (4 : Int32))) + (gapF p2 (5 : Int32))) + (gapF p2 (6 : Int32)))), (.int (7 : Int32)), (.ref b106)])) rfl rfl (hb hby at_123)
  have G145 : VA Z h144 b106 .long ([(p1 >>> ((1 : Int32) &&& 0x3f).toInt64), ((p1 >>> ((1 : Int32) &&& 0x3f).toInt64) + (gapF p2 (0 : Int32))), (((p1 >>> ((1 : Int32) &&& 0x3f).toInt64) + (gapF p2 (0 : Int32))) + (gapF p2 (1 : Int32))), ((((p1 >>> ((1 : Int32) &&& 0x3f).toInt64) + (gapF p2 (0 : Int32))) + (gapF p2 (1 : Int32))) + (gapF p2 (2 : Int32))), (((((p1 >>> ((1 : Int32) &&& 0x3f).toInt64) + (gapF p2 (0 : Int32))) + (gapF p2 (1 : Int32))) + (gapF p2 (2 : Int32))) + (gapF p2 (3 : Int32))), ((((((p1 >>> ((1 : Int32) &&& 0x3f).toInt64) + (gapF p2 (0 : Int32))) + (gapF p2 (1 : Int32))) + (gapF p2 (2 : Int32))) + (gapF p2 (3 : Int32))) + (gapF p2 (4 : Int32))), (((((((p1 >>> ((1 : Int32) &&& 0x3f).toInt64) + (gapF p2 (0 : Int32))) + (gapF p2 (1 : Int32))) + (gapF p2 (2 : Int32))) + (gapF p2 (3 : Int32))) + (gapF p2 (4 : Int32))) + (gapF p2 (5 : Int32))), ((((((((p1 >>> ((1 : Int32) &&& 0x3f).toInt64) + (gapF p2 (0 : Int32))) + (gapF p2 (1 : Int32))) + (gapF p2 (2 : Int32))) + (gapF p2 (3 : Int32))) + (gapF p2 (4 : Int32))) + (gapF p2 (5 : Int32))) + (gapF p2 (6 : Int32))), (0 : Int64), (0 : Int64)].map Value.long) := V144
  have N144 := Fr.snoc X144 N142 g_b106
  have K144 : Keep h0 h144 [] := Keep.wr K139 W144 (Or.inr sz_b106)
  have Z144 : n0 ≤ h144.size := Nat.le_trans Z0 K144.1
  have ix146 : 0 ≤ ((7 : Int32)).toInt ∧ ((7 : Int32)).toInt < (([(p1 >>> ((1 : Int32) &&& 0x3f).toInt64), ((p1 >>> ((1 : Int32) &&& 0x3f).toInt64) + (gapF p2 (0 : Int32))), (((p1 >>> ((1 : Int32) &&& 0x3f).toInt64) + (gapF p2 (0 : Int32))) + (gapF p2 (1 : Int32))), ((((p1 >>> ((1 : Int32) &&& 0x3f).toInt64) + (gapF p2 (0 : Int32))) + (gapF p2 (1 : Int32))) + (gapF p2 (2 : Int32))), (((((p1 >>> ((1 : Int32) &&& 0x3f).toInt64) + (gapF p2 (0 : Int32))) + (gapF p2 (1 : Int32))) + (gapF p2 (2 : Int32))) + (gapF p2 (3 : Int32))), ((((((p1 >>> ((1 : Int32) &&& 0x3f).toInt64) + (gapF p2 (0 : Int32))) + (gapF p2 (1 : Int32))) + (gapF p2 (2 : Int32))) + (gapF p2 (3 : Int32))) + (gapF p2 (4 : Int32))), (((((((p1 >>> ((1 : Int32) &&& 0x3f).toInt64) + (gapF p2 (0 : Int32))) + (gapF p2 (1 : Int32))) + (gapF p2 (2 : Int32))) + (gapF p2 (3 : Int32))) + (gapF p2 (4 : Int32))) + (gapF p2 (5 : Int32))), ((((((((p1 >>> ((1 : Int32) &&& 0x3f).toInt64) + (gapF p2 (0 : Int32))) + (gapF p2 (1 : Int32))) + (gapF p2 (2 : Int32))) + (gapF p2 (3 : Int32))) + (gapF p2 (4 : Int32))) + (gapF p2 (5 : Int32))) + (gapF p2 (6 : Int32))), (0 : Int64), (0 : Int64)]).length : Int) := by constructor <;> first | decide | (simp; done)
  obtain ⟨_, _, ⟨T147, L147, k147, n147⟩, -, X147, ⟨Lc147, hQ147, l147, y147, z147⟩, st147⟩ := Jvm.LawKit.callS X144 hx (y := (⟨"com/example/talthybius/talthybius/AwaitedPingsSentPinLaw", "gap", "(JI)J"⟩ : MethodName)) hown (mvT hZ (hw _ (List.mem_of_getElem? (i := 2) rfl))) (mvT hZ (hw _ (List.mem_of_getElem? (i := 3) rfl))) (mvT hZ (hw _ (List.mem_of_getElem? (i := 4) rfl))) (mvT hZ (hw _ (List.mem_of_getElem? (i := 5) rfl))) (by decide) (backOf (W := 4) (rm_gapF l Z a0 hw [] p2 (7 : Int32)  h144 n0 Z144 ) hZ (hw _ (List.mem_of_getElem? (i := 5) rfl)) (hw _ (List.mem_of_getElem? (i := 4) rfl)) (by decide) (by decide)) (g := (mkF m 136 #[.val (.long p1), .second, .val (.long p2), .second, .val (.int p3), .val (.int p4), .val (.int p5), .val (.long ((p4.toInt64) &&& (8191 : Int64))), .second, .val (.ref b106), .unset, .unset, .unset, .unset, .unset, .unset, .unset, .unset, .unset, .unset] [(.int (7 : Int32)), (.long p2), (.long ((((((((p1 >>> ((1 : Int32) &&& 0x3f).toInt64) + (gapF p2 (0 : Int32))) + (gapF p2 (1 : Int32))) + (gapF p2 (2 : Int32))) + (gapF p2 (3 : Int32))) + (gapF p2 (4 : Int32))) + (gapF p2 (5 : Int32))) + (gapF p2 (6 : Int32)))), (.int (8 : Int32)), (.ref b106)])) rfl (by rw [hml]; rfl) (argsL := [(.long p2), (.int (7 : Int32))]) (rest := [(.long ((((((((p1 >>> ((1 : Int32) &&& 0x3f).toInt64) + (gapF p2 (0 : Int32))) + (gapF p2 (1 : Int32))) + (gapF p2 (2 : Int32))) + (gapF p2 (3 : Int32))) + (gapF p2 (4 : Int32))) + (gapF p2 (5 : Int32))) + (gapF p2 (6 : Int32)))), (.int (8 : Int32)), (.ref b106)]) (lenOf pd_4 rfl) rfl (by show 2 * 0 + _ ≤ _; exact Nat.le_of_eq rfl) (hb hby at_136) (fun _ _ => ⟨rfl, e144, (Nat.le_trans (Nat.add_le_add_right (Nat.add_le_add_right (Nat.add_le_add_right (Nat.add_le_add_right (Nat.add_le_add_right (Nat.add_le_add_right (Nat.add_le_add_right (Nat.add_le_add_right (Nat.add_le_add_right (Nat.le_refl 0) 1) 0) 0) 0) 0) 0) 0) 0) 0) (by decide)), (Nat.le_trans (Nat.add_le_add_right (Nat.add_le_add_right (Nat.add_le_add_right (Nat.add_le_add_right (Nat.add_le_add_right (Nat.add_le_add_right (Nat.add_le_add_right (Nat.add_le_add_right (Nat.add_le_add_right (Nat.le_refl 0) 10) 0) 0) 0) 0) 0) 0) 0) 0) (by decide))⟩)
  dsimp only [Pt.U, Pt.locs, Pt.cells, Pt.slots] at X147 l147 y147 z147 st147 hQ147
  subst l147 y147 z147
  obtain ⟨rfl, N147q, e147⟩ := hQ147
  have N147 := Fr.app N144 N147q
  have ix148 : 0 ≤ ((8 : Int32)).toInt ∧ ((8 : Int32)).toInt < (([(p1 >>> ((1 : Int32) &&& 0x3f).toInt64), ((p1 >>> ((1 : Int32) &&& 0x3f).toInt64) + (gapF p2 (0 : Int32))), (((p1 >>> ((1 : Int32) &&& 0x3f).toInt64) + (gapF p2 (0 : Int32))) + (gapF p2 (1 : Int32))), ((((p1 >>> ((1 : Int32) &&& 0x3f).toInt64) + (gapF p2 (0 : Int32))) + (gapF p2 (1 : Int32))) + (gapF p2 (2 : Int32))), (((((p1 >>> ((1 : Int32) &&& 0x3f).toInt64) + (gapF p2 (0 : Int32))) + (gapF p2 (1 : Int32))) + (gapF p2 (2 : Int32))) + (gapF p2 (3 : Int32))), ((((((p1 >>> ((1 : Int32) &&& 0x3f).toInt64) + (gapF p2 (0 : Int32))) + (gapF p2 (1 : Int32))) + (gapF p2 (2 : Int32))) + (gapF p2 (3 : Int32))) + (gapF p2 (4 : Int32))), (((((((p1 >>> ((1 : Int32) &&& 0x3f).toInt64) + (gapF p2 (0 : Int32))) + (gapF p2 (1 : Int32))) + (gapF p2 (2 : Int32))) + (gapF p2 (3 : Int32))) + (gapF p2 (4 : Int32))) + (gapF p2 (5 : Int32))), ((((((((p1 >>> ((1 : Int32) &&& 0x3f).toInt64) + (gapF p2 (0 : Int32))) + (gapF p2 (1 : Int32))) + (gapF p2 (2 : Int32))) + (gapF p2 (3 : Int32))) + (gapF p2 (4 : Int32))) + (gapF p2 (5 : Int32))) + (gapF p2 (6 : Int32))), (0 : Int64), (0 : Int64)]).length : Int) := by constructor <;> first | decide | (simp; done)
  obtain ⟨T149, h149, X149, e149, W149, V149, st149⟩ := putJ X147 hx hZ e147 G145 ix148.1 ix148.2 (g := (mkF m 140 #[.val (.long p1), .second, .val (.long p2), .second, .val (.int p3), .val (.int p4), .val (.int p5), .val (.long ((p4.toInt64) &&& (8191 : Int64))), .second, .val (.ref b106), .unset, .unset, .unset, .unset, .unset, .unset, .unset, .unset, .unset, .unset] [(.long (((((((((p1 >>> ((1 : Int32) &&& 0x3f).toInt64) + (gapF p2 (0 : Int32))) + (gapF p2 (1 : Int32))) + (gapF p2 (2 : Int32))) + (gapF p2 (3 : Int32))) + (gapF p2 (4 : Int32))) + (gapF p2 (5 : Int32))) + (gapF p2 (6 : Int32))) + (gapF p2 (7 : Int32)))), (.int (8 : Int32)), (.ref b106)])) rfl rfl (hb hby at_140)
  have G150 : VA Z h149 b106 .long ([(p1 >>> ((1 : Int32) &&& 0x3f).toInt64), ((p1 >>> ((1 : Int32) &&& 0x3f).toInt64) + (gapF p2 (0 : Int32))), (((p1 >>> ((1 : Int32) &&& 0x3f).toInt64) + (gapF p2 (0 : Int32))) + (gapF p2 (1 : Int32))), ((((p1 >>> ((1 : Int32) &&& 0x3f).toInt64) + (gapF p2 (0 : Int32))) + (gapF p2 (1 : Int32))) + (gapF p2 (2 : Int32))), (((((p1 >>> ((1 : Int32) &&& 0x3f).toInt64) + (gapF p2 (0 : Int32))) + (gapF p2 (1 : Int32))) + (gapF p2 (2 : Int32))) + (gapF p2 (3 : Int32))), ((((((p1 >>> ((1 : Int32) &&& 0x3f).toInt64) + (gapF p2 (0 : Int32))) + (gapF p2 (1 : Int32))) + (gapF p2 (2 : Int32))) + (gapF p2 (3 : Int32))) + (gapF p2 (4 : Int32))), (((((((p1 >>> ((1 : Int32) &&& 0x3f).toInt64) + (gapF p2 (0 : Int32))) + (gapF p2 (1 : Int32))) + (gapF p2 (2 : Int32))) + (gapF p2 (3 : Int32))) + (gapF p2 (4 : Int32))) + (gapF p2 (5 : Int32))), ((((((((p1 >>> ((1 : Int32) &&& 0x3f).toInt64) + (gapF p2 (0 : Int32))) + (gapF p2 (1 : Int32))) + (gapF p2 (2 : Int32))) + (gapF p2 (3 : Int32))) + (gapF p2 (4 : Int32))) + (gapF p2 (5 : Int32))) + (gapF p2 (6 : Int32))), (((((((((p1 >>> ((1 : Int32) &&& 0x3f).toInt64) + (gapF p2 (0 : Int32))) + (gapF p2 (1 : Int32))) + (gapF p2 (2 : Int32))) + (gapF p2 (3 : Int32))) + (gapF p2 (4 : Int32))) + (gapF p2 (5 : Int32))) + (gapF p2 (6 : Int32))) + (gapF p2 (7 : Int32))), (0 : Int64)].map Value.long) := V149
  have N149 := Fr.snoc X149 N147 g_b106
  have K149 : Keep h0 h149 [] := Keep.wr K144 W149 (Or.inr sz_b106)
  have Z149 : n0 ≤ h149.size := Nat.le_trans Z0 K149.1
  have ix151 : 0 ≤ ((8 : Int32)).toInt ∧ ((8 : Int32)).toInt < (([(p1 >>> ((1 : Int32) &&& 0x3f).toInt64), ((p1 >>> ((1 : Int32) &&& 0x3f).toInt64) + (gapF p2 (0 : Int32))), (((p1 >>> ((1 : Int32) &&& 0x3f).toInt64) + (gapF p2 (0 : Int32))) + (gapF p2 (1 : Int32))), ((((p1 >>> ((1 : Int32) &&& 0x3f).toInt64) + (gapF p2 (0 : Int32))) + (gapF p2 (1 : Int32))) + (gapF p2 (2 : Int32))), (((((p1 >>> ((1 : Int32) &&& 0x3f).toInt64) + (gapF p2 (0 : Int32))) + (gapF p2 (1 : Int32))) + (gapF p2 (2 : Int32))) + (gapF p2 (3 : Int32))), ((((((p1 >>> ((1 : Int32) &&& 0x3f).toInt64) + (gapF p2 (0 : Int32))) + (gapF p2 (1 : Int32))) + (gapF p2 (2 : Int32))) + (gapF p2 (3 : Int32))) + (gapF p2 (4 : Int32))), (((((((p1 >>> ((1 : Int32) &&& 0x3f).toInt64) + (gapF p2 (0 : Int32))) + (gapF p2 (1 : Int32))) + (gapF p2 (2 : Int32))) + (gapF p2 (3 : Int32))) + (gapF p2 (4 : Int32))) + (gapF p2 (5 : Int32))), ((((((((p1 >>> ((1 : Int32) &&& 0x3f).toInt64) + (gapF p2 (0 : Int32))) + (gapF p2 (1 : Int32))) + (gapF p2 (2 : Int32))) + (gapF p2 (3 : Int32))) + (gapF p2 (4 : Int32))) + (gapF p2 (5 : Int32))) + (gapF p2 (6 : Int32))), (((((((((p1 >>> ((1 : Int32) &&& 0x3f).toInt64) + (gapF p2 (0 : Int32))) + (gapF p2 (1 : Int32))) + (gapF p2 (2 : Int32))) + (gapF p2 (3 : Int32))) + (gapF p2 (4 : Int32))) + (gapF p2 (5 : Int32))) + (gapF p2 (6 : Int32))) + (gapF p2 (7 : Int32))), (0 : Int64)]).length : Int) := by constructor <;> first | decide | (simp; done)
  have ix152 : 0 ≤ ((9 : Int32)).toInt ∧ ((9 : Int32)).toInt < (([(p1 >>> ((1 : Int32) &&& 0x3f).toInt64), ((p1 >>> ((1 : Int32) &&& 0x3f).toInt64) + (gapF p2 (0 : Int32))), (((p1 >>> ((1 : Int32) &&& 0x3f).toInt64) + (gapF p2 (0 : Int32))) + (gapF p2 (1 : Int32))), ((((p1 >>> ((1 : Int32) &&& 0x3f).toInt64) + (gapF p2 (0 : Int32))) + (gapF p2 (1 : Int32))) + (gapF p2 (2 : Int32))), (((((p1 >>> ((1 : Int32) &&& 0x3f).toInt64) + (gapF p2 (0 : Int32))) + (gapF p2 (1 : Int32))) + (gapF p2 (2 : Int32))) + (gapF p2 (3 : Int32))), ((((((p1 >>> ((1 : Int32) &&& 0x3f).toInt64) + (gapF p2 (0 : Int32))) + (gapF p2 (1 : Int32))) + (gapF p2 (2 : Int32))) + (gapF p2 (3 : Int32))) + (gapF p2 (4 : Int32))), (((((((p1 >>> ((1 : Int32) &&& 0x3f).toInt64) + (gapF p2 (0 : Int32))) + (gapF p2 (1 : Int32))) + (gapF p2 (2 : Int32))) + (gapF p2 (3 : Int32))) + (gapF p2 (4 : Int32))) + (gapF p2 (5 : Int32))), ((((((((p1 >>> ((1 : Int32) &&& 0x3f).toInt64) + (gapF p2 (0 : Int32))) + (gapF p2 (1 : Int32))) + (gapF p2 (2 : Int32))) + (gapF p2 (3 : Int32))) + (gapF p2 (4 : Int32))) + (gapF p2 (5 : Int32))) + (gapF p2 (6 : Int32))), (((((((((p1 >>> ((1 : Int32) &&& 0x3f).toInt64) + (gapF p2 (0 : Int32))) + (gapF p2 (1 : Int32))) + (gapF p2 (2 : Int32))) + (gapF p2 (3 : Int32))) + (gapF p2 (4 : Int32))) + (gapF p2 (5 : Int32))) + (gapF p2 (6 : Int32))) + (gapF p2 (7 : Int32))), (0 : Int64)]).length : Int) := by constructor <;> first | decide | (simp; done)
  obtain ⟨T153, h153, X153, e153, W153, V153, st153⟩ := putJ X149 hx hZ e149 G150 ix152.1 ix152.2 (g := (mkF m 164 #[.val (.long p1), .second, .val (.long p2), .second, .val (.int p3), .val (.int p4), .val (.int p5), .val (.long ((p4.toInt64) &&& (8191 : Int64))), .second, .val (.ref b106), .unset, .unset, .unset, .unset, .unset, .unset, .unset, .unset, .unset, .unset] [(.long ((((((((((p1 >>> ((1 : Int32) &&& 0x3f).toInt64) + (gapF p2 (0 : Int32))) + (gapF p2 (1 : Int32))) + (gapF p2 (2 : Int32))) + (gapF p2 (3 : Int32))) + (gapF p2 (4 : Int32))) + (gapF p2 (5 : Int32))) + (gapF p2 (6 : Int32))) + (gapF p2 (7 : Int32))) + ((2 : Int64) * (((p3.toInt64) &&& (255 : Int64)) + (1 : Int64))))), (.int (9 : Int32)), (.ref b106)])) rfl rfl (hb hby at_164)
  have G154 : VA Z h153 b106 .long ([(p1 >>> ((1 : Int32) &&& 0x3f).toInt64), ((p1 >>> ((1 : Int32) &&& 0x3f).toInt64) + (gapF p2 (0 : Int32))), (((p1 >>> ((1 : Int32) &&& 0x3f).toInt64) + (gapF p2 (0 : Int32))) + (gapF p2 (1 : Int32))), ((((p1 >>> ((1 : Int32) &&& 0x3f).toInt64) + (gapF p2 (0 : Int32))) + (gapF p2 (1 : Int32))) + (gapF p2 (2 : Int32))), (((((p1 >>> ((1 : Int32) &&& 0x3f).toInt64) + (gapF p2 (0 : Int32))) + (gapF p2 (1 : Int32))) + (gapF p2 (2 : Int32))) + (gapF p2 (3 : Int32))), ((((((p1 >>> ((1 : Int32) &&& 0x3f).toInt64) + (gapF p2 (0 : Int32))) + (gapF p2 (1 : Int32))) + (gapF p2 (2 : Int32))) + (gapF p2 (3 : Int32))) + (gapF p2 (4 : Int32))), (((((((p1 >>> ((1 : Int32) &&& 0x3f).toInt64) + (gapF p2 (0 : Int32))) + (gapF p2 (1 : Int32))) + (gapF p2 (2 : Int32))) + (gapF p2 (3 : Int32))) + (gapF p2 (4 : Int32))) + (gapF p2 (5 : Int32))), ((((((((p1 >>> ((1 : Int32) &&& 0x3f).toInt64) + (gapF p2 (0 : Int32))) + (gapF p2 (1 : Int32))) + (gapF p2 (2 : Int32))) + (gapF p2 (3 : Int32))) + (gapF p2 (4 : Int32))) + (gapF p2 (5 : Int32))) + (gapF p2 (6 : Int32))), (((((((((p1 >>> ((1 : Int32) &&& 0x3f).toInt64) + (gapF p2 (0 : Int32))) + (gapF p2 (1 : Int32))) + (gapF p2 (2 : Int32))) + (gapF p2 (3 : Int32))) + (gapF p2 (4 : Int32))) + (gapF p2 (5 : Int32))) + (gapF p2 (6 : Int32))) + (gapF p2 (7 : Int32))), ((((((((((p1 >>> ((1 : Int32) &&& 0x3f).toInt64) + (gapF p2 (0 : Int32))) + (gapF p2 (1 : Int32))) + (gapF p2 (2 : Int32))) + (gapF p2 (3 : Int32))) + (gapF p2 (4 : Int32))) + (gapF p2 (5 : Int32))) + (gapF p2 (6 : Int32))) + (gapF p2 (7 : Int32))) + ((2 : Int64) * (((p3.toInt64) &&& (255 : Int64)) + (1 : Int64))))].map Value.long) := V153
  have N153 := Fr.snoc X153 N149 g_b106
  have K153 : Keep h0 h153 [] := Keep.wr K149 W153 (Or.inr sz_b106)
  have Z153 : n0 ≤ h153.size := Nat.le_trans Z0 K153.1
  refine Go.step (T' := T153) (f' := (mkF m 165 #[.val (.long p1), .second, .val (.long p2), .second, .val (.int p3), .val (.int p4), .val (.int p5), .val (.long ((p4.toInt64) &&& (8191 : Int64))), .second, .val (.ref b106), .unset, .unset, .unset, .unset, .unset, .unset, .unset, .unset, .unset, .unset] [])) (fun t kt => ?_) ?_
  · show Steps p.tables e below (s₁.setTop (mkF m 0 #[.val (.long p1), .second, .val (.long p2), .second, .val (.int p3), .val (.int p4), .val (.int p5), .unset, .unset, .unset, .unset, .unset, .unset, .unset, .unset, .unset, .unset, .unset, .unset, .unset] [])) _
    refine XS.iload X0.here hx rfl (hb hby at_0) rfl ?_
    show Steps p.tables e below (s₁.setTop (mkF m 2 #[.val (.long p1), .second, .val (.long p2), .second, .val (.int p3), .val (.int p4), .val (.int p5), .unset, .unset, .unset, .unset, .unset, .unset, .unset, .unset, .unset, .unset, .unset, .unset, .unset] [(.int p4)])) _
    refine XS.i2l X0.here hx rfl (hb hby at_2) rfl ?_
    show Steps p.tables e below (s₁.setTop (mkF m 3 #[.val (.long p1), .second, .val (.long p2), .second, .val (.int p3), .val (.int p4), .val (.int p5), .unset, .unset, .unset, .unset, .unset, .unset, .unset, .unset, .unset, .unset, .unset, .unset, .unset] [(.long (p4.toInt64))])) _
    refine X0.ldc2Long hx hown (mvT hZ (hw _ (List.mem_of_getElem? (i := 0) rfl))) (g := (mkF m 3 #[.val (.long p1), .second, .val (.long p2), .second, .val (.int p3), .val (.int p4), .val (.int p5), .unset, .unset, .unset, .unset, .unset, .unset, .unset, .unset, .unset, .unset, .unset, .unset, .unset] [(.long (p4.toInt64))])) rfl (hb hby at_3) _ ?_
    show Steps p.tables e below (s₁.setTop (mkF m 6 #[.val (.long p1), .second, .val (.long p2), .second, .val (.int p3), .val (.int p4), .val (.int p5), .unset, .unset, .unset, .unset, .unset, .unset, .unset, .unset, .unset, .unset, .unset, .unset, .unset] [(.long (8191 : Int64)), (.long (p4.toInt64))])) _
    refine XS.land X0.here hx rfl (hb hby at_6) rfl ?_
    show Steps p.tables e below (s₁.setTop (mkF m 7 #[.val (.long p1), .second, .val (.long p2), .second, .val (.int p3), .val (.int p4), .val (.int p5), .unset, .unset, .unset, .unset, .unset, .unset, .unset, .unset, .unset, .unset, .unset, .unset, .unset] [(.long ((p4.toInt64) &&& (8191 : Int64)))])) _
    refine XS.lstore X0.here hx rfl (hb hby at_7) rfl (l' := #[.val (.long p1), .second, .val (.long p2), .second, .val (.int p3), .val (.int p4), .val (.int p5), .val (.long ((p4.toInt64) &&& (8191 : Int64))), .second, .unset, .unset, .unset, .unset, .unset, .unset, .unset, .unset, .unset, .unset, .unset]) rfl ?_
    show Steps p.tables e below (s₁.setTop (mkF m 9 #[.val (.long p1), .second, .val (.long p2), .second, .val (.int p3), .val (.int p4), .val (.int p5), .val (.long ((p4.toInt64) &&& (8191 : Int64))), .second, .unset, .unset, .unset, .unset, .unset, .unset, .unset, .unset, .unset, .unset, .unset] [])) _
    refine XS.bipush X0.here hx rfl (hb hby at_9) ?_
    show Steps p.tables e below (s₁.setTop (mkF m 11 #[.val (.long p1), .second, .val (.long p2), .second, .val (.int p3), .val (.int p4), .val (.int p5), .val (.long ((p4.toInt64) &&& (8191 : Int64))), .second, .unset, .unset, .unset, .unset, .unset, .unset, .unset, .unset, .unset, .unset, .unset] [(.int (10 : Int32))])) _
    refine st106 _ ?_
    show Steps p.tables e below (T106.setTop (mkF m 13 #[.val (.long p1), .second, .val (.long p2), .second, .val (.int p3), .val (.int p4), .val (.int p5), .val (.long ((p4.toInt64) &&& (8191 : Int64))), .second, .unset, .unset, .unset, .unset, .unset, .unset, .unset, .unset, .unset, .unset, .unset] [(.ref b106)])) _
    refine XS.astore X106.here hx rfl (hb hby at_13) rfl rfl (l' := #[.val (.long p1), .second, .val (.long p2), .second, .val (.int p3), .val (.int p4), .val (.int p5), .val (.long ((p4.toInt64) &&& (8191 : Int64))), .second, .val (.ref b106), .unset, .unset, .unset, .unset, .unset, .unset, .unset, .unset, .unset, .unset]) rfl ?_
    show Steps p.tables e below (T106.setTop (mkF m 15 #[.val (.long p1), .second, .val (.long p2), .second, .val (.int p3), .val (.int p4), .val (.int p5), .val (.long ((p4.toInt64) &&& (8191 : Int64))), .second, .val (.ref b106), .unset, .unset, .unset, .unset, .unset, .unset, .unset, .unset, .unset, .unset] [])) _
    refine XS.aload X106.here hx rfl (hb hby at_15) rfl rfl ?_
    show Steps p.tables e below (T106.setTop (mkF m 17 #[.val (.long p1), .second, .val (.long p2), .second, .val (.int p3), .val (.int p4), .val (.int p5), .val (.long ((p4.toInt64) &&& (8191 : Int64))), .second, .val (.ref b106), .unset, .unset, .unset, .unset, .unset, .unset, .unset, .unset, .unset, .unset] [(.ref b106)])) _
    refine XS.iconst X106.here hx rfl (hb hby at_17) ?_
    show Steps p.tables e below (T106.setTop (mkF m 18 #[.val (.long p1), .second, .val (.long p2), .second, .val (.int p3), .val (.int p4), .val (.int p5), .val (.long ((p4.toInt64) &&& (8191 : Int64))), .second, .val (.ref b106), .unset, .unset, .unset, .unset, .unset, .unset, .unset, .unset, .unset, .unset] [(.int (0 : Int32)), (.ref b106)])) _
    refine XS.lloadN X106.here hx rfl (hb hby at_18) rfl ?_
    show Steps p.tables e below (T106.setTop (mkF m 19 #[.val (.long p1), .second, .val (.long p2), .second, .val (.int p3), .val (.int p4), .val (.int p5), .val (.long ((p4.toInt64) &&& (8191 : Int64))), .second, .val (.ref b106), .unset, .unset, .unset, .unset, .unset, .unset, .unset, .unset, .unset, .unset] [(.long p1), (.int (0 : Int32)), (.ref b106)])) _
    refine XS.iconst X106.here hx rfl (hb hby at_19) ?_
    show Steps p.tables e below (T106.setTop (mkF m 20 #[.val (.long p1), .second, .val (.long p2), .second, .val (.int p3), .val (.int p4), .val (.int p5), .val (.long ((p4.toInt64) &&& (8191 : Int64))), .second, .val (.ref b106), .unset, .unset, .unset, .unset, .unset, .unset, .unset, .unset, .unset, .unset] [(.int (1 : Int32)), (.long p1), (.int (0 : Int32)), (.ref b106)])) _
    refine XS.lshr X106.here hx rfl (hb hby at_20) rfl ?_
    show Steps p.tables e below (T106.setTop (mkF m 21 #[.val (.long p1), .second, .val (.long p2), .second, .val (.int p3), .val (.int p4), .val (.int p5), .val (.long ((p4.toInt64) &&& (8191 : Int64))), .second, .val (.ref b106), .unset, .unset, .unset, .unset, .unset, .unset, .unset, .unset, .unset, .unset] [(.long (p1 >>> ((1 : Int32) &&& 0x3f).toInt64)), (.int (0 : Int32)), (.ref b106)])) _
    refine st109 _ ?_
    show Steps p.tables e below (T109.setTop (mkF m 22 #[.val (.long p1), .second, .val (.long p2), .second, .val (.int p3), .val (.int p4), .val (.int p5), .val (.long ((p4.toInt64) &&& (8191 : Int64))), .second, .val (.ref b106), .unset, .unset, .unset, .unset, .unset, .unset, .unset, .unset, .unset, .unset] [])) _
    refine XS.aload X109.here hx rfl (hb hby at_22) rfl rfl ?_
    show Steps p.tables e below (T109.setTop (mkF m 24 #[.val (.long p1), .second, .val (.long p2), .second, .val (.int p3), .val (.int p4), .val (.int p5), .val (.long ((p4.toInt64) &&& (8191 : Int64))), .second, .val (.ref b106), .unset, .unset, .unset, .unset, .unset, .unset, .unset, .unset, .unset, .unset] [(.ref b106)])) _
    refine XS.iconst X109.here hx rfl (hb hby at_24) ?_
    show Steps p.tables e below (T109.setTop (mkF m 25 #[.val (.long p1), .second, .val (.long p2), .second, .val (.int p3), .val (.int p4), .val (.int p5), .val (.long ((p4.toInt64) &&& (8191 : Int64))), .second, .val (.ref b106), .unset, .unset, .unset, .unset, .unset, .unset, .unset, .unset, .unset, .unset] [(.int (1 : Int32)), (.ref b106)])) _
    refine XS.aload X109.here hx rfl (hb hby at_25) rfl rfl ?_
    show Steps p.tables e below (T109.setTop (mkF m 27 #[.val (.long p1), .second, .val (.long p2), .second, .val (.int p3), .val (.int p4), .val (.int p5), .val (.long ((p4.toInt64) &&& (8191 : Int64))), .second, .val (.ref b106), .unset, .unset, .unset, .unset, .unset, .unset, .unset, .unset, .unset, .unset] [(.ref b106), (.int (1 : Int32)), (.ref b106)])) _
    refine XS.iconst X109.here hx rfl (hb hby at_27) ?_
    show Steps p.tables e below (T109.setTop (mkF m 28 #[.val (.long p1), .second, .val (.long p2), .second, .val (.int p3), .val (.int p4), .val (.int p5), .val (.long ((p4.toInt64) &&& (8191 : Int64))), .second, .val (.ref b106), .unset, .unset, .unset, .unset, .unset, .unset, .unset, .unset, .unset, .unset] [(.int (0 : Int32)), (.ref b106), (.int (1 : Int32)), (.ref b106)])) _
    refine ldJ X109 hx hZ e109 G110 ix111.1 ix111.2 (g := (mkF m 28 #[.val (.long p1), .second, .val (.long p2), .second, .val (.int p3), .val (.int p4), .val (.int p5), .val (.long ((p4.toInt64) &&& (8191 : Int64))), .second, .val (.ref b106), .unset, .unset, .unset, .unset, .unset, .unset, .unset, .unset, .unset, .unset] [(.int (0 : Int32)), (.ref b106), (.int (1 : Int32)), (.ref b106)])) rfl rfl (hb hby at_28) _ ?_
    show Steps p.tables e below (T109.setTop (mkF m 29 #[.val (.long p1), .second, .val (.long p2), .second, .val (.int p3), .val (.int p4), .val (.int p5), .val (.long ((p4.toInt64) &&& (8191 : Int64))), .second, .val (.ref b106), .unset, .unset, .unset, .unset, .unset, .unset, .unset, .unset, .unset, .unset] [(.long (p1 >>> ((1 : Int32) &&& 0x3f).toInt64)), (.int (1 : Int32)), (.ref b106)])) _
    refine XS.lloadN X109.here hx rfl (hb hby at_29) rfl ?_
    show Steps p.tables e below (T109.setTop (mkF m 30 #[.val (.long p1), .second, .val (.long p2), .second, .val (.int p3), .val (.int p4), .val (.int p5), .val (.long ((p4.toInt64) &&& (8191 : Int64))), .second, .val (.ref b106), .unset, .unset, .unset, .unset, .unset, .unset, .unset, .unset, .unset, .unset] [(.long p2), (.long (p1 >>> ((1 : Int32) &&& 0x3f).toInt64)), (.int (1 : Int32)), (.ref b106)])) _
    refine XS.iconst X109.here hx rfl (hb hby at_30) ?_
    show Steps p.tables e below (T109.setTop (mkF m 31 #[.val (.long p1), .second, .val (.long p2), .second, .val (.int p3), .val (.int p4), .val (.int p5), .val (.long ((p4.toInt64) &&& (8191 : Int64))), .second, .val (.ref b106), .unset, .unset, .unset, .unset, .unset, .unset, .unset, .unset, .unset, .unset] [(.int (0 : Int32)), (.long p2), (.long (p1 >>> ((1 : Int32) &&& 0x3f).toInt64)), (.int (1 : Int32)), (.ref b106)])) _
    refine st112 _ ?_
    show Steps p.tables e below (T112.setTop (mkF m 34 #[.val (.long p1), .second, .val (.long p2), .second, .val (.int p3), .val (.int p4), .val (.int p5), .val (.long ((p4.toInt64) &&& (8191 : Int64))), .second, .val (.ref b106), .unset, .unset, .unset, .unset, .unset, .unset, .unset, .unset, .unset, .unset] [(.long (gapF p2 (0 : Int32))), (.long (p1 >>> ((1 : Int32) &&& 0x3f).toInt64)), (.int (1 : Int32)), (.ref b106)])) _
    refine XS.ladd X112.here hx rfl (hb hby at_34) rfl ?_
    show Steps p.tables e below (T112.setTop (mkF m 35 #[.val (.long p1), .second, .val (.long p2), .second, .val (.int p3), .val (.int p4), .val (.int p5), .val (.long ((p4.toInt64) &&& (8191 : Int64))), .second, .val (.ref b106), .unset, .unset, .unset, .unset, .unset, .unset, .unset, .unset, .unset, .unset] [(.long ((p1 >>> ((1 : Int32) &&& 0x3f).toInt64) + (gapF p2 (0 : Int32)))), (.int (1 : Int32)), (.ref b106)])) _
    refine st114 _ ?_
    show Steps p.tables e below (T114.setTop (mkF m 36 #[.val (.long p1), .second, .val (.long p2), .second, .val (.int p3), .val (.int p4), .val (.int p5), .val (.long ((p4.toInt64) &&& (8191 : Int64))), .second, .val (.ref b106), .unset, .unset, .unset, .unset, .unset, .unset, .unset, .unset, .unset, .unset] [])) _
    refine XS.aload X114.here hx rfl (hb hby at_36) rfl rfl ?_
    show Steps p.tables e below (T114.setTop (mkF m 38 #[.val (.long p1), .second, .val (.long p2), .second, .val (.int p3), .val (.int p4), .val (.int p5), .val (.long ((p4.toInt64) &&& (8191 : Int64))), .second, .val (.ref b106), .unset, .unset, .unset, .unset, .unset, .unset, .unset, .unset, .unset, .unset] [(.ref b106)])) _
    refine XS.iconst X114.here hx rfl (hb hby at_38) ?_
    show Steps p.tables e below (T114.setTop (mkF m 39 #[.val (.long p1), .second, .val (.long p2), .second, .val (.int p3), .val (.int p4), .val (.int p5), .val (.long ((p4.toInt64) &&& (8191 : Int64))), .second, .val (.ref b106), .unset, .unset, .unset, .unset, .unset, .unset, .unset, .unset, .unset, .unset] [(.int (2 : Int32)), (.ref b106)])) _
    refine XS.aload X114.here hx rfl (hb hby at_39) rfl rfl ?_
    show Steps p.tables e below (T114.setTop (mkF m 41 #[.val (.long p1), .second, .val (.long p2), .second, .val (.int p3), .val (.int p4), .val (.int p5), .val (.long ((p4.toInt64) &&& (8191 : Int64))), .second, .val (.ref b106), .unset, .unset, .unset, .unset, .unset, .unset, .unset, .unset, .unset, .unset] [(.ref b106), (.int (2 : Int32)), (.ref b106)])) _
    refine XS.iconst X114.here hx rfl (hb hby at_41) ?_
    show Steps p.tables e below (T114.setTop (mkF m 42 #[.val (.long p1), .second, .val (.long p2), .second, .val (.int p3), .val (.int p4), .val (.int p5), .val (.long ((p4.toInt64) &&& (8191 : Int64))), .second, .val (.ref b106), .unset, .unset, .unset, .unset, .unset, .unset, .unset, .unset, .unset, .unset] [(.int (1 : Int32)), (.ref b106), (.int (2 : Int32)), (.ref b106)])) _
    refine ldJ X114 hx hZ e114 G115 ix116.1 ix116.2 (g := (mkF m 42 #[.val (.long p1), .second, .val (.long p2), .second, .val (.int p3), .val (.int p4), .val (.int p5), .val (.long ((p4.toInt64) &&& (8191 : Int64))), .second, .val (.ref b106), .unset, .unset, .unset, .unset, .unset, .unset, .unset, .unset, .unset, .unset] [(.int (1 : Int32)), (.ref b106), (.int (2 : Int32)), (.ref b106)])) rfl rfl (hb hby at_42) _ ?_
    show Steps p.tables e below (T114.setTop (mkF m 43 #[.val (.long p1), .second, .val (.long p2), .second, .val (.int p3), .val (.int p4), .val (.int p5), .val (.long ((p4.toInt64) &&& (8191 : Int64))), .second, .val (.ref b106), .unset, .unset, .unset, .unset, .unset, .unset, .unset, .unset, .unset, .unset] [(.long ((p1 >>> ((1 : Int32) &&& 0x3f).toInt64) + (gapF p2 (0 : Int32)))), (.int (2 : Int32)), (.ref b106)])) _
    refine XS.lloadN X114.here hx rfl (hb hby at_43) rfl ?_
    show Steps p.tables e below (T114.setTop (mkF m 44 #[.val (.long p1), .second, .val (.long p2), .second, .val (.int p3), .val (.int p4), .val (.int p5), .val (.long ((p4.toInt64) &&& (8191 : Int64))), .second, .val (.ref b106), .unset, .unset, .unset, .unset, .unset, .unset, .unset, .unset, .unset, .unset] [(.long p2), (.long ((p1 >>> ((1 : Int32) &&& 0x3f).toInt64) + (gapF p2 (0 : Int32)))), (.int (2 : Int32)), (.ref b106)])) _
    refine XS.iconst X114.here hx rfl (hb hby at_44) ?_
    show Steps p.tables e below (T114.setTop (mkF m 45 #[.val (.long p1), .second, .val (.long p2), .second, .val (.int p3), .val (.int p4), .val (.int p5), .val (.long ((p4.toInt64) &&& (8191 : Int64))), .second, .val (.ref b106), .unset, .unset, .unset, .unset, .unset, .unset, .unset, .unset, .unset, .unset] [(.int (1 : Int32)), (.long p2), (.long ((p1 >>> ((1 : Int32) &&& 0x3f).toInt64) + (gapF p2 (0 : Int32)))), (.int (2 : Int32)), (.ref b106)])) _
    refine st117 _ ?_
    show Steps p.tables e below (T117.setTop (mkF m 48 #[.val (.long p1), .second, .val (.long p2), .second, .val (.int p3), .val (.int p4), .val (.int p5), .val (.long ((p4.toInt64) &&& (8191 : Int64))), .second, .val (.ref b106), .unset, .unset, .unset, .unset, .unset, .unset, .unset, .unset, .unset, .unset] [(.long (gapF p2 (1 : Int32))), (.long ((p1 >>> ((1 : Int32) &&& 0x3f).toInt64) + (gapF p2 (0 : Int32)))), (.int (2 : Int32)), (.ref b106)])) _
    refine XS.ladd X117.here hx rfl (hb hby at_48) rfl ?_
    show Steps p.tables e below (T117.setTop (mkF m 49 #[.val (.long p1), .second, .val (.long p2), .second, .val (.int p3), .val (.int p4), .val (.int p5), .val (.long ((p4.toInt64) &&& (8191 : Int64))), .second, .val (.ref b106), .unset, .unset, .unset, .unset, .unset, .unset, .unset, .unset, .unset, .unset] [(.long (((p1 >>> ((1 : Int32) &&& 0x3f).toInt64) + (gapF p2 (0 : Int32))) + (gapF p2 (1 : Int32)))), (.int (2 : Int32)), (.ref b106)])) _
    refine st119 _ ?_
    show Steps p.tables e below (T119.setTop (mkF m 50 #[.val (.long p1), .second, .val (.long p2), .second, .val (.int p3), .val (.int p4), .val (.int p5), .val (.long ((p4.toInt64) &&& (8191 : Int64))), .second, .val (.ref b106), .unset, .unset, .unset, .unset, .unset, .unset, .unset, .unset, .unset, .unset] [])) _
    refine XS.aload X119.here hx rfl (hb hby at_50) rfl rfl ?_
    show Steps p.tables e below (T119.setTop (mkF m 52 #[.val (.long p1), .second, .val (.long p2), .second, .val (.int p3), .val (.int p4), .val (.int p5), .val (.long ((p4.toInt64) &&& (8191 : Int64))), .second, .val (.ref b106), .unset, .unset, .unset, .unset, .unset, .unset, .unset, .unset, .unset, .unset] [(.ref b106)])) _
    refine XS.iconst X119.here hx rfl (hb hby at_52) ?_
    show Steps p.tables e below (T119.setTop (mkF m 53 #[.val (.long p1), .second, .val (.long p2), .second, .val (.int p3), .val (.int p4), .val (.int p5), .val (.long ((p4.toInt64) &&& (8191 : Int64))), .second, .val (.ref b106), .unset, .unset, .unset, .unset, .unset, .unset, .unset, .unset, .unset, .unset] [(.int (3 : Int32)), (.ref b106)])) _
    refine XS.aload X119.here hx rfl (hb hby at_53) rfl rfl ?_
    show Steps p.tables e below (T119.setTop (mkF m 55 #[.val (.long p1), .second, .val (.long p2), .second, .val (.int p3), .val (.int p4), .val (.int p5), .val (.long ((p4.toInt64) &&& (8191 : Int64))), .second, .val (.ref b106), .unset, .unset, .unset, .unset, .unset, .unset, .unset, .unset, .unset, .unset] [(.ref b106), (.int (3 : Int32)), (.ref b106)])) _
    refine XS.iconst X119.here hx rfl (hb hby at_55) ?_
    show Steps p.tables e below (T119.setTop (mkF m 56 #[.val (.long p1), .second, .val (.long p2), .second, .val (.int p3), .val (.int p4), .val (.int p5), .val (.long ((p4.toInt64) &&& (8191 : Int64))), .second, .val (.ref b106), .unset, .unset, .unset, .unset, .unset, .unset, .unset, .unset, .unset, .unset] [(.int (2 : Int32)), (.ref b106), (.int (3 : Int32)), (.ref b106)])) _
    refine ldJ X119 hx hZ e119 G120 ix121.1 ix121.2 (g := (mkF m 56 #[.val (.long p1), .second, .val (.long p2), .second, .val (.int p3), .val (.int p4), .val (.int p5), .val (.long ((p4.toInt64) &&& (8191 : Int64))), .second, .val (.ref b106), .unset, .unset, .unset, .unset, .unset, .unset, .unset, .unset, .unset, .unset] [(.int (2 : Int32)), (.ref b106), (.int (3 : Int32)), (.ref b106)])) rfl rfl (hb hby at_56) _ ?_
    show Steps p.tables e below (T119.setTop (mkF m 57 #[.val (.long p1), .second, .val (.long p2), .second, .val (.int p3), .val (.int p4), .val (.int p5), .val (.long ((p4.toInt64) &&& (8191 : Int64))), .second, .val (.ref b106), .unset, .unset, .unset, .unset, .unset, .unset, .unset, .unset, .unset, .unset] [(.long (((p1 >>> ((1 : Int32) &&& 0x3f).toInt64) + (gapF p2 (0 : Int32))) + (gapF p2 (1 : Int32)))), (.int (3 : Int32)), (.ref b106)])) _
    refine XS.lloadN X119.here hx rfl (hb hby at_57) rfl ?_
    show Steps p.tables e below (T119.setTop (mkF m 58 #[.val (.long p1), .second, .val (.long p2), .second, .val (.int p3), .val (.int p4), .val (.int p5), .val (.long ((p4.toInt64) &&& (8191 : Int64))), .second, .val (.ref b106), .unset, .unset, .unset, .unset, .unset, .unset, .unset, .unset, .unset, .unset] [(.long p2), (.long (((p1 >>> ((1 : Int32) &&& 0x3f).toInt64) + (gapF p2 (0 : Int32))) + (gapF p2 (1 : Int32)))), (.int (3 : Int32)), (.ref b106)])) _
    refine XS.iconst X119.here hx rfl (hb hby at_58) ?_
    show Steps p.tables e below (T119.setTop (mkF m 59 #[.val (.long p1), .second, .val (.long p2), .second, .val (.int p3), .val (.int p4), .val (.int p5), .val (.long ((p4.toInt64) &&& (8191 : Int64))), .second, .val (.ref b106), .unset, .unset, .unset, .unset, .unset, .unset, .unset, .unset, .unset, .unset] [(.int (2 : Int32)), (.long p2), (.long (((p1 >>> ((1 : Int32) &&& 0x3f).toInt64) + (gapF p2 (0 : Int32))) + (gapF p2 (1 : Int32)))), (.int (3 : Int32)), (.ref b106)])) _
    refine st122 _ ?_
    show Steps p.tables e below (T122.setTop (mkF m 62 #[.val (.long p1), .second, .val (.long p2), .second, .val (.int p3), .val (.int p4), .val (.int p5), .val (.long ((p4.toInt64) &&& (8191 : Int64))), .second, .val (.ref b106), .unset, .unset, .unset, .unset, .unset, .unset, .unset, .unset, .unset, .unset] [(.long (gapF p2 (2 : Int32))), (.long (((p1 >>> ((1 : Int32) &&& 0x3f).toInt64) + (gapF p2 (0 : Int32))) + (gapF p2 (1 : Int32)))), (.int (3 : Int32)), (.ref b106)])) _
    refine XS.ladd X122.here hx rfl (hb hby at_62) rfl ?_
    show Steps p.tables e below (T122.setTop (mkF m 63 #[.val (.long p1), .second, .val (.long p2), .second, .val (.int p3), .val (.int p4), .val (.int p5), .val (.long ((p4.toInt64) &&& (8191 : Int64))), .second, .val (.ref b106), .unset, .unset, .unset, .unset, .unset, .unset, .unset, .unset, .unset, .unset] [(.long ((((p1 >>> ((1 : Int32) &&& 0x3f).toInt64) + (gapF p2 (0 : Int32))) + (gapF p2 (1 : Int32))) + (gapF p2 (2 : Int32)))), (.int (3 : Int32)), (.ref b106)])) _
    refine st124 _ ?_
    show Steps p.tables e below (T124.setTop (mkF m 64 #[.val (.long p1), .second, .val (.long p2), .second, .val (.int p3), .val (.int p4), .val (.int p5), .val (.long ((p4.toInt64) &&& (8191 : Int64))), .second, .val (.ref b106), .unset, .unset, .unset, .unset, .unset, .unset, .unset, .unset, .unset, .unset] [])) _
    refine XS.aload X124.here hx rfl (hb hby at_64) rfl rfl ?_
    show Steps p.tables e below (T124.setTop (mkF m 66 #[.val (.long p1), .second, .val (.long p2), .second, .val (.int p3), .val (.int p4), .val (.int p5), .val (.long ((p4.toInt64) &&& (8191 : Int64))), .second, .val (.ref b106), .unset, .unset, .unset, .unset, .unset, .unset, .unset, .unset, .unset, .unset] [(.ref b106)])) _
    refine XS.iconst X124.here hx rfl (hb hby at_66) ?_
    show Steps p.tables e below (T124.setTop (mkF m 67 #[.val (.long p1), .second, .val (.long p2), .second, .val (.int p3), .val (.int p4), .val (.int p5), .val (.long ((p4.toInt64) &&& (8191 : Int64))), .second, .val (.ref b106), .unset, .unset, .unset, .unset, .unset, .unset, .unset, .unset, .unset, .unset] [(.int (4 : Int32)), (.ref b106)])) _
    refine XS.aload X124.here hx rfl (hb hby at_67) rfl rfl ?_
    show Steps p.tables e below (T124.setTop (mkF m 69 #[.val (.long p1), .second, .val (.long p2), .second, .val (.int p3), .val (.int p4), .val (.int p5), .val (.long ((p4.toInt64) &&& (8191 : Int64))), .second, .val (.ref b106), .unset, .unset, .unset, .unset, .unset, .unset, .unset, .unset, .unset, .unset] [(.ref b106), (.int (4 : Int32)), (.ref b106)])) _
    refine XS.iconst X124.here hx rfl (hb hby at_69) ?_
    show Steps p.tables e below (T124.setTop (mkF m 70 #[.val (.long p1), .second, .val (.long p2), .second, .val (.int p3), .val (.int p4), .val (.int p5), .val (.long ((p4.toInt64) &&& (8191 : Int64))), .second, .val (.ref b106), .unset, .unset, .unset, .unset, .unset, .unset, .unset, .unset, .unset, .unset] [(.int (3 : Int32)), (.ref b106), (.int (4 : Int32)), (.ref b106)])) _
    refine ldJ X124 hx hZ e124 G125 ix126.1 ix126.2 (g := (mkF m 70 #[.val (.long p1), .second, .val (.long p2), .second, .val (.int p3), .val (.int p4), .val (.int p5), .val (.long ((p4.toInt64) &&& (8191 : Int64))), .second, .val (.ref b106), .unset, .unset, .unset, .unset, .unset, .unset, .unset, .unset, .unset, .unset] [(.int (3 : Int32)), (.ref b106), (.int (4 : Int32)), (.ref b106)])) rfl rfl (hb hby at_70) _ ?_
    show Steps p.tables e below (T124.setTop (mkF m 71 #[.val (.long p1), .second, .val (.long p2), .second, .val (.int p3), .val (.int p4), .val (.int p5), .val (.long ((p4.toInt64) &&& (8191 : Int64))), .second, .val (.ref b106), .unset, .unset, .unset, .unset, .unset, .unset, .unset, .unset, .unset, .unset] [(.long ((((p1 >>> ((1 : Int32) &&& 0x3f).toInt64) + (gapF p2 (0 : Int32))) + (gapF p2 (1 : Int32))) + (gapF p2 (2 : Int32)))), (.int (4 : Int32)), (.ref b106)])) _
    refine XS.lloadN X124.here hx rfl (hb hby at_71) rfl ?_
    show Steps p.tables e below (T124.setTop (mkF m 72 #[.val (.long p1), .second, .val (.long p2), .second, .val (.int p3), .val (.int p4), .val (.int p5), .val (.long ((p4.toInt64) &&& (8191 : Int64))), .second, .val (.ref b106), .unset, .unset, .unset, .unset, .unset, .unset, .unset, .unset, .unset, .unset] [(.long p2), (.long ((((p1 >>> ((1 : Int32) &&& 0x3f).toInt64) + (gapF p2 (0 : Int32))) + (gapF p2 (1 : Int32))) + (gapF p2 (2 : Int32)))), (.int (4 : Int32)), (.ref b106)])) _
    refine XS.iconst X124.here hx rfl (hb hby at_72) ?_
    show Steps p.tables e below (T124.setTop (mkF m 73 #[.val (.long p1), .second, .val (.long p2), .second, .val (.int p3), .val (.int p4), .val (.int p5), .val (.long ((p4.toInt64) &&& (8191 : Int64))), .second, .val (.ref b106), .unset, .unset, .unset, .unset, .unset, .unset, .unset, .unset, .unset, .unset] [(.int (3 : Int32)), (.long p2), (.long ((((p1 >>> ((1 : Int32) &&& 0x3f).toInt64) + (gapF p2 (0 : Int32))) + (gapF p2 (1 : Int32))) + (gapF p2 (2 : Int32)))), (.int (4 : Int32)), (.ref b106)])) _
    refine st127 _ ?_
    show Steps p.tables e below (T127.setTop (mkF m 76 #[.val (.long p1), .second, .val (.long p2), .second, .val (.int p3), .val (.int p4), .val (.int p5), .val (.long ((p4.toInt64) &&& (8191 : Int64))), .second, .val (.ref b106), .unset, .unset, .unset, .unset, .unset, .unset, .unset, .unset, .unset, .unset] [(.long (gapF p2 (3 : Int32))), (.long ((((p1 >>> ((1 : Int32) &&& 0x3f).toInt64) + (gapF p2 (0 : Int32))) + (gapF p2 (1 : Int32))) + (gapF p2 (2 : Int32)))), (.int (4 : Int32)), (.ref b106)])) _
    refine XS.ladd X127.here hx rfl (hb hby at_76) rfl ?_
    show Steps p.tables e below (T127.setTop (mkF m 77 #[.val (.long p1), .second, .val (.long p2), .second, .val (.int p3), .val (.int p4), .val (.int p5), .val (.long ((p4.toInt64) &&& (8191 : Int64))), .second, .val (.ref b106), .unset, .unset, .unset, .unset, .unset, .unset, .unset, .unset, .unset, .unset] [(.long (((((p1 >>> ((1 : Int32) &&& 0x3f).toInt64) + (gapF p2 (0 : Int32))) + (gapF p2 (1 : Int32))) + (gapF p2 (2 : Int32))) + (gapF p2 (3 : Int32)))), (.int (4 : Int32)), (.ref b106)])) _
    refine st129 _ ?_
    show Steps p.tables e below (T129.setTop (mkF m 78 #[.val (.long p1), .second, .val (.long p2), .second, .val (.int p3), .val (.int p4), .val (.int p5), .val (.long ((p4.toInt64) &&& (8191 : Int64))), .second, .val (.ref b106), .unset, .unset, .unset, .unset, .unset, .unset, .unset, .unset, .unset, .unset] [])) _
    refine XS.aload X129.here hx rfl (hb hby at_78) rfl rfl ?_
    show Steps p.tables e below (T129.setTop (mkF m 80 #[.val (.long p1), .second, .val (.long p2), .second, .val (.int p3), .val (.int p4), .val (.int p5), .val (.long ((p4.toInt64) &&& (8191 : Int64))), .second, .val (.ref b106), .unset, .unset, .unset, .unset, .unset, .unset, .unset, .unset, .unset, .unset] [(.ref b106)])) _
    refine XS.iconst X129.here hx rfl (hb hby at_80) ?_
    show Steps p.tables e below (T129.setTop (mkF m 81 #[.val (.long p1), .second, .val (.long p2), .second, .val (.int p3), .val (.int p4), .val (.int p5), .val (.long ((p4.toInt64) &&& (8191 : Int64))), .second, .val (.ref b106), .unset, .unset, .unset, .unset, .unset, .unset, .unset, .unset, .unset, .unset] [(.int (5 : Int32)), (.ref b106)])) _
    refine XS.aload X129.here hx rfl (hb hby at_81) rfl rfl ?_
    show Steps p.tables e below (T129.setTop (mkF m 83 #[.val (.long p1), .second, .val (.long p2), .second, .val (.int p3), .val (.int p4), .val (.int p5), .val (.long ((p4.toInt64) &&& (8191 : Int64))), .second, .val (.ref b106), .unset, .unset, .unset, .unset, .unset, .unset, .unset, .unset, .unset, .unset] [(.ref b106), (.int (5 : Int32)), (.ref b106)])) _
    refine XS.iconst X129.here hx rfl (hb hby at_83) ?_
    show Steps p.tables e below (T129.setTop (mkF m 84 #[.val (.long p1), .second, .val (.long p2), .second, .val (.int p3), .val (.int p4), .val (.int p5), .val (.long ((p4.toInt64) &&& (8191 : Int64))), .second, .val (.ref b106), .unset, .unset, .unset, .unset, .unset, .unset, .unset, .unset, .unset, .unset] [(.int (4 : Int32)), (.ref b106), (.int (5 : Int32)), (.ref b106)])) _
    refine ldJ X129 hx hZ e129 G130 ix131.1 ix131.2 (g := (mkF m 84 #[.val (.long p1), .second, .val (.long p2), .second, .val (.int p3), .val (.int p4), .val (.int p5), .val (.long ((p4.toInt64) &&& (8191 : Int64))), .second, .val (.ref b106), .unset, .unset, .unset, .unset, .unset, .unset, .unset, .unset, .unset, .unset] [(.int (4 : Int32)), (.ref b106), (.int (5 : Int32)), (.ref b106)])) rfl rfl (hb hby at_84) _ ?_
    show Steps p.tables e below (T129.setTop (mkF m 85 #[.val (.long p1), .second, .val (.long p2), .second, .val (.int p3), .val (.int p4), .val (.int p5), .val (.long ((p4.toInt64) &&& (8191 : Int64))), .second, .val (.ref b106), .unset, .unset, .unset, .unset, .unset, .unset, .unset, .unset, .unset, .unset] [(.long (((((p1 >>> ((1 : Int32) &&& 0x3f).toInt64) + (gapF p2 (0 : Int32))) + (gapF p2 (1 : Int32))) + (gapF p2 (2 : Int32))) + (gapF p2 (3 : Int32)))), (.int (5 : Int32)), (.ref b106)])) _
    refine XS.lloadN X129.here hx rfl (hb hby at_85) rfl ?_
    show Steps p.tables e below (T129.setTop (mkF m 86 #[.val (.long p1), .second, .val (.long p2), .second, .val (.int p3), .val (.int p4), .val (.int p5), .val (.long ((p4.toInt64) &&& (8191 : Int64))), .second, .val (.ref b106), .unset, .unset, .unset, .unset, .unset, .unset, .unset, .unset, .unset, .unset] [(.long p2), (.long (((((p1 >>> ((1 : Int32) &&& 0x3f).toInt64) + (gapF p2 (0 : Int32))) + (gapF p2 (1 : Int32))) + (gapF p2 (2 : Int32))) + (gapF p2 (3 : Int32)))), (.int (5 : Int32)), (.ref b106)])) _
    refine XS.iconst X129.here hx rfl (hb hby at_86) ?_
    show Steps p.tables e below (T129.setTop (mkF m 87 #[.val (.long p1), .second, .val (.long p2), .second, .val (.int p3), .val (.int p4), .val (.int p5), .val (.long ((p4.toInt64) &&& (8191 : Int64))), .second, .val (.ref b106), .unset, .unset, .unset, .unset, .unset, .unset, .unset, .unset, .unset, .unset] [(.int (4 : Int32)), (.long p2), (.long (((((p1 >>> ((1 : Int32) &&& 0x3f).toInt64) + (gapF p2 (0 : Int32))) + (gapF p2 (1 : Int32))) + (gapF p2 (2 : Int32))) + (gapF p2 (3 : Int32)))), (.int (5 : Int32)), (.ref b106)])) _
    refine st132 _ ?_
    show Steps p.tables e below (T132.setTop (mkF m 90 #[.val (.long p1), .second, .val (.long p2), .second, .val (.int p3), .val (.int p4), .val (.int p5), .val (.long ((p4.toInt64) &&& (8191 : Int64))), .second, .val (.ref b106), .unset, .unset, .unset, .unset, .unset, .unset, .unset, .unset, .unset, .unset] [(.long (gapF p2 (4 : Int32))), (.long (((((p1 >>> ((1 : Int32) &&& 0x3f).toInt64) + (gapF p2 (0 : Int32))) + (gapF p2 (1 : Int32))) + (gapF p2 (2 : Int32))) + (gapF p2 (3 : Int32)))), (.int (5 : Int32)), (.ref b106)])) _
    refine XS.ladd X132.here hx rfl (hb hby at_90) rfl ?_
    show Steps p.tables e below (T132.setTop (mkF m 91 #[.val (.long p1), .second, .val (.long p2), .second, .val (.int p3), .val (.int p4), .val (.int p5), .val (.long ((p4.toInt64) &&& (8191 : Int64))), .second, .val (.ref b106), .unset, .unset, .unset, .unset, .unset, .unset, .unset, .unset, .unset, .unset] [(.long ((((((p1 >>> ((1 : Int32) &&& 0x3f).toInt64) + (gapF p2 (0 : Int32))) + (gapF p2 (1 : Int32))) + (gapF p2 (2 : Int32))) + (gapF p2 (3 : Int32))) + (gapF p2 (4 : Int32)))), (.int (5 : Int32)), (.ref b106)])) _
    refine st134 _ ?_
    show Steps p.tables e below (T134.setTop (mkF m 92 #[.val (.long p1), .second, .val (.long p2), .second, .val (.int p3), .val (.int p4), .val (.int p5), .val (.long ((p4.toInt64) &&& (8191 : Int64))), .second, .val (.ref b106), .unset, .unset, .unset, .unset, .unset, .unset, .unset, .unset, .unset, .unset] [])) _
    refine XS.aload X134.here hx rfl (hb hby at_92) rfl rfl ?_
    show Steps p.tables e below (T134.setTop (mkF m 94 #[.val (.long p1), .second, .val (.long p2), .second, .val (.int p3), .val (.int p4), .val (.int p5), .val (.long ((p4.toInt64) &&& (8191 : Int64))), .second, .val (.ref b106), .unset, .unset, .unset, .unset, .unset, .unset, .unset, .unset, .unset, .unset] [(.ref b106)])) _
    refine XS.bipush X134.here hx rfl (hb hby at_94) ?_
    show Steps p.tables e below (T134.setTop (mkF m 96 #[.val (.long p1), .second, .val (.long p2), .second, .val (.int p3), .val (.int p4), .val (.int p5), .val (.long ((p4.toInt64) &&& (8191 : Int64))), .second, .val (.ref b106), .unset, .unset, .unset, .unset, .unset, .unset, .unset, .unset, .unset, .unset] [(.int (6 : Int32)), (.ref b106)])) _
    refine XS.aload X134.here hx rfl (hb hby at_96) rfl rfl ?_
    show Steps p.tables e below (T134.setTop (mkF m 98 #[.val (.long p1), .second, .val (.long p2), .second, .val (.int p3), .val (.int p4), .val (.int p5), .val (.long ((p4.toInt64) &&& (8191 : Int64))), .second, .val (.ref b106), .unset, .unset, .unset, .unset, .unset, .unset, .unset, .unset, .unset, .unset] [(.ref b106), (.int (6 : Int32)), (.ref b106)])) _
    refine XS.iconst X134.here hx rfl (hb hby at_98) ?_
    show Steps p.tables e below (T134.setTop (mkF m 99 #[.val (.long p1), .second, .val (.long p2), .second, .val (.int p3), .val (.int p4), .val (.int p5), .val (.long ((p4.toInt64) &&& (8191 : Int64))), .second, .val (.ref b106), .unset, .unset, .unset, .unset, .unset, .unset, .unset, .unset, .unset, .unset] [(.int (5 : Int32)), (.ref b106), (.int (6 : Int32)), (.ref b106)])) _
    refine ldJ X134 hx hZ e134 G135 ix136.1 ix136.2 (g := (mkF m 99 #[.val (.long p1), .second, .val (.long p2), .second, .val (.int p3), .val (.int p4), .val (.int p5), .val (.long ((p4.toInt64) &&& (8191 : Int64))), .second, .val (.ref b106), .unset, .unset, .unset, .unset, .unset, .unset, .unset, .unset, .unset, .unset] [(.int (5 : Int32)), (.ref b106), (.int (6 : Int32)), (.ref b106)])) rfl rfl (hb hby at_99) _ ?_
    show Steps p.tables e below (T134.setTop (mkF m 100 #[.val (.long p1), .second, .val (.long p2), .second, .val (.int p3), .val (.int p4), .val (.int p5), .val (.long ((p4.toInt64) &&& (8191 : Int64))), .second, .val (.ref b106), .unset, .unset, .unset, .unset, .unset, .unset, .unset, .unset, .unset, .unset] [(.long ((((((p1 >>> ((1 : Int32) &&& 0x3f).toInt64) + (gapF p2 (0 : Int32))) + (gapF p2 (1 : Int32))) + (gapF p2 (2 : Int32))) + (gapF p2 (3 : Int32))) + (gapF p2 (4 : Int32)))), (.int (6 : Int32)), (.ref b106)])) _
    refine XS.lloadN X134.here hx rfl (hb hby at_100) rfl ?_
    show Steps p.tables e below (T134.setTop (mkF m 101 #[.val (.long p1), .second, .val (.long p2), .second, .val (.int p3), .val (.int p4), .val (.int p5), .val (.long ((p4.toInt64) &&& (8191 : Int64))), .second, .val (.ref b106), .unset, .unset, .unset, .unset, .unset, .unset, .unset, .unset, .unset, .unset] [(.long p2), (.long ((((((p1 >>> ((1 : Int32) &&& 0x3f).toInt64) + (gapF p2 (0 : Int32))) + (gapF p2 (1 : Int32))) + (gapF p2 (2 : Int32))) + (gapF p2 (3 : Int32))) + (gapF p2 (4 : Int32)))), (.int (6 : Int32)), (.ref b106)])) _
    refine XS.iconst X134.here hx rfl (hb hby at_101) ?_
    show Steps p.tables e below (T134.setTop (mkF m 102 #[.val (.long p1), .second, .val (.long p2), .second, .val (.int p3), .val (.int p4), .val (.int p5), .val (.long ((p4.toInt64) &&& (8191 : Int64))), .second, .val (.ref b106), .unset, .unset, .unset, .unset, .unset, .unset, .unset, .unset, .unset, .unset] [(.int (5 : Int32)), (.long p2), (.long ((((((p1 >>> ((1 : Int32) &&& 0x3f).toInt64) + (gapF p2 (0 : Int32))) + (gapF p2 (1 : Int32))) + (gapF p2 (2 : Int32))) + (gapF p2 (3 : Int32))) + (gapF p2 (4 : Int32)))), (.int (6 : Int32)), (.ref b106)])) _
    refine st137 _ ?_
    show Steps p.tables e below (T137.setTop (mkF m 105 #[.val (.long p1), .second, .val (.long p2), .second, .val (.int p3), .val (.int p4), .val (.int p5), .val (.long ((p4.toInt64) &&& (8191 : Int64))), .second, .val (.ref b106), .unset, .unset, .unset, .unset, .unset, .unset, .unset, .unset, .unset, .unset] [(.long (gapF p2 (5 : Int32))), (.long ((((((p1 >>> ((1 : Int32) &&& 0x3f).toInt64) + (gapF p2 (0 : Int32))) + (gapF p2 (1 : Int32))) + (gapF p2 (2 : Int32))) + (gapF p2 (3 : Int32))) + (gapF p2 (4 : Int32)))), (.int (6 : Int32)), (.ref b106)])) _
    refine XS.ladd X137.here hx rfl (hb hby at_105) rfl ?_
    show Steps p.tables e below (T137.setTop (mkF m 106 #[.val (.long p1), .second, .val (.long p2), .second, .val (.int p3), .val (.int p4), .val (.int p5), .val (.long ((p4.toInt64) &&& (8191 : Int64))), .second, .val (.ref b106), .unset, .unset, .unset, .unset, .unset, .unset, .unset, .unset, .unset, .unset] [(.long (((((((p1 >>> ((1 : Int32) &&& 0x3f).toInt64) + (gapF p2 (0 : Int32))) + (gapF p2 (1 : Int32))) + (gapF p2 (2 : Int32))) + (gapF p2 (3 : Int32))) + (gapF p2 (4 : Int32))) + (gapF p2 (5 : Int32)))), (.int (6 : Int32)), (.ref b106)])) _
    refine st139 _ ?_
    show Steps p.tables e below (T139.setTop (mkF m 107 #[.val (.long p1), .second, .val (.long p2), .second, .val (.int p3), .val (.int p4), .val (.int p5), .val (.long ((p4.toInt64) &&& (8191 : Int64))), .second, .val (.ref b106), .unset, .unset, .unset, .unset, .unset, .unset, .unset, .unset, .unset, .unset] [])) _
    refine XS.aload X139.here hx rfl (hb hby at_107) rfl rfl ?_
    show Steps p.tables e below (T139.setTop (mkF m 109 #[.val (.long p1), .second, .val (.long p2), .second, .val (.int p3), .val (.int p4), .val (.int p5), .val (.long ((p4.toInt64) &&& (8191 : Int64))), .second, .val (.ref b106), .unset, .unset, .unset, .unset, .unset, .unset, .unset, .unset, .unset, .unset] [(.ref b106)])) _
    refine XS.bipush X139.here hx rfl (hb hby at_109) ?_
    show Steps p.tables e below (T139.setTop (mkF m 111 #[.val (.long p1), .second, .val (.long p2), .second, .val (.int p3), .val (.int p4), .val (.int p5), .val (.long ((p4.toInt64) &&& (8191 : Int64))), .second, .val (.ref b106), .unset, .unset, .unset, .unset, .unset, .unset, .unset, .unset, .unset, .unset] [(.int (7 : Int32)), (.ref b106)])) _
    refine XS.aload X139.here hx rfl (hb hby at_111) rfl rfl ?_
    show Steps p.tables e below (T139.setTop (mkF m 113 #[.val (.long p1), .second, .val (.long p2), .second, .val (.int p3), .val (.int p4), .val (.int p5), .val (.long ((p4.toInt64) &&& (8191 : Int64))), .second, .val (.ref b106), .unset, .unset, .unset, .unset, .unset, .unset, .unset, .unset, .unset, .unset] [(.ref b106), (.int (7 : Int32)), (.ref b106)])) _
    refine XS.bipush X139.here hx rfl (hb hby at_113) ?_
    show Steps p.tables e below (T139.setTop (mkF m 115 #[.val (.long p1), .second, .val (.long p2), .second, .val (.int p3), .val (.int p4), .val (.int p5), .val (.long ((p4.toInt64) &&& (8191 : Int64))), .second, .val (.ref b106), .unset, .unset, .unset, .unset, .unset, .unset, .unset, .unset, .unset, .unset] [(.int (6 : Int32)), (.ref b106), (.int (7 : Int32)), (.ref b106)])) _
    refine ldJ X139 hx hZ e139 G140 ix141.1 ix141.2 (g := (mkF m 115 #[.val (.long p1), .second, .val (.long p2), .second, .val (.int p3), .val (.int p4), .val (.int p5), .val (.long ((p4.toInt64) &&& (8191 : Int64))), .second, .val (.ref b106), .unset, .unset, .unset, .unset, .unset, .unset, .unset, .unset, .unset, .unset] [(.int (6 : Int32)), (.ref b106), (.int (7 : Int32)), (.ref b106)])) rfl rfl (hb hby at_115) _ ?_
    show Steps p.tables e below (T139.setTop (mkF m 116 #[.val (.long p1), .second, .val (.long p2), .second, .val (.int p3), .val (.int p4), .val (.int p5), .val (.long ((p4.toInt64) &&& (8191 : Int64))), .second, .val (.ref b106), .unset, .unset, .unset, .unset, .unset, .unset, .unset, .unset, .unset, .unset] [(.long (((((((p1 >>> ((1 : Int32) &&& 0x3f).toInt64) + (gapF p2 (0 : Int32))) + (gapF p2 (1 : Int32))) + (gapF p2 (2 : Int32))) + (gapF p2 (3 : Int32))) + (gapF p2 (4 : Int32))) + (gapF p2 (5 : Int32)))), (.int (7 : Int32)), (.ref b106)])) _
    refine XS.lloadN X139.here hx rfl (hb hby at_116) rfl ?_
    show Steps p.tables e below (T139.setTop (mkF m 117 #[.val (.long p1), .second, .val (.long p2), .second, .val (.int p3), .val (.int p4), .val (.int p5), .val (.long ((p4.toInt64) &&& (8191 : Int64))), .second, .val (.ref b106), .unset, .unset, .unset, .unset, .unset, .unset, .unset, .unset, .unset, .unset] [(.long p2), (.long (((((((p1 >>> ((1 : Int32) &&& 0x3f).toInt64) + (gapF p2 (0 : Int32))) + (gapF p2 (1 : Int32))) + (gapF p2 (2 : Int32))) + (gapF p2 (3 : Int32))) + (gapF p2 (4 : Int32))) + (gapF p2 (5 : Int32)))), (.int (7 : Int32)), (.ref b106)])) _
    refine XS.bipush X139.here hx rfl (hb hby at_117) ?_
    show Steps p.tables e below (T139.setTop (mkF m 119 #[.val (.long p1), .second, .val (.long p2), .second, .val (.int p3), .val (.int p4), .val (.int p5), .val (.long ((p4.toInt64) &&& (8191 : Int64))), .second, .val (.ref b106), .unset, .unset, .unset, .unset, .unset, .unset, .unset, .unset, .unset, .unset] [(.int (6 : Int32)), (.long p2), (.long (((((((p1 >>> ((1 : Int32) &&& 0x3f).toInt64) + (gapF p2 (0 : Int32))) + (gapF p2 (1 : Int32))) + (gapF p2 (2 : Int32))) + (gapF p2 (3 : Int32))) + (gapF p2 (4 : Int32))) + (gapF p2 (5 : Int32)))), (.int (7 : Int32)), (.ref b106)])) _
    refine st142 _ ?_
    show Steps p.tables e below (T142.setTop (mkF m 122 #[.val (.long p1), .second, .val (.long p2), .second, .val (.int p3), .val (.int p4), .val (.int p5), .val (.long ((p4.toInt64) &&& (8191 : Int64))), .second, .val (.ref b106), .unset, .unset, .unset, .unset, .unset, .unset, .unset, .unset, .unset, .unset] [(.long (gapF p2 (6 : Int32))), (.long (((((((p1 >>> ((1 : Int32) &&& 0x3f).toInt64) + (gapF p2 (0 : Int32))) + (gapF p2 (1 : Int32))) + (gapF p2 (2 : Int32))) + (gapF p2 (3 : Int32))) + (gapF p2 (4 : Int32))) + (gapF p2 (5 : Int32)))), (.int (7 : Int32)), (.ref b106)])) _
    refine XS.ladd X142.here hx rfl (hb hby at_122) rfl ?_
    show Steps p.tables e below (T142.setTop (mkF m 123 #[.val (.long p1), .second, .val (.long p2), .second, .val (.int p3), .val (.int p4), .val (.int p5), .val (.long ((p4.toInt64) &&& (8191 : Int64))), .second, .val (.ref b106), .unset, .unset, .unset, .unset, .unset, .unset, .unset, .unset, .unset, .unset] [(.long ((((((((p1 >>> ((1 : Int32) &&& 0x3f).toInt64) + (gapF p2 (0 : Int32))) + (gapF p2 (1 : Int32))) + (gapF p2 (2 : Int32))) + (gapF p2 (3 : Int32))) + (gapF p2 (4 : Int32))) + (gapF p2 (5 : Int32))) + (gapF p2 (6 : Int32)))), (.int (7 : Int32)), (.ref b106)])) _
    refine st144 _ ?_
    show Steps p.tables e below (T144.setTop (mkF m 124 #[.val (.long p1), .second, .val (.long p2), .second, .val (.int p3), .val (.int p4), .val (.int p5), .val (.long ((p4.toInt64) &&& (8191 : Int64))), .second, .val (.ref b106), .unset, .unset, .unset, .unset, .unset, .unset, .unset, .unset, .unset, .unset] [])) _
    refine XS.aload X144.here hx rfl (hb hby at_124) rfl rfl ?_
    show Steps p.tables e below (T144.setTop (mkF m 126 #[.val (.long p1), .second, .val (.long p2), .second, .val (.int p3), .val (.int p4), .val (.int p5), .val (.long ((p4.toInt64) &&& (8191 : Int64))), .second, .val (.ref b106), .unset, .unset, .unset, .unset, .unset, .unset, .unset, .unset, .unset, .unset] [(.ref b106)])) _
    refine XS.bipush X144.here hx rfl (hb hby at_126) ?_
    show Steps p.tables e below (T144.setTop (mkF m 128 #[.val (.long p1), .second, .val (.long p2), .second, .val (.int p3), .val (.int p4), .val (.int p5), .val (.long ((p4.toInt64) &&& (8191 : Int64))), .second, .val (.ref b106), .unset, .unset, .unset, .unset, .unset, .unset, .unset, .unset, .unset, .unset] [(.int (8 : Int32)), (.ref b106)])) _
    refine XS.aload X144.here hx rfl (hb hby at_128) rfl rfl ?_
    show Steps p.tables e below (T144.setTop (mkF m 130 #[.val (.long p1), .second, .val (.long p2), .second, .val (.int p3), .val (.int p4), .val (.int p5), .val (.long ((p4.toInt64) &&& (8191 : Int64))), .second, .val (.ref b106), .unset, .unset, .unset, .unset, .unset, .unset, .unset, .unset, .unset, .unset] [(.ref b106), (.int (8 : Int32)), (.ref b106)])) _
    refine XS.bipush X144.here hx rfl (hb hby at_130) ?_
    show Steps p.tables e below (T144.setTop (mkF m 132 #[.val (.long p1), .second, .val (.long p2), .second, .val (.int p3), .val (.int p4), .val (.int p5), .val (.long ((p4.toInt64) &&& (8191 : Int64))), .second, .val (.ref b106), .unset, .unset, .unset, .unset, .unset, .unset, .unset, .unset, .unset, .unset] [(.int (7 : Int32)), (.ref b106), (.int (8 : Int32)), (.ref b106)])) _
    refine ldJ X144 hx hZ e144 G145 ix146.1 ix146.2 (g := (mkF m 132 #[.val (.long p1), .second, .val (.long p2), .second, .val (.int p3), .val (.int p4), .val (.int p5), .val (.long ((p4.toInt64) &&& (8191 : Int64))), .second, .val (.ref b106), .unset, .unset, .unset, .unset, .unset, .unset, .unset, .unset, .unset, .unset] [(.int (7 : Int32)), (.ref b106), (.int (8 : Int32)), (.ref b106)])) rfl rfl (hb hby at_132) _ ?_
    show Steps p.tables e below (T144.setTop (mkF m 133 #[.val (.long p1), .second, .val (.long p2), .second, .val (.int p3), .val (.int p4), .val (.int p5), .val (.long ((p4.toInt64) &&& (8191 : Int64))), .second, .val (.ref b106), .unset, .unset, .unset, .unset, .unset, .unset, .unset, .unset, .unset, .unset] [(.long ((((((((p1 >>> ((1 : Int32) &&& 0x3f).toInt64) + (gapF p2 (0 : Int32))) + (gapF p2 (1 : Int32))) + (gapF p2 (2 : Int32))) + (gapF p2 (3 : Int32))) + (gapF p2 (4 : Int32))) + (gapF p2 (5 : Int32))) + (gapF p2 (6 : Int32)))), (.int (8 : Int32)), (.ref b106)])) _
    refine XS.lloadN X144.here hx rfl (hb hby at_133) rfl ?_
    show Steps p.tables e below (T144.setTop (mkF m 134 #[.val (.long p1), .second, .val (.long p2), .second, .val (.int p3), .val (.int p4), .val (.int p5), .val (.long ((p4.toInt64) &&& (8191 : Int64))), .second, .val (.ref b106), .unset, .unset, .unset, .unset, .unset, .unset, .unset, .unset, .unset, .unset] [(.long p2), (.long ((((((((p1 >>> ((1 : Int32) &&& 0x3f).toInt64) + (gapF p2 (0 : Int32))) + (gapF p2 (1 : Int32))) + (gapF p2 (2 : Int32))) + (gapF p2 (3 : Int32))) + (gapF p2 (4 : Int32))) + (gapF p2 (5 : Int32))) + (gapF p2 (6 : Int32)))), (.int (8 : Int32)), (.ref b106)])) _
    refine XS.bipush X144.here hx rfl (hb hby at_134) ?_
    show Steps p.tables e below (T144.setTop (mkF m 136 #[.val (.long p1), .second, .val (.long p2), .second, .val (.int p3), .val (.int p4), .val (.int p5), .val (.long ((p4.toInt64) &&& (8191 : Int64))), .second, .val (.ref b106), .unset, .unset, .unset, .unset, .unset, .unset, .unset, .unset, .unset, .unset] [(.int (7 : Int32)), (.long p2), (.long ((((((((p1 >>> ((1 : Int32) &&& 0x3f).toInt64) + (gapF p2 (0 : Int32))) + (gapF p2 (1 : Int32))) + (gapF p2 (2 : Int32))) + (gapF p2 (3 : Int32))) + (gapF p2 (4 : Int32))) + (gapF p2 (5 : Int32))) + (gapF p2 (6 : Int32)))), (.int (8 : Int32)), (.ref b106)])) _
    refine st147 _ ?_
    show Steps p.tables e below (T147.setTop (mkF m 139 #[.val (.long p1), .second, .val (.long p2), .second, .val (.int p3), .val (.int p4), .val (.int p5), .val (.long ((p4.toInt64) &&& (8191 : Int64))), .second, .val (.ref b106), .unset, .unset, .unset, .unset, .unset, .unset, .unset, .unset, .unset, .unset] [(.long (gapF p2 (7 : Int32))), (.long ((((((((p1 >>> ((1 : Int32) &&& 0x3f).toInt64) + (gapF p2 (0 : Int32))) + (gapF p2 (1 : Int32))) + (gapF p2 (2 : Int32))) + (gapF p2 (3 : Int32))) + (gapF p2 (4 : Int32))) + (gapF p2 (5 : Int32))) + (gapF p2 (6 : Int32)))), (.int (8 : Int32)), (.ref b106)])) _
    refine XS.ladd X147.here hx rfl (hb hby at_139) rfl ?_
    show Steps p.tables e below (T147.setTop (mkF m 140 #[.val (.long p1), .second, .val (.long p2), .second, .val (.int p3), .val (.int p4), .val (.int p5), .val (.long ((p4.toInt64) &&& (8191 : Int64))), .second, .val (.ref b106), .unset, .unset, .unset, .unset, .unset, .unset, .unset, .unset, .unset, .unset] [(.long (((((((((p1 >>> ((1 : Int32) &&& 0x3f).toInt64) + (gapF p2 (0 : Int32))) + (gapF p2 (1 : Int32))) + (gapF p2 (2 : Int32))) + (gapF p2 (3 : Int32))) + (gapF p2 (4 : Int32))) + (gapF p2 (5 : Int32))) + (gapF p2 (6 : Int32))) + (gapF p2 (7 : Int32)))), (.int (8 : Int32)), (.ref b106)])) _
    refine st149 _ ?_
    show Steps p.tables e below (T149.setTop (mkF m 141 #[.val (.long p1), .second, .val (.long p2), .second, .val (.int p3), .val (.int p4), .val (.int p5), .val (.long ((p4.toInt64) &&& (8191 : Int64))), .second, .val (.ref b106), .unset, .unset, .unset, .unset, .unset, .unset, .unset, .unset, .unset, .unset] [])) _
    refine XS.aload X149.here hx rfl (hb hby at_141) rfl rfl ?_
    show Steps p.tables e below (T149.setTop (mkF m 143 #[.val (.long p1), .second, .val (.long p2), .second, .val (.int p3), .val (.int p4), .val (.int p5), .val (.long ((p4.toInt64) &&& (8191 : Int64))), .second, .val (.ref b106), .unset, .unset, .unset, .unset, .unset, .unset, .unset, .unset, .unset, .unset] [(.ref b106)])) _
    refine XS.bipush X149.here hx rfl (hb hby at_143) ?_
    show Steps p.tables e below (T149.setTop (mkF m 145 #[.val (.long p1), .second, .val (.long p2), .second, .val (.int p3), .val (.int p4), .val (.int p5), .val (.long ((p4.toInt64) &&& (8191 : Int64))), .second, .val (.ref b106), .unset, .unset, .unset, .unset, .unset, .unset, .unset, .unset, .unset, .unset] [(.int (9 : Int32)), (.ref b106)])) _
    refine XS.aload X149.here hx rfl (hb hby at_145) rfl rfl ?_
    show Steps p.tables e below (T149.setTop (mkF m 147 #[.val (.long p1), .second, .val (.long p2), .second, .val (.int p3), .val (.int p4), .val (.int p5), .val (.long ((p4.toInt64) &&& (8191 : Int64))), .second, .val (.ref b106), .unset, .unset, .unset, .unset, .unset, .unset, .unset, .unset, .unset, .unset] [(.ref b106), (.int (9 : Int32)), (.ref b106)])) _
    refine XS.bipush X149.here hx rfl (hb hby at_147) ?_
    show Steps p.tables e below (T149.setTop (mkF m 149 #[.val (.long p1), .second, .val (.long p2), .second, .val (.int p3), .val (.int p4), .val (.int p5), .val (.long ((p4.toInt64) &&& (8191 : Int64))), .second, .val (.ref b106), .unset, .unset, .unset, .unset, .unset, .unset, .unset, .unset, .unset, .unset] [(.int (8 : Int32)), (.ref b106), (.int (9 : Int32)), (.ref b106)])) _
    refine ldJ X149 hx hZ e149 G150 ix151.1 ix151.2 (g := (mkF m 149 #[.val (.long p1), .second, .val (.long p2), .second, .val (.int p3), .val (.int p4), .val (.int p5), .val (.long ((p4.toInt64) &&& (8191 : Int64))), .second, .val (.ref b106), .unset, .unset, .unset, .unset, .unset, .unset, .unset, .unset, .unset, .unset] [(.int (8 : Int32)), (.ref b106), (.int (9 : Int32)), (.ref b106)])) rfl rfl (hb hby at_149) _ ?_
    show Steps p.tables e below (T149.setTop (mkF m 150 #[.val (.long p1), .second, .val (.long p2), .second, .val (.int p3), .val (.int p4), .val (.int p5), .val (.long ((p4.toInt64) &&& (8191 : Int64))), .second, .val (.ref b106), .unset, .unset, .unset, .unset, .unset, .unset, .unset, .unset, .unset, .unset] [(.long (((((((((p1 >>> ((1 : Int32) &&& 0x3f).toInt64) + (gapF p2 (0 : Int32))) + (gapF p2 (1 : Int32))) + (gapF p2 (2 : Int32))) + (gapF p2 (3 : Int32))) + (gapF p2 (4 : Int32))) + (gapF p2 (5 : Int32))) + (gapF p2 (6 : Int32))) + (gapF p2 (7 : Int32)))), (.int (9 : Int32)), (.ref b106)])) _
    refine X149.ldc2Long hx hown (mvT hZ (hw _ (List.mem_of_getElem? (i := 6) rfl))) (g := (mkF m 150 #[.val (.long p1), .second, .val (.long p2), .second, .val (.int p3), .val (.int p4), .val (.int p5), .val (.long ((p4.toInt64) &&& (8191 : Int64))), .second, .val (.ref b106), .unset, .unset, .unset, .unset, .unset, .unset, .unset, .unset, .unset, .unset] [(.long (((((((((p1 >>> ((1 : Int32) &&& 0x3f).toInt64) + (gapF p2 (0 : Int32))) + (gapF p2 (1 : Int32))) + (gapF p2 (2 : Int32))) + (gapF p2 (3 : Int32))) + (gapF p2 (4 : Int32))) + (gapF p2 (5 : Int32))) + (gapF p2 (6 : Int32))) + (gapF p2 (7 : Int32)))), (.int (9 : Int32)), (.ref b106)])) rfl (hb hby at_150) _ ?_
    show Steps p.tables e below (T149.setTop (mkF m 153 #[.val (.long p1), .second, .val (.long p2), .second, .val (.int p3), .val (.int p4), .val (.int p5), .val (.long ((p4.toInt64) &&& (8191 : Int64))), .second, .val (.ref b106), .unset, .unset, .unset, .unset, .unset, .unset, .unset, .unset, .unset, .unset] [(.long (2 : Int64)), (.long (((((((((p1 >>> ((1 : Int32) &&& 0x3f).toInt64) + (gapF p2 (0 : Int32))) + (gapF p2 (1 : Int32))) + (gapF p2 (2 : Int32))) + (gapF p2 (3 : Int32))) + (gapF p2 (4 : Int32))) + (gapF p2 (5 : Int32))) + (gapF p2 (6 : Int32))) + (gapF p2 (7 : Int32)))), (.int (9 : Int32)), (.ref b106)])) _
    refine XS.iload X149.here hx rfl (hb hby at_153) rfl ?_
    show Steps p.tables e below (T149.setTop (mkF m 155 #[.val (.long p1), .second, .val (.long p2), .second, .val (.int p3), .val (.int p4), .val (.int p5), .val (.long ((p4.toInt64) &&& (8191 : Int64))), .second, .val (.ref b106), .unset, .unset, .unset, .unset, .unset, .unset, .unset, .unset, .unset, .unset] [(.int p3), (.long (2 : Int64)), (.long (((((((((p1 >>> ((1 : Int32) &&& 0x3f).toInt64) + (gapF p2 (0 : Int32))) + (gapF p2 (1 : Int32))) + (gapF p2 (2 : Int32))) + (gapF p2 (3 : Int32))) + (gapF p2 (4 : Int32))) + (gapF p2 (5 : Int32))) + (gapF p2 (6 : Int32))) + (gapF p2 (7 : Int32)))), (.int (9 : Int32)), (.ref b106)])) _
    refine XS.i2l X149.here hx rfl (hb hby at_155) rfl ?_
    show Steps p.tables e below (T149.setTop (mkF m 156 #[.val (.long p1), .second, .val (.long p2), .second, .val (.int p3), .val (.int p4), .val (.int p5), .val (.long ((p4.toInt64) &&& (8191 : Int64))), .second, .val (.ref b106), .unset, .unset, .unset, .unset, .unset, .unset, .unset, .unset, .unset, .unset] [(.long (p3.toInt64)), (.long (2 : Int64)), (.long (((((((((p1 >>> ((1 : Int32) &&& 0x3f).toInt64) + (gapF p2 (0 : Int32))) + (gapF p2 (1 : Int32))) + (gapF p2 (2 : Int32))) + (gapF p2 (3 : Int32))) + (gapF p2 (4 : Int32))) + (gapF p2 (5 : Int32))) + (gapF p2 (6 : Int32))) + (gapF p2 (7 : Int32)))), (.int (9 : Int32)), (.ref b106)])) _
    refine X149.ldc2Long hx hown (mvT hZ (hw _ (List.mem_of_getElem? (i := 7) rfl))) (g := (mkF m 156 #[.val (.long p1), .second, .val (.long p2), .second, .val (.int p3), .val (.int p4), .val (.int p5), .val (.long ((p4.toInt64) &&& (8191 : Int64))), .second, .val (.ref b106), .unset, .unset, .unset, .unset, .unset, .unset, .unset, .unset, .unset, .unset] [(.long (p3.toInt64)), (.long (2 : Int64)), (.long (((((((((p1 >>> ((1 : Int32) &&& 0x3f).toInt64) + (gapF p2 (0 : Int32))) + (gapF p2 (1 : Int32))) + (gapF p2 (2 : Int32))) + (gapF p2 (3 : Int32))) + (gapF p2 (4 : Int32))) + (gapF p2 (5 : Int32))) + (gapF p2 (6 : Int32))) + (gapF p2 (7 : Int32)))), (.int (9 : Int32)), (.ref b106)])) rfl (hb hby at_156) _ ?_
    show Steps p.tables e below (T149.setTop (mkF m 159 #[.val (.long p1), .second, .val (.long p2), .second, .val (.int p3), .val (.int p4), .val (.int p5), .val (.long ((p4.toInt64) &&& (8191 : Int64))), .second, .val (.ref b106), .unset, .unset, .unset, .unset, .unset, .unset, .unset, .unset, .unset, .unset] [(.long (255 : Int64)), (.long (p3.toInt64)), (.long (2 : Int64)), (.long (((((((((p1 >>> ((1 : Int32) &&& 0x3f).toInt64) + (gapF p2 (0 : Int32))) + (gapF p2 (1 : Int32))) + (gapF p2 (2 : Int32))) + (gapF p2 (3 : Int32))) + (gapF p2 (4 : Int32))) + (gapF p2 (5 : Int32))) + (gapF p2 (6 : Int32))) + (gapF p2 (7 : Int32)))), (.int (9 : Int32)), (.ref b106)])) _
    refine XS.land X149.here hx rfl (hb hby at_159) rfl ?_
    show Steps p.tables e below (T149.setTop (mkF m 160 #[.val (.long p1), .second, .val (.long p2), .second, .val (.int p3), .val (.int p4), .val (.int p5), .val (.long ((p4.toInt64) &&& (8191 : Int64))), .second, .val (.ref b106), .unset, .unset, .unset, .unset, .unset, .unset, .unset, .unset, .unset, .unset] [(.long ((p3.toInt64) &&& (255 : Int64))), (.long (2 : Int64)), (.long (((((((((p1 >>> ((1 : Int32) &&& 0x3f).toInt64) + (gapF p2 (0 : Int32))) + (gapF p2 (1 : Int32))) + (gapF p2 (2 : Int32))) + (gapF p2 (3 : Int32))) + (gapF p2 (4 : Int32))) + (gapF p2 (5 : Int32))) + (gapF p2 (6 : Int32))) + (gapF p2 (7 : Int32)))), (.int (9 : Int32)), (.ref b106)])) _
    refine XS.lconst X149.here hx rfl (hb hby at_160) ?_
    show Steps p.tables e below (T149.setTop (mkF m 161 #[.val (.long p1), .second, .val (.long p2), .second, .val (.int p3), .val (.int p4), .val (.int p5), .val (.long ((p4.toInt64) &&& (8191 : Int64))), .second, .val (.ref b106), .unset, .unset, .unset, .unset, .unset, .unset, .unset, .unset, .unset, .unset] [(.long (1 : Int64)), (.long ((p3.toInt64) &&& (255 : Int64))), (.long (2 : Int64)), (.long (((((((((p1 >>> ((1 : Int32) &&& 0x3f).toInt64) + (gapF p2 (0 : Int32))) + (gapF p2 (1 : Int32))) + (gapF p2 (2 : Int32))) + (gapF p2 (3 : Int32))) + (gapF p2 (4 : Int32))) + (gapF p2 (5 : Int32))) + (gapF p2 (6 : Int32))) + (gapF p2 (7 : Int32)))), (.int (9 : Int32)), (.ref b106)])) _
    refine XS.ladd X149.here hx rfl (hb hby at_161) rfl ?_
    show Steps p.tables e below (T149.setTop (mkF m 162 #[.val (.long p1), .second, .val (.long p2), .second, .val (.int p3), .val (.int p4), .val (.int p5), .val (.long ((p4.toInt64) &&& (8191 : Int64))), .second, .val (.ref b106), .unset, .unset, .unset, .unset, .unset, .unset, .unset, .unset, .unset, .unset] [(.long (((p3.toInt64) &&& (255 : Int64)) + (1 : Int64))), (.long (2 : Int64)), (.long (((((((((p1 >>> ((1 : Int32) &&& 0x3f).toInt64) + (gapF p2 (0 : Int32))) + (gapF p2 (1 : Int32))) + (gapF p2 (2 : Int32))) + (gapF p2 (3 : Int32))) + (gapF p2 (4 : Int32))) + (gapF p2 (5 : Int32))) + (gapF p2 (6 : Int32))) + (gapF p2 (7 : Int32)))), (.int (9 : Int32)), (.ref b106)])) _
    refine XS.lmul X149.here hx rfl (hb hby at_162) rfl ?_
    show Steps p.tables e below (T149.setTop (mkF m 163 #[.val (.long p1), .second, .val (.long p2), .second, .val (.int p3), .val (.int p4), .val (.int p5), .val (.long ((p4.toInt64) &&& (8191 : Int64))), .second, .val (.ref b106), .unset, .unset, .unset, .unset, .unset, .unset, .unset, .unset, .unset, .unset] [(.long ((2 : Int64) * (((p3.toInt64) &&& (255 : Int64)) + (1 : Int64)))), (.long (((((((((p1 >>> ((1 : Int32) &&& 0x3f).toInt64) + (gapF p2 (0 : Int32))) + (gapF p2 (1 : Int32))) + (gapF p2 (2 : Int32))) + (gapF p2 (3 : Int32))) + (gapF p2 (4 : Int32))) + (gapF p2 (5 : Int32))) + (gapF p2 (6 : Int32))) + (gapF p2 (7 : Int32)))), (.int (9 : Int32)), (.ref b106)])) _
    refine XS.ladd X149.here hx rfl (hb hby at_163) rfl ?_
    show Steps p.tables e below (T149.setTop (mkF m 164 #[.val (.long p1), .second, .val (.long p2), .second, .val (.int p3), .val (.int p4), .val (.int p5), .val (.long ((p4.toInt64) &&& (8191 : Int64))), .second, .val (.ref b106), .unset, .unset, .unset, .unset, .unset, .unset, .unset, .unset, .unset, .unset] [(.long ((((((((((p1 >>> ((1 : Int32) &&& 0x3f).toInt64) + (gapF p2 (0 : Int32))) + (gapF p2 (1 : Int32))) + (gapF p2 (2 : Int32))) + (gapF p2 (3 : Int32))) + (gapF p2 (4 : Int32))) + (gapF p2 (5 : Int32))) + (gapF p2 (6 : Int32))) + (gapF p2 (7 : Int32))) + ((2 : Int64) * (((p3.toInt64) &&& (255 : Int64)) + (1 : Int64))))), (.int (9 : Int32)), (.ref b106)])) _
    refine st153 _ ?_
    exact kt
  have hz : own_SS 9 [(p1 >>> ((1 : Int32) &&& 0x3f).toInt64), ((p1 >>> ((1 : Int32) &&& 0x3f).toInt64) + (gapF p2 (0 : Int32))), (((p1 >>> ((1 : Int32) &&& 0x3f).toInt64) + (gapF p2 (0 : Int32))) + (gapF p2 (1 : Int32))), ((((p1 >>> ((1 : Int32) &&& 0x3f).toInt64) + (gapF p2 (0 : Int32))) + (gapF p2 (1 : Int32))) + (gapF p2 (2 : Int32))), (((((p1 >>> ((1 : Int32) &&& 0x3f).toInt64) + (gapF p2 (0 : Int32))) + (gapF p2 (1 : Int32))) + (gapF p2 (2 : Int32))) + (gapF p2 (3 : Int32))), ((((((p1 >>> ((1 : Int32) &&& 0x3f).toInt64) + (gapF p2 (0 : Int32))) + (gapF p2 (1 : Int32))) + (gapF p2 (2 : Int32))) + (gapF p2 (3 : Int32))) + (gapF p2 (4 : Int32))), (((((((p1 >>> ((1 : Int32) &&& 0x3f).toInt64) + (gapF p2 (0 : Int32))) + (gapF p2 (1 : Int32))) + (gapF p2 (2 : Int32))) + (gapF p2 (3 : Int32))) + (gapF p2 (4 : Int32))) + (gapF p2 (5 : Int32))), ((((((((p1 >>> ((1 : Int32) &&& 0x3f).toInt64) + (gapF p2 (0 : Int32))) + (gapF p2 (1 : Int32))) + (gapF p2 (2 : Int32))) + (gapF p2 (3 : Int32))) + (gapF p2 (4 : Int32))) + (gapF p2 (5 : Int32))) + (gapF p2 (6 : Int32))), (((((((((p1 >>> ((1 : Int32) &&& 0x3f).toInt64) + (gapF p2 (0 : Int32))) + (gapF p2 (1 : Int32))) + (gapF p2 (2 : Int32))) + (gapF p2 (3 : Int32))) + (gapF p2 (4 : Int32))) + (gapF p2 (5 : Int32))) + (gapF p2 (6 : Int32))) + (gapF p2 (7 : Int32))), ((((((((((p1 >>> ((1 : Int32) &&& 0x3f).toInt64) + (gapF p2 (0 : Int32))) + (gapF p2 (1 : Int32))) + (gapF p2 (2 : Int32))) + (gapF p2 (3 : Int32))) + (gapF p2 (4 : Int32))) + (gapF p2 (5 : Int32))) + (gapF p2 (6 : Int32))) + (gapF p2 (7 : Int32))) + ((2 : Int64) * (((p3.toInt64) &&& (255 : Int64)) + (1 : Int64))))] := own_t9 (own_hf p1) ⟨_, own_gap _ _, rfl⟩ ⟨_, own_gap _ _, rfl⟩ ⟨_, own_gap _ _, rfl⟩ ⟨_, own_gap _ _, rfl⟩ ⟨_, own_gap _ _, rfl⟩ ⟨_, own_gap _ _, rfl⟩ ⟨_, own_gap _ _, rfl⟩ ⟨_, own_gap _ _, rfl⟩ ⟨_, own_2x _, rfl⟩
  exact S165 _ _ _ _ X153 (Nat.le_trans (Nat.add_le_add_right (Nat.add_le_add_right (Nat.add_le_add_right (Nat.add_le_add_right (Nat.add_le_add_right (Nat.add_le_add_right (Nat.add_le_add_right (Nat.add_le_add_right (Nat.add_le_add_right (Nat.le_refl 0) 1) 0) 0) 0) 0) 0) 0) 0) 0) (by decide)) (Nat.le_trans (Nat.add_le_add_right (Nat.add_le_add_right (Nat.add_le_add_right (Nat.add_le_add_right (Nat.add_le_add_right (Nat.add_le_add_right (Nat.add_le_add_right (Nat.add_le_add_right (Nat.add_le_add_right (Nat.le_refl 0) 10) 0) 0) 0) 0) 0) 0) 0) 0) (by decide)) h153 e153 N153 ((p4.toInt64) &&& (8191 : Int64)) b106 [(p1 >>> ((1 : Int32) &&& 0x3f).toInt64), ((p1 >>> ((1 : Int32) &&& 0x3f).toInt64) + (gapF p2 (0 : Int32))), (((p1 >>> ((1 : Int32) &&& 0x3f).toInt64) + (gapF p2 (0 : Int32))) + (gapF p2 (1 : Int32))), ((((p1 >>> ((1 : Int32) &&& 0x3f).toInt64) + (gapF p2 (0 : Int32))) + (gapF p2 (1 : Int32))) + (gapF p2 (2 : Int32))), (((((p1 >>> ((1 : Int32) &&& 0x3f).toInt64) + (gapF p2 (0 : Int32))) + (gapF p2 (1 : Int32))) + (gapF p2 (2 : Int32))) + (gapF p2 (3 : Int32))), ((((((p1 >>> ((1 : Int32) &&& 0x3f).toInt64) + (gapF p2 (0 : Int32))) + (gapF p2 (1 : Int32))) + (gapF p2 (2 : Int32))) + (gapF p2 (3 : Int32))) + (gapF p2 (4 : Int32))), (((((((p1 >>> ((1 : Int32) &&& 0x3f).toInt64) + (gapF p2 (0 : Int32))) + (gapF p2 (1 : Int32))) + (gapF p2 (2 : Int32))) + (gapF p2 (3 : Int32))) + (gapF p2 (4 : Int32))) + (gapF p2 (5 : Int32))), ((((((((p1 >>> ((1 : Int32) &&& 0x3f).toInt64) + (gapF p2 (0 : Int32))) + (gapF p2 (1 : Int32))) + (gapF p2 (2 : Int32))) + (gapF p2 (3 : Int32))) + (gapF p2 (4 : Int32))) + (gapF p2 (5 : Int32))) + (gapF p2 (6 : Int32))), (((((((((p1 >>> ((1 : Int32) &&& 0x3f).toInt64) + (gapF p2 (0 : Int32))) + (gapF p2 (1 : Int32))) + (gapF p2 (2 : Int32))) + (gapF p2 (3 : Int32))) + (gapF p2 (4 : Int32))) + (gapF p2 (5 : Int32))) + (gapF p2 (6 : Int32))) + (gapF p2 (7 : Int32))), ((((((((((p1 >>> ((1 : Int32) &&& 0x3f).toInt64) + (gapF p2 (0 : Int32))) + (gapF p2 (1 : Int32))) + (gapF p2 (2 : Int32))) + (gapF p2 (3 : Int32))) + (gapF p2 (4 : Int32))) + (gapF p2 (5 : Int32))) + (gapF p2 (6 : Int32))) + (gapF p2 (7 : Int32))) + ((2 : Int64) * (((p3.toInt64) &&& (255 : Int64)) + (1 : Int64))))] K153 G154 g_b106 sz_b106 hz (own_t7 _)
set_option maxRecDepth 65536 in
set_option maxHeartbeats 40000000 in
theorem comes_1 {Post : Tables → Env → Array Value → State → Outcome → State → Prop} (hpost : ∀ tb e args s v u, (limb_1_1.after args s (.returned v) u = true ∧ limb_1_2.after args s (.returned v) u = true ∧ True) → FrameEnd s (.returned v) u (Jvm.fieldLocs frame_1_writes args s ++ Jvm.arrayLocs frame_1_arrays args s ++ Jvm.staticLocs frame_1_statics s) 24 192 → Post tb e args s (.returned v) u) :
    ArmFor flags0 classFile x code maxLocals ret World_1 tables_1 room_1 Calls_1 rest_1 Pre_1 Post := by
  intro l hfl _ _ p e ha hc hk s m args below hf hA hF happ hP
  obtain ⟨hcalls, hrest, hpre⟩ := hP
  obtain ⟨-, -, -, hnamed, -, -, -, hat⟩ := (Spec.applies_iff hf).mp happ
  obtain ⟨hg, hn⟩ := and_e (Cond.before_iff.mp (show (Jvm.Cond.and given_1 narrow_1).before args s = true from hpre))
  obtain ⟨g1, g2⟩ := and_e hg
  obtain ⟨g3, g4⟩ := and_e g2
  obtain ⟨g5, g6⟩ := and_e g4
  obtain ⟨g7, g8⟩ := and_e g6
  obtain ⟨g9, g10⟩ := and_e g8
  obtain ⟨w0, w1, w2, w3, w4, rfl⟩ : ∃ w0 w1 w2 w3 w4 : Value, args = #[w0, w1, w2, w3, w4] := by
    have hs : args.size = 5 := by simpa [Cond.value, given_1] using g1
    obtain ⟨L⟩ := args
    match L, hs with
    | [w0, w1, w2, w3, w4], _ => exact ⟨w0, w1, w2, w3, w4, rfl⟩
  have hw := fun d (hd : d ∈ tables_1) => atoms_spec (ws := Jvm.Cond.code x code maxLocals ret :: tables_1) hat d (List.mem_cons_of_mem _ hd)
  obtain ⟨i0, ei0⟩ := isL_v g3
  obtain rfl : w0 = (.long i0) := Option.some.inj ei0
  obtain ⟨i1, ei1⟩ := isL_v g5
  obtain rfl : w1 = (.long i1) := Option.some.inj ei1
  obtain ⟨i2, ei2⟩ := is_v g7
  obtain rfl : w2 = (.int i2) := Option.some.inj ei2
  obtain ⟨i3, ei3⟩ := is_v g9
  obtain rfl : w3 = (.int i3) := Option.some.inj ei3
  obtain ⟨i4, ei4⟩ := is_v g10
  obtain rfl : w4 = (.int i4) := Option.some.inj ei4
  obtain ⟨n, o, h1, h2, h3, _, L, rfl, ⟨hv, N⟩, hq⟩ := rm_0 l s _ hw tables_1 i0 i1 i2 i3 i4  s.heap s.heap.size (Nat.le_refl _)  p e ha hc hk s m _ below hf ((Spec.applies_iff_loose hf).mp happ).1 ⟨rfl, State.Warmed39.refl s, rfl⟩ trivial
  subst hv
  refine ⟨n, _, h1, h2, h3, hpost _ _ _ _ _ _ ⟨Cond.after_iff.mpr rfl, Cond.after_iff.mpr (eq_i res_at (Term.int_eval (1)) rfl), trivial⟩ ⟨hq.1, hq.2.1, (hq.2.2.sift fun y hy => Or.inr (N y hy)).mono (by decide) (by decide)⟩⟩
theorem main_1_1 : Claimed_1_1 := comes_1 fun _ _ _ _ _ _ h hF => ⟨h.1, hF⟩
theorem main_1_2 : Claimed_1_2 := comes_1 fun _ _ _ _ _ _ h hF => ⟨h.2.1, hF⟩
end Jvm.Pilot.@@N@@
namespace Jvm.Pilot.@@N@@
open Jvm Jvm.ClassFile Sem Op Lib Jvm.Free Jvm.Stand Jvm.Pilot.@@N@@.Jvm.D
/-! MADE BY PROGRAM (witnessworld.py) out of the Statement's table words and the real class files: 13 classes; the members and pool entries that the words name. The judged class is class 1, her method 3. -/
namespace start1
open Jvm.ClassFile
def u (s : String) : CpInfo := .utf8 (stringToUtf16 s)
/-- a pool by its gaps: so many unusable entries, then the entry; so many at the end -/
def gap : Nat → List CpInfo → List CpInfo
  | 0, r => r
  | n + 1, r => .unusable :: gap n r
def poolList (es : List (Nat × CpInfo)) (last : Nat) : List CpInfo := es.foldr (fun e r => gap e.1 (e.2 :: r)) (gap last [])
def pool (es : List (Nat × CpInfo)) (last : Nat) : Array CpInfo := ⟨poolList es last⟩
def fileOf (pool : Array CpInfo) (this : Nat) (attrs : Array Attribute := #[]) (ms : Array MethodInfo := #[]) (fl : Nat := 33) (sup : Nat := 0) (ifs : Array Nat := #[]) (fds : Array FieldInfo := #[]) : ClassFile where
  minorVersion := 0
  majorVersion := 65
  constantPool := pool
  accessFlags := fl
  thisClass := this
  superClass := sup
  interfaces := ifs
  fields := fds
  methods := ms
  attributes := attrs
def plain (name : String) (sup : Option ClassId) : Class where
  name := name
  kind := .ordinary
  loader := none
  accessFlags := 33
  super := sup
  interfaces := #[]
  cf := none
  fields := #[]
  methods := #[]
  instanceTypes := #[]
  staticTypes := #[]
  resolved := #[]
  callSites := []
  init := .initialized
  statics := none
  mirror := none

def pool0 : Array CpInfo := pool [(5, u "<init>"), (0, u "()V"), (1, .class_ 10), (1, u "java/lang/Object")] 113

def k0c0 : Code := { maxStack := 0, maxLocals := 1, code := object_method_1_code, exceptionTable := #[], attributes := #[] }
def k0m0 : Method := { name := "<init>", desc := "()V", sig := { parameters := [], returnType := none }, accessFlags := 1, code := some k0c0 }
/-- java/lang/Object -/
def k0 : Class := { plain "java/lang/Object" none with
  accessFlags := 33
  interfaces := #[]
  cf := some (fileOf pool0 8 #[] #[{ accessFlags := 1, nameIndex := 5, descriptorIndex := 6, attributes := #[] }] 33 0 #[] #[])
  fields := #[]
  methods := #[k0m0]
  instanceTypes := #[]
  staticTypes := #[]
  resolved := Array.replicate 124 none
  statics := none }

def pool1 : Array CpInfo := pool [(2, .class_ 4), (1, u "java/lang/Object"), (0, u "<init>"), (0, u "()V"), (0, .long 2), (1, .long 255), (1, .long 8191), (1, .methodref 14 15), (0, .class_ 16), (0, .nameAndType 17 18), (0, u "com/example/talthybius/talthybius/AwaitedPingsSentPinLaw"), (0, u "gap"), (0, u "(JI)J"), (0, .class_ 20), (0, u "com/example/talthybius/talthybius/AwaitedPings"), (0, .methodref 19 22), (0, .nameAndType 5 23), (0, u "(J)V"), (0, .methodref 19 25), (0, .nameAndType 26 23), (0, u "sent"), (0, .methodref 14 28), (0, .nameAndType 29 30), (0, u "alive"), (0, u "(JJJ)I"), (0, .integer 2147483647), (0, .methodref 19 33), (0, .nameAndType 34 35), (0, u "size"), (0, u "()I"), (0, .methodref 19 37), (0, .nameAndType 38 39), (0, u "answer"), (0, u "(JJ)Z"), (3, u "law"), (0, u "(JJIII)Z")] 4

def k1m0 : Method := { name := "<init>", desc := "()V", sig := { parameters := [], returnType := none }, accessFlags := 1, code := none }
def k1c1 : Code := { maxStack := 6, maxLocals := 3, code := method_2_code, exceptionTable := #[], attributes := #[] }
def k1m1 : Method := { name := "gap", desc := "(JI)J", sig := { parameters := [.long, .int], returnType := some .long }, accessFlags := 10, code := some k1c1 }
def k1c2 : Code := { maxStack := 4, maxLocals := 6, code := method_3_code, exceptionTable := #[], attributes := #[] }
def k1m2 : Method := { name := "alive", desc := "(JJJ)I", sig := { parameters := [.long, .long, .long], returnType := some .int }, accessFlags := 10, code := some k1c2 }
def k1c3 : Code := { maxStack := 10, maxLocals := 20, code := code, exceptionTable := #[], attributes := #[] }
def k1m3 : Method := { name := "law", desc := "(JJIII)Z", sig := { parameters := [.long, .long, .int, .int, .int], returnType := some .boolean }, accessFlags := 9, code := some k1c3 }
/-- com/example/talthybius/talthybius/AwaitedPingsSentPinLaw -/
def k1 : Class := { plain "com/example/talthybius/talthybius/AwaitedPingsSentPinLaw" (some 0) with
  accessFlags := 49
  interfaces := #[]
  cf := some (fileOf pool1 14 #[] #[{ accessFlags := 1, nameIndex := 5, descriptorIndex := 6, attributes := #[] }, { accessFlags := 10, nameIndex := 17, descriptorIndex := 18, attributes := #[] }, { accessFlags := 10, nameIndex := 29, descriptorIndex := 30, attributes := #[] }, { accessFlags := 9, nameIndex := 43, descriptorIndex := 44, attributes := #[] }] 49 2 #[] #[])
  fields := #[]
  methods := #[k1m0, k1m1, k1m2, k1m3]
  instanceTypes := #[]
  staticTypes := #[]
  resolved := Array.replicate 49 none
  statics := none }

def pool2 : Array CpInfo := pool [(1, .methodref 2 3), (0, .class_ 4), (0, .nameAndType 5 6), (0, u "java/lang/Object"), (0, u "<init>"), (0, u "()V"), (0, .class_ 8), (0, u "com/example/talthybius/talthybius/AwaitedPings"), (0, .fieldref 7 10), (0, .nameAndType 11 12), (0, u "sentAt"), (0, u "[J"), (0, .fieldref 7 14), (0, .nameAndType 15 16), (0, u "answered"), (0, u "[Z"), (0, .fieldref 7 18), (0, .nameAndType 19 20), (0, u "timeoutNanos"), (0, u "J"), (0, .methodref 7 22), (0, .nameAndType 23 24), (0, u "forget"), (0, u "(J)V"), (0, .fieldref 7 26), (0, .nameAndType 27 28), (0, u "count"), (0, u "I"), (0, .methodref 7 30), (0, .nameAndType 31 6), (0, u "grow"), (0, .methodref 7 33), (0, .nameAndType 34 35), (0, u "placeOf"), (0, u "(I)I"), (0, .methodref 7 37), (0, .nameAndType 38 39), (0, u "find"), (0, u "(J)I"), (0, .fieldref 7 41), (0, .nameAndType 42 28), (0, u "oldest"), (0, u "FIRST_CAPACITY"), (4, u "sent"), (1, u "answer"), (0, u "(JJ)Z"), (0, u "size"), (0, u "()I")] 4

def k2c0 : Code := { maxStack := 3, maxLocals := 3, code := prog_10_method_1_code, exceptionTable := #[], attributes := #[] }
def k2m0 : Method := { name := "<init>", desc := "(J)V", sig := { parameters := [.long], returnType := none }, accessFlags := 0, code := some k2c0 }
def k2c1 : Code := { maxStack := 4, maxLocals := 4, code := prog_10_method_2_code, exceptionTable := #[], attributes := #[] }
def k2m1 : Method := { name := "sent", desc := "(J)V", sig := { parameters := [.long], returnType := none }, accessFlags := 0, code := some k2c1 }
def k2c2 : Code := { maxStack := 3, maxLocals := 7, code := prog_10_method_3_code, exceptionTable := #[], attributes := #[] }
def k2m2 : Method := { name := "answer", desc := "(JJ)Z", sig := { parameters := [.long, .long], returnType := some .boolean }, accessFlags := 0, code := some k2c2 }
def k2c3 : Code := { maxStack := 1, maxLocals := 1, code := prog_10_method_4_code, exceptionTable := #[], attributes := #[] }
def k2m3 : Method := { name := "size", desc := "()I", sig := { parameters := [], returnType := some .int }, accessFlags := 0, code := some k2c3 }
def k2c4 : Code := { maxStack := 4, maxLocals := 3, code := prog_10_method_5_code, exceptionTable := #[], attributes := #[] }
def k2m4 : Method := { name := "forget", desc := "(J)V", sig := { parameters := [.long], returnType := none }, accessFlags := 2, code := some k2c4 }
def k2c5 : Code := { maxStack := 4, maxLocals := 9, code := prog_10_method_6_code, exceptionTable := #[], attributes := #[] }
def k2m5 : Method := { name := "find", desc := "(J)I", sig := { parameters := [.long], returnType := some .int }, accessFlags := 2, code := some k2c5 }
def k2c6 : Code := { maxStack := 2, maxLocals := 3, code := prog_10_method_7_code, exceptionTable := #[], attributes := #[] }
def k2m6 : Method := { name := "placeOf", desc := "(I)I", sig := { parameters := [.int], returnType := some .int }, accessFlags := 2, code := some k2c6 }
def k2c7 : Code := { maxStack := 4, maxLocals := 5, code := prog_10_method_8_code, exceptionTable := #[], attributes := #[] }
def k2m7 : Method := { name := "grow", desc := "()V", sig := { parameters := [], returnType := none }, accessFlags := 2, code := some k2c7 }
/-- com/example/talthybius/talthybius/AwaitedPings -/
def k2 : Class := { plain "com/example/talthybius/talthybius/AwaitedPings" (some 0) with
  accessFlags := 32
  interfaces := #[]
  cf := some (fileOf pool2 7 #[] #[{ accessFlags := 0, nameIndex := 5, descriptorIndex := 24, attributes := #[] }, { accessFlags := 0, nameIndex := 48, descriptorIndex := 24, attributes := #[] }, { accessFlags := 0, nameIndex := 50, descriptorIndex := 51, attributes := #[] }, { accessFlags := 0, nameIndex := 52, descriptorIndex := 53, attributes := #[] }, { accessFlags := 2, nameIndex := 23, descriptorIndex := 24, attributes := #[] }, { accessFlags := 2, nameIndex := 38, descriptorIndex := 39, attributes := #[] }, { accessFlags := 2, nameIndex := 34, descriptorIndex := 35, attributes := #[] }, { accessFlags := 2, nameIndex := 31, descriptorIndex := 6, attributes := #[] }] 32 2 #[] #[{ accessFlags := 26, nameIndex := 43, descriptorIndex := 28, attributes := #[] }, { accessFlags := 18, nameIndex := 19, descriptorIndex := 20, attributes := #[] }, { accessFlags := 2, nameIndex := 11, descriptorIndex := 12, attributes := #[] }, { accessFlags := 2, nameIndex := 15, descriptorIndex := 16, attributes := #[] }, { accessFlags := 2, nameIndex := 42, descriptorIndex := 28, attributes := #[] }, { accessFlags := 2, nameIndex := 27, descriptorIndex := 28, attributes := #[] }])
  fields := #[{ name := "FIRST_CAPACITY", type := .int, accessFlags := 26, slot := 0, constantValue := 0 }, { name := "timeoutNanos", type := .long, accessFlags := 18, slot := 0, constantValue := 0 }, { name := "sentAt", type := (.array .long), accessFlags := 2, slot := 1, constantValue := 0 }, { name := "answered", type := (.array .boolean), accessFlags := 2, slot := 2, constantValue := 0 }, { name := "oldest", type := .int, accessFlags := 2, slot := 3, constantValue := 0 }, { name := "count", type := .int, accessFlags := 2, slot := 4, constantValue := 0 }]
  methods := #[k2m0, k2m1, k2m2, k2m3, k2m4, k2m5, k2m6, k2m7]
  instanceTypes := #[.long, (.array .long), (.array .boolean), .int, .int]
  staticTypes := #[.int]
  resolved := Array.replicate 58 none
  statics := none }

def pool3 : Array CpInfo := pool [(1, u "java/lang/Cloneable"), (0, .class_ 1), (0, u "java/lang/Object"), (0, .class_ 3)] 3

/-- java/lang/Cloneable -/
def k3 : Class := { plain "java/lang/Cloneable" (some 0) with
  accessFlags := 1537
  interfaces := #[]
  cf := some (fileOf pool3 2 #[] #[] 1537 4 #[] #[])
  fields := #[]
  methods := #[]
  instanceTypes := #[]
  staticTypes := #[]
  resolved := Array.replicate 8 none
  statics := none }

def pool4 : Array CpInfo := pool [(1, u "java/io/Serializable"), (0, .class_ 1), (0, u "java/lang/Object"), (0, .class_ 3)] 3

/-- java/io/Serializable -/
def k4 : Class := { plain "java/io/Serializable" (some 0) with
  accessFlags := 1537
  interfaces := #[]
  cf := some (fileOf pool4 2 #[] #[] 1537 4 #[] #[])
  fields := #[]
  methods := #[]
  instanceTypes := #[]
  staticTypes := #[]
  resolved := Array.replicate 8 none
  statics := none }

/-- the primitive boolean -/
def k5 : Class := { plain "boolean" none with kind := .primitive 'Z', accessFlags := 0x411 }
/-- [Z -/
def k6 : Class := { plain "[Z" (some 0) with kind := .array 5 .boolean, interfaces := #[3, 4], accessFlags := 1041 }

/-- the primitive byte -/
def k7 : Class := { plain "byte" none with kind := .primitive 'B', accessFlags := 0x411 }
/-- [B -/
def k8 : Class := { plain "[B" (some 0) with kind := .array 7 .byte, interfaces := #[3, 4], accessFlags := 1041 }

/-- the primitive int -/
def k9 : Class := { plain "int" none with kind := .primitive 'I', accessFlags := 0x411 }
/-- [I -/
def k10 : Class := { plain "[I" (some 0) with kind := .array 9 .int, interfaces := #[3, 4], accessFlags := 1041 }

/-- the primitive long -/
def k11 : Class := { plain "long" none with kind := .primitive 'J', accessFlags := 0x411 }
/-- [J -/
def k12 : Class := { plain "[J" (some 0) with kind := .array 11 .long, interfaces := #[3, 4], accessFlags := 1041 }

def heap : Heap := #[]
def classes : Array Class := #[k0, k1, k2, k3, k4, k5, k6, k7, k8, k9, k10, k11, k12]
def interned : List (Array UInt16 × Addr) := []
def slotsUsed : Nat := 0
def theMethod : MethodId := ⟨1, 3⟩
def args0 : Array Value := #[.long 5, .long 7, .int 9, .int 11, .int 3]
def aboutOver (below : List Frame) : State where
  vm := { classes := classes, interned := interned.toArray }
  heap := heap
  slotsUsed := slotsUsed
  threads := #[{ frames := .invoking theMethod args0 :: below }]
def below0 : List Frame := [.native { method := ⟨0, 0⟩, args := #[] }]
def about1 : State := aboutOver below0
def p0 : Program := .bare "" "" ""
def e0 : Env := launch0.env 0 0 0
theorem w_frames : about1.frames = Frame.invoking theMethod args0 :: below0 := rfl
set_option maxRecDepth 65536 in
theorem w_args : argsFit about1.vm theMethod args0 = true := by decide +kernel
set_option maxRecDepth 65536 in
theorem w_heap : heapFits about1 = true := by decide +kernel
set_option maxRecDepth 65536 in
theorem w_runnable : about1.curStatus? = some .runnable := by decide +kernel
set_option maxRecDepth 65536 in
theorem w_alone : about1.alone = true := by decide +kernel
set_option maxRecDepth 65536 in
theorem w_named : about1.methodNamed? x = some theMethod := by decide +kernel
set_option maxRecDepth 65536 in
theorem w_hears : about1.hears theMethod below0 = true := by decide +kernel
set_option maxRecDepth 65536 in
theorem w_ripe : about1.ripe theMethod args0 below0 = true := by decide +kernel
theorem w_running : about1.status = .running := rfl
set_option maxRecDepth 65536 in
theorem w_room : about1.hasRoom e0.platform room_1 = true :=
  launch0.hasRoom_least _ room_1 (by decide +kernel) (by decide +kernel) (by decide +kernel) (by decide +kernel) (by decide +kernel) (by decide +kernel)
theorem allAtoms_all (ts : List Jvm.Cond) (a : Array Jvm.Value) (st : Jvm.State) : (allAtoms ts).before a st = ts.all (fun c => c.before a st) := by
  induction ts with
  | nil => rfl
  | cons c t ih =>
    show (Jvm.Cond.and c (allAtoms t)).before a st = _
    rw [Jvm.Cond.before_and, ih, List.all_cons]
def words1 : List Jvm.Cond := Jvm.Cond.code x code maxLocals ret :: tables_1
/-- a 'code' word, met by the world's own term for the bytes: nothing is compared byte by byte -/
theorem code_word {y : MethodName} {bytes : ByteArray} {mx : Nat} {rt : Option FieldType} {a : Array Value} {s : State} {m : MethodId} {meth : Method} {c : Code} (h1 : s.methodNamed? y = some m) (h2 : s.vm.method? m = some meth) (h3 : meth.code = some c) (h4 : c.code = bytes)
    (h5 : (c.maxLocals == mx && c.exceptionTable.isEmpty && decide (c.maxStack ≤ mostOperands) && decide (meth.sig.returnType = rt) && !meth.locks && decide (parseMethodDescriptor y.desc = some meth.sig)) = true) : (Jvm.Cond.code y bytes mx rt).before a s = true := by
  simp only [Bool.and_eq_true, beq_iff_eq, Bool.not_eq_true', decide_eq_true_eq] at h5
  obtain ⟨⟨⟨⟨⟨g1, g2⟩, g3⟩, g4⟩, g5⟩, g6⟩ := h5
  simp [Cond.before, Cond.holds, Cond.value, h1, h2, h3, h4, g1, g2, g3, g4, g5, g6]
def isCode : Jvm.Cond → Bool
  | .code _ _ _ _ => true
  | _ => false
theorem all_split {L : List Jvm.Cond} {P : Jvm.Cond → Bool} (h1 : L.all (fun c => isCode c || P c) = true) (h2 : ∀ c ∈ L.filter isCode, P c = true) : L.all P = true := by
  refine List.all_eq_true.mpr fun c hc => ?_
  have h := List.all_eq_true.mp h1 c hc
  rcases Bool.eq_false_or_eq_true (isCode c) with hi | hi
  · exact h2 c (List.mem_filter.mpr ⟨hc, hi⟩)
  · simpa [hi] using h
set_option maxRecDepth 65536 in
theorem w_c0 : (Jvm.Cond.code x code maxLocals ret).before args0 about1 = true := code_word (m := ⟨1, 3⟩) (meth := k1m3) (c := k1c3) (by decide +kernel) rfl rfl rfl (by decide +kernel)
set_option maxRecDepth 65536 in
theorem w_c1 : (Jvm.Cond.code ({ cls := "com/example/talthybius/talthybius/AwaitedPingsSentPinLaw", name := "gap", desc := "(JI)J" } : Jvm.MethodName) method_2_code (3 : Nat) (Option.some Jvm.ClassFile.FieldType.long)).before args0 about1 = true := code_word (m := ⟨1, 1⟩) (meth := k1m1) (c := k1c1) (by decide +kernel) rfl rfl rfl (by decide +kernel)
set_option maxRecDepth 65536 in
theorem w_c2 : (Jvm.Cond.code ({ cls := "com/example/talthybius/talthybius/AwaitedPings", name := "<init>", desc := "(J)V" } : Jvm.MethodName) prog_10_method_1_code (3 : Nat) (Option.none : Option Jvm.ClassFile.FieldType)).before args0 about1 = true := code_word (m := ⟨2, 0⟩) (meth := k2m0) (c := k2c0) (by decide +kernel) rfl rfl rfl (by decide +kernel)
set_option maxRecDepth 65536 in
theorem w_c3 : (Jvm.Cond.code ({ cls := "java/lang/Object", name := "<init>", desc := "()V" } : Jvm.MethodName) object_method_1_code (1 : Nat) (Option.none : Option Jvm.ClassFile.FieldType)).before args0 about1 = true := code_word (m := ⟨0, 0⟩) (meth := k0m0) (c := k0c0) (by decide +kernel) rfl rfl rfl (by decide +kernel)
set_option maxRecDepth 65536 in
theorem w_c4 : (Jvm.Cond.code ({ cls := "com/example/talthybius/talthybius/AwaitedPings", name := "sent", desc := "(J)V" } : Jvm.MethodName) prog_10_method_2_code (4 : Nat) (Option.none : Option Jvm.ClassFile.FieldType)).before args0 about1 = true := code_word (m := ⟨2, 1⟩) (meth := k2m1) (c := k2c1) (by decide +kernel) rfl rfl rfl (by decide +kernel)
set_option maxRecDepth 65536 in
theorem w_c5 : (Jvm.Cond.code ({ cls := "com/example/talthybius/talthybius/AwaitedPings", name := "forget", desc := "(J)V" } : Jvm.MethodName) prog_10_method_5_code (3 : Nat) (Option.none : Option Jvm.ClassFile.FieldType)).before args0 about1 = true := code_word (m := ⟨2, 4⟩) (meth := k2m4) (c := k2c4) (by decide +kernel) rfl rfl rfl (by decide +kernel)
set_option maxRecDepth 65536 in
theorem w_c6 : (Jvm.Cond.code ({ cls := "com/example/talthybius/talthybius/AwaitedPings", name := "placeOf", desc := "(I)I" } : Jvm.MethodName) prog_10_method_7_code (3 : Nat) (Option.some Jvm.ClassFile.FieldType.int)).before args0 about1 = true := code_word (m := ⟨2, 6⟩) (meth := k2m6) (c := k2c6) (by decide +kernel) rfl rfl rfl (by decide +kernel)
set_option maxRecDepth 65536 in
theorem w_c7 : (Jvm.Cond.code ({ cls := "com/example/talthybius/talthybius/AwaitedPingsSentPinLaw", name := "alive", desc := "(JJJ)I" } : Jvm.MethodName) method_3_code (6 : Nat) (Option.some Jvm.ClassFile.FieldType.int)).before args0 about1 = true := code_word (m := ⟨1, 2⟩) (meth := k1m2) (c := k1c2) (by decide +kernel) rfl rfl rfl (by decide +kernel)
set_option maxRecDepth 65536 in
theorem w_c8 : (Jvm.Cond.code ({ cls := "com/example/talthybius/talthybius/AwaitedPings", name := "size", desc := "()I" } : Jvm.MethodName) prog_10_method_4_code (1 : Nat) (Option.some Jvm.ClassFile.FieldType.int)).before args0 about1 = true := code_word (m := ⟨2, 3⟩) (meth := k2m3) (c := k2c3) (by decide +kernel) rfl rfl rfl (by decide +kernel)
set_option maxRecDepth 65536 in
theorem w_c9 : (Jvm.Cond.code ({ cls := "com/example/talthybius/talthybius/AwaitedPings", name := "answer", desc := "(JJ)Z" } : Jvm.MethodName) prog_10_method_3_code (7 : Nat) (Option.some Jvm.ClassFile.FieldType.boolean)).before args0 about1 = true := code_word (m := ⟨2, 2⟩) (meth := k2m2) (c := k2c2) (by decide +kernel) rfl rfl rfl (by decide +kernel)
set_option maxRecDepth 65536 in
theorem w_c10 : (Jvm.Cond.code ({ cls := "com/example/talthybius/talthybius/AwaitedPings", name := "find", desc := "(J)I" } : Jvm.MethodName) prog_10_method_6_code (9 : Nat) (Option.some Jvm.ClassFile.FieldType.int)).before args0 about1 = true := code_word (m := ⟨2, 5⟩) (meth := k2m5) (c := k2c5) (by decide +kernel) rfl rfl rfl (by decide +kernel)
set_option maxRecDepth 65536 in
theorem w_c11 : (Jvm.Cond.code ({ cls := "com/example/talthybius/talthybius/AwaitedPings", name := "grow", desc := "()V" } : Jvm.MethodName) prog_10_method_8_code (5 : Nat) (Option.none : Option Jvm.ClassFile.FieldType)).before args0 about1 = true := code_word (m := ⟨2, 7⟩) (meth := k2m7) (c := k2c7) (by decide +kernel) rfl rfl rfl (by decide +kernel)
def codes1 : List Jvm.Cond := [Jvm.Cond.code x code maxLocals ret, Jvm.Cond.code ({ cls := "com/example/talthybius/talthybius/AwaitedPingsSentPinLaw", name := "gap", desc := "(JI)J" } : Jvm.MethodName) method_2_code (3 : Nat) (Option.some Jvm.ClassFile.FieldType.long), Jvm.Cond.code ({ cls := "com/example/talthybius/talthybius/AwaitedPings", name := "<init>", desc := "(J)V" } : Jvm.MethodName) prog_10_method_1_code (3 : Nat) (Option.none : Option Jvm.ClassFile.FieldType), Jvm.Cond.code ({ cls := "java/lang/Object", name := "<init>", desc := "()V" } : Jvm.MethodName) object_method_1_code (1 : Nat) (Option.none : Option Jvm.ClassFile.FieldType), Jvm.Cond.code ({ cls := "com/example/talthybius/talthybius/AwaitedPings", name := "sent", desc := "(J)V" } : Jvm.MethodName) prog_10_method_2_code (4 : Nat) (Option.none : Option Jvm.ClassFile.FieldType), Jvm.Cond.code ({ cls := "com/example/talthybius/talthybius/AwaitedPings", name := "forget", desc := "(J)V" } : Jvm.MethodName) prog_10_method_5_code (3 : Nat) (Option.none : Option Jvm.ClassFile.FieldType), Jvm.Cond.code ({ cls := "com/example/talthybius/talthybius/AwaitedPings", name := "placeOf", desc := "(I)I" } : Jvm.MethodName) prog_10_method_7_code (3 : Nat) (Option.some Jvm.ClassFile.FieldType.int), Jvm.Cond.code ({ cls := "com/example/talthybius/talthybius/AwaitedPingsSentPinLaw", name := "alive", desc := "(JJJ)I" } : Jvm.MethodName) method_3_code (6 : Nat) (Option.some Jvm.ClassFile.FieldType.int), Jvm.Cond.code ({ cls := "com/example/talthybius/talthybius/AwaitedPings", name := "size", desc := "()I" } : Jvm.MethodName) prog_10_method_4_code (1 : Nat) (Option.some Jvm.ClassFile.FieldType.int), Jvm.Cond.code ({ cls := "com/example/talthybius/talthybius/AwaitedPings", name := "answer", desc := "(JJ)Z" } : Jvm.MethodName) prog_10_method_3_code (7 : Nat) (Option.some Jvm.ClassFile.FieldType.boolean), Jvm.Cond.code ({ cls := "com/example/talthybius/talthybius/AwaitedPings", name := "find", desc := "(J)I" } : Jvm.MethodName) prog_10_method_6_code (9 : Nat) (Option.some Jvm.ClassFile.FieldType.int), Jvm.Cond.code ({ cls := "com/example/talthybius/talthybius/AwaitedPings", name := "grow", desc := "()V" } : Jvm.MethodName) prog_10_method_8_code (5 : Nat) (Option.none : Option Jvm.ClassFile.FieldType)]
set_option maxRecDepth 65536 in
theorem codes_eq : words1.filter isCode = codes1 := rfl
theorem w_codes : ∀ c ∈ words1.filter isCode, c.before args0 about1 = true := by
  rw [codes_eq]
  intro c hc
  simp only [codes1, List.mem_cons, List.not_mem_nil, or_false] at hc
  rcases hc with rfl | rfl | rfl | rfl | rfl | rfl | rfl | rfl | rfl | rfl | rfl | rfl
  · exact w_c0
  · exact w_c1
  · exact w_c2
  · exact w_c3
  · exact w_c4
  · exact w_c5
  · exact w_c6
  · exact w_c7
  · exact w_c8
  · exact w_c9
  · exact w_c10
  · exact w_c11
set_option maxRecDepth 65536 in
theorem w_t1 : (words1.take 24).all (fun c => isCode c || c.before args0 about1) = true := by decide +kernel
set_option maxRecDepth 65536 in
theorem w_t2 : ((words1.drop 24).take 24).all (fun c => isCode c || c.before args0 about1) = true := by decide +kernel
set_option maxRecDepth 65536 in
theorem w_t3 : ((words1.drop 24).drop 24).all (fun c => isCode c || c.before args0 about1) = true := by decide +kernel
theorem w_tables : (allAtoms (Jvm.Cond.code x code maxLocals ret :: tables_1)).before args0 about1 = true := by
  rw [allAtoms_all]
  show words1.all (fun c => c.before args0 about1) = true
  refine all_split ?_ w_codes
  rw [← List.take_append_drop 24 words1, List.all_append, w_t1, ← List.take_append_drop 24 (words1.drop 24), List.all_append, w_t2, w_t3]
  rfl
set_option maxRecDepth 65536 in
theorem w_case : (Jvm.Cond.and given_1 narrow_1).before args0 about1 = true := by decide +kernel
theorem w_applies : (headSpec (Jvm.Cond.code x code maxLocals ret :: tables_1) room_1).applies x e0.platform about1 = true :=
  (Spec.applies_iff w_frames).mpr ⟨w_running, w_runnable, w_alone, w_named, w_hears, w_ripe, w_room, w_tables⟩
theorem atStart : AtStart classFile x code maxLocals ret World_1 tables_1 room_1 Calls_1 rest_1 Pre_1 launch0 p0 e0 about1 theMethod args0 below0 :=
  ⟨lists_1, trivial, launch0.admits_env _ _ _, launch0.least_env, fairChoices_fair.cas, fairChoices_fair.clock, w_frames, w_args, w_heap, w_applies, trivial, trivial, w_case⟩
end start1
theorem witness_1 : WitnessClaimed_1 := ⟨start1.p0, start1.e0, start1.about1, start1.theMethod, start1.args0, start1.below0, start1.atStart⟩
end Jvm.Pilot.@@N@@
