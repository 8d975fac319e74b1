import JvmDerived
import JvmDerived.Pilot.@@N@@Statement
import JvmDerived.Pilot.@@N@@Code
set_option linter.unusedVariables false
set_option linter.unusedSimpArgs false
namespace Jvm.RoadKit
open Sem ClassFile Op Lib Jvm.Stand Jvm.Free Jvm.LawKit
section New
variable {p : Program} {l : Launch} {e : Env} {R : Room} {s : State} {m : MethodId} {args : Array Value} {below : List Frame} {meth : Method} {c : Code} {T : State} {locs : List Loc} {cells slots : Nat}
theorem retI (X : Stand p l e R s m args below meth c T locs cells slots) (hx : p.tables.exec = Jvm.exec) {pc : Nat} {Ls : Array Slot} {z : Int32} {rest : List Value} (hret : meth.sig.returnType = some .int) (hd : decode c.code pc = .ok (.ireturn, 1)) {fs : List Frame}
    (hl : ∀ (f : JFrame) (acts : List Action), f.method = m → f.locked = none → f.entered = [] → (doReturn e (T.setTop f) acts (some (.int z))).1 = T.setFrames fs) : Steps p.tables e below (T.setTop (mkF m pc Ls (.int z :: rest))) (T.setFrames fs) := by
  have hm' : T.vm.method? m = some meth := X.method'
  have hn : narrow .int (.int z) = .int z := rfl
  show Steps p.tables e below (T.setTop { method := m, pc := pc, locals := Ls, stack := _ :: rest, locked := none }) _
  jvm_step X.here [X.here.top, hx, hd, hm', hret, hn]
  first | (intro acts; rw [hl _ acts rfl rfl rfl]) | rw [hl _ _ rfl rfl rfl]
  exact Steps.refl _
/-- from here the walk comes to a good end -/
def Go (p : Program) (e : Env) (below : List Frame) (s : State) (Q : Option Value → Heap → List Loc → Prop) (C S : Nat) (T : State) (f : JFrame) : Prop :=
  ∃ s₂ o, Steps p.tables e below (T.setTop f) s₂ ∧ s₂.status = .running ∧ Ended s₂ below o ∧ ∃ v L, o = .returned v ∧ Q v s₂.heap L ∧ FrameEnd s o s₂ L C S
theorem Go.step {Q : Option Value → Heap → List Loc → Prop} {C S : Nat} {T' : State} {f f' : JFrame} (k : ∀ t, Steps p.tables e below (T'.setTop f') t → Steps p.tables e below (T.setTop f) t) (h : Go p e below s Q C S T' f') : Go p e below s Q C S T f := by
  obtain ⟨s₂, o, h1, h2⟩ := h
  exact ⟨s₂, o, k _ h1, h2⟩
theorem Go.cast {Q : Option Value → Heap → List Loc → Prop} {C S : Nat} {f f' : JFrame} (q : f = f') (h : Go p e below s Q C S T f') : Go p e below s Q C S T f := q ▸ h
theorem Go.fin (X : Stand p l e R s m args below meth c T locs cells slots) {Q : Option Value → Heap → List Loc → Prop} {C S : Nat} {f : JFrame} {v : Option Value} (hv : meth.sig.returnType = none → v = none) (hl : meth.locks = false) (hQ : Q v T.heap locs) (hc : cells ≤ C) (hs : slots ≤ S)
    (k : ∀ fs, (∀ (f : JFrame) (acts : List Action), f.method = m → f.locked = none → f.entered = [] → (doReturn e (T.setTop f) acts v).1 = T.setFrames fs) → Steps p.tables e below (T.setTop f) (T.setFrames fs)) : Go p e below s Q C S T f := by
  obtain ⟨fs, hr, hrun, hended, hW, hsame⟩ := X.leave (v := v) hv hl
  exact ⟨_, _, k fs hr, hrun, hended, v, locs, rfl, hQ, ⟨_, rfl⟩, hW, hsame.mono hc hs⟩
theorem own_lrem (x y : Int64) : x - (x / y) * y = x % y := lrem_mod x y
theorem own_irem (x y : Int32) : x - (x / y) * y = x % y := by
  apply Int32.toInt_inj.mp
  have h1 := Int32.le_toInt (x % y)
  have h2 := Int32.toInt_lt (x % y)
  rw [Int32.toInt_sub, Int32.toInt_mul, Int32.toInt_div, Int.bmod_mul_bmod, Int.sub_bmod_bmod, Int.mul_comm (x.toInt.tdiv y.toInt), ← Int.tmod_def, ← Int32.toInt_mod]
  exact Int.bmod_eq_of_le_mul_two (by omega) (by omega)
theorem own_fin {x : Int32} {n : Nat} (h0 : 0 ≤ x.toInt) (h1 : x.toInt < n) (h2 : n ≤ 2147483648) : ∃ k : Fin n, x = Int32.ofNat k.val := by
  refine ⟨⟨x.toInt.toNat, by omega⟩, Int32.toInt_inj.mp ?_⟩
  have q : (x.toInt.toNat).toInt32.toInt = x.toInt.toNat := len_toInt (by omega)
  show x.toInt = (x.toInt.toNat).toInt32.toInt
  rw [q]; omega
theorem own_i2c {x : Int32} (h0 : 0 ≤ x.toInt) (h1 : x.toInt < 65536) : x.toUInt32.toUInt16.toUInt32.toInt32 = x := Int32.toInt_inj.mp (by have := c_i2c x; omega)
theorem own_rem (x y : Int32) (h0 : 0 ≤ x.toInt) : (x % y).toInt = x.toInt % y.toInt := by rw [Int32.toInt_mod, (tr _ _).1 h0]
theorem own_remL (x y : Int64) (h0 : 0 ≤ x.toInt) : (x % y).toInt = x.toInt % y.toInt := by rw [Int64.toInt_mod, (tr _ _).1 h0]
theorem own_div (x y : Int32) (h0 : 0 ≤ x.toInt) (h1 : 0 < y.toInt) : (x / y).toInt = x.toInt / y.toInt := (c_idiv x y _ rfl (fun q => by rw [q] at h1; exact absurd h1 (by decide))).1 h0
theorem own_add {x y : Int32} (h0 : -2147483648 ≤ x.toInt + y.toInt) (h1 : x.toInt + y.toInt < 2147483648) : (x + y).toInt = x.toInt + y.toInt := by have := c_iadd x y; have := rng32 (x + y); omega
theorem own_sub {x y : Int32} (h0 : -2147483648 ≤ x.toInt - y.toInt) (h1 : x.toInt - y.toInt < 2147483648) : (x - y).toInt = x.toInt - y.toInt := by have := c_isub x y; have := rng32 (x - y); omega
theorem own_mul {x y : Int32} (h0 : -2147483648 ≤ x.toInt * y.toInt) (h1 : x.toInt * y.toInt < 2147483648) : (x * y).toInt = x.toInt * y.toInt := by have := c_imul x y; have := rng32 (x * y); omega
theorem own_nat {j : Int32} (h0 : 0 ≤ j.toInt) : (j.toNatClampNeg : Int) = j.toInt := by simp only [Int32.toNatClampNeg]; omega
section Heaps
variable {Z : State} {h h' : Heap} {a b : Addr} {ty : FieldType} {vs : List Value} {sl : Nat} {v : Value} {ws : List Addr}
/-- an array and all that lies in it -/
def VA (Z : State) (h : Heap) (a : Addr) (ty : FieldType) (vs : List Value) : Prop := ∃ c : Cell, Arr Z h a c ty ∧ c.slots.toList = vs ∧ vs.length < 2 ^ 31
theorem VA.lt (F : VA Z h a ty vs) : a < h.size := by obtain ⟨c, A, -⟩ := F; exact A.lt
theorem VA.len (F : VA Z h a ty vs) : vs.length < 2 ^ 31 := by obtain ⟨c, A, -, r⟩ := F; exact r
theorem VA.ext (F : VA Z h a ty vs) (E : Ext h h') : VA Z h' a ty vs := by obtain ⟨c, A, r⟩ := F; exact ⟨c, A.ext E, r⟩
theorem VA.other (F : VA Z h b ty vs) (W : Wr h h' a sl v) (q : b ≠ a) : VA Z h' b ty vs := by obtain ⟨c, A, r⟩ := F; exact ⟨c, A.other W q, r⟩
theorem VA.keep (F : VA Z h a ty vs) (K : Keep h h' ws) (q : a ∉ ws) : VA Z h' a ty vs := by obtain ⟨c, A, r⟩ := F; exact ⟨c, ⟨K.2.1 a c A.1 q, A.2⟩, r⟩
theorem VA.new {k : ClassId} {n : Int32} (A : Arr Z h a (newA k ty n) ty) (q : ¬ n < 0) : VA Z h a ty (List.replicate n.toNatClampNeg (defaultValue ty)) :=
  ⟨_, A, by simp [newA], by rw [List.length_replicate]; exact (back32 q).2⟩
theorem VA.inb (F : VA Z h a ty vs) {j : Int32} (h0 : 0 ≤ j.toInt) (h1 : j.toInt < vs.length) : ∃ c : Cell, Arr Z h a c ty ∧ ¬ (j < 0 ∨ c.slots.size ≤ j.toNatClampNeg) ∧ c.slots[j.toNatClampNeg]? = vs[j.toNatClampNeg]? ∧ ∀ h' v, Wr h h' a j.toNatClampNeg v → VA Z h' a ty (vs.set j.toNatClampNeg v) := by
  obtain ⟨c, A, rfl, r⟩ := F
  have hj := own_nat h0
  rw [Array.length_toList] at h1
  refine ⟨c, A, ?_, (Array.getElem?_toList ..).symm, fun h' v W => ⟨_, A.same W, ?_, ?_⟩⟩
  · rw [Int32.lt_iff_toInt_lt]
    have k0 : (0 : Int32).toInt = 0 := rfl
    omega
  · simp [Cell.setSlot]
  · rw [List.length_set]; exact r
theorem VA.ne_exa {C : String} {a0 : Array Value} {k : Nat} (F : VA Z h b ty vs) (G : Exa Z h a C) (wi : (Cond.instantiable C k).before a0 Z = true) : a ≠ b := by obtain ⟨c, A, -⟩ := F; exact ne_arr G wi A
end Heaps
theorem own_cat1 {v : Value} (h : v.isRef = true) : v.category = 1 := by cases v <;> simp_all [Value.isRef, Value.category]
theorem own_psel {y : MethodName} {n : Nat} (wi : (Cond.instantiable y.cls n).before args s = true) (hpriv : s.PrivateAt y) (hinst : (Cond.instanceMethod y).before args s = true) (hy : y.cls ≠ "java/lang/invoke/MethodHandle" ∧ y.cls ≠ "java/lang/invoke/VarHandle") : (Cond.selects y.cls y y).before args s = true := by
  obtain ⟨c, k, h1, h2, -, h4, -, -⟩ := Cond.instantiable_spec wi
  exact selects_self_of_private h1 h2 (by cases q : k.isInterface; rfl; rw [q] at h4; simp at h4) hpriv hinst hy
section Steps2
variable {Z : State} {h : Heap} {a : Addr} {a0 : Array Value}
theorem ldI (X : Stand p l e R s m args below meth c T locs cells slots) (hx : p.tables.exec = Jvm.exec) (hZ : Z.Warmed39 s.vm) (eT : T.heap = h) {vs : List Int32} (F : VA Z h a .int (vs.map Value.int)) {j : Int32} (h0 : 0 ≤ j.toInt) (h1 : j.toInt < vs.length)
    {g : JFrame} (hg : g.method = m) {rest : List Value} (hs : g.stack = .int j :: .ref a :: rest) (hd : decode c.code g.pc = .ok (.iaload, 1)) (target : State)
    (k : Steps p.tables e below (T.setTop { g with pc := g.pc + 1, stack := .int (vs.getD j.toNatClampNeg 0) :: rest }) target) : Steps p.tables e below (T.setTop g) target := by
  obtain ⟨cl, A, q1, q2, -⟩ := F.inb h0 (by rw [List.length_map]; exact h1)
  have hj := own_nat h0
  refine X.iaload hx (j := j) (v := .int (vs.getD j.toNatClampNeg 0)) (by rw [eT]; exact A.1) (State.isArrayOf_alike hZ.alike A.2.1) A.2.2 q1 ?_ hg hs hd target k
  rw [q2, List.getElem?_map, List.getD_eq_getElem?_getD, List.getElem?_eq_getElem (by omega)]; rfl
theorem ldJ (X : Stand p l e R s m args below meth c T locs cells slots) (hx : p.tables.exec = Jvm.exec) (hZ : Z.Warmed39 s.vm) (eT : T.heap = h) {vs : List Int64} (F : VA Z h a .long (vs.map Value.long)) {j : Int32} (h0 : 0 ≤ j.toInt) (h1 : j.toInt < vs.length)
    {g : JFrame} (hg : g.method = m) {rest : List Value} (hs : g.stack = .int j :: .ref a :: rest) (hd : decode c.code g.pc = .ok (.laload, 1)) (target : State)
    (k : Steps p.tables e below (T.setTop { g with pc := g.pc + 1, stack := .long (vs.getD j.toNatClampNeg 0) :: rest }) target) : Steps p.tables e below (T.setTop g) target := by
  obtain ⟨cl, A, q1, q2, -⟩ := F.inb h0 (by rw [List.length_map]; exact h1)
  have hj := own_nat h0
  refine X.laload hx (j := j) (v := .long (vs.getD j.toNatClampNeg 0)) (by rw [eT]; exact A.1) (State.isArrayOf_alike hZ.alike A.2.1) A.2.2 q1 ?_ hg hs hd target k
  rw [q2, List.getElem?_map, List.getD_eq_getElem?_getD, List.getElem?_eq_getElem (by omega)]; rfl
theorem ldB (X : Stand p l e R s m args below meth c T locs cells slots) (hx : p.tables.exec = Jvm.exec) (hZ : Z.Warmed39 s.vm) (eT : T.heap = h) {vs : List Int32} (F : VA Z h a .byte (vs.map Value.int)) {j : Int32} (h0 : 0 ≤ j.toInt) (h1 : j.toInt < vs.length)
    {g : JFrame} (hg : g.method = m) {rest : List Value} (hs : g.stack = .int j :: .ref a :: rest) (hd : decode c.code g.pc = .ok (.baload, 1)) (target : State)
    (k : Steps p.tables e below (T.setTop { g with pc := g.pc + 1, stack := .int (vs.getD j.toNatClampNeg 0) :: rest }) target) : Steps p.tables e below (T.setTop g) target := by
  obtain ⟨cl, A, q1, q2, -⟩ := F.inb h0 (by rw [List.length_map]; exact h1)
  have hj := own_nat h0
  refine X.baloadBytes hx (j := j) (v := .int (vs.getD j.toNatClampNeg 0)) (by rw [eT]; exact A.1) (State.isArrayOf_alike hZ.alike A.2.1) A.2.2 q1 ?_ hg hs hd target k
  rw [q2, List.getElem?_map, List.getD_eq_getElem?_getD, List.getElem?_eq_getElem (by omega)]; rfl
theorem ldR (X : Stand p l e R s m args below meth c T locs cells slots) (hx : p.tables.exec = Jvm.exec) (hZ : Z.Warmed39 s.vm) (eT : T.heap = h) {ty : FieldType} {vs : List Addr} (F : VA Z h a ty (vs.map Value.ref)) (hty : ty.isReference = true) {j : Int32} (h0 : 0 ≤ j.toInt) (h1 : j.toInt < vs.length)
    {g : JFrame} (hg : g.method = m) {rest : List Value} (hs : g.stack = .int j :: .ref a :: rest) (hd : decode c.code g.pc = .ok (.aaload, 1)) (target : State)
    (k : Steps p.tables e below (T.setTop { g with pc := g.pc + 1, stack := .ref (vs.getD j.toNatClampNeg 0) :: rest }) target) : Steps p.tables e below (T.setTop g) target := by
  obtain ⟨cl, A, q1, q2, -⟩ := F.inb h0 (by rw [List.length_map]; exact h1)
  have hj := own_nat h0
  refine X.aaload hx (j := j) (v := .ref (vs.getD j.toNatClampNeg 0)) (by rw [eT]; exact A.1) (State.isArrayOf_alike hZ.alike A.2.1) hty A.2.2 q1 ?_ hg hs hd target k
  rw [q2, List.getElem?_map, List.getD_eq_getElem?_getD, List.getElem?_eq_getElem (by omega)]; rfl
theorem lenA (X : Stand p l e R s m args below meth c T locs cells slots) (hx : p.tables.exec = Jvm.exec) (hZ : Z.Warmed39 s.vm) (eT : T.heap = h) {ty : FieldType} {vs : List Value} (F : VA Z h a ty vs) {n : Int32} (hn : (vs.length : Int) = n.toInt)
    {g : JFrame} (hg : g.method = m) {rest : List Value} (hs : g.stack = .ref a :: rest) (hd : decode c.code g.pc = .ok (.arraylength, 1)) (target : State)
    (k : Steps p.tables e below (T.setTop { g with pc := g.pc + 1, stack := .int n :: rest }) target) : Steps p.tables e below (T.setTop g) target := by
  obtain ⟨cl, A, rfl, r⟩ := F
  refine X.arraylength hx (by rw [eT]; exact A.1) (State.isArrayOf_alike hZ.alike A.2.1) hg hs hd target ?_
  have e : cl.slots.size.toInt32 = n := Int32.toInt_inj.mp (by rw [len_toInt (by rw [← Array.length_toList]; exact r), ← hn, Array.length_toList])
  rw [e]; exact k
theorem putI (X : Stand p l e R s m args below meth c T locs cells slots) (hx : p.tables.exec = Jvm.exec) (hZ : Z.Warmed39 s.vm) (eT : T.heap = h) {vs : List Int32} (F : VA Z h a .int (vs.map Value.int)) {j x : Int32} (h0 : 0 ≤ j.toInt) (h1 : j.toInt < vs.length)
    {g : JFrame} (hg : g.method = m) {rest : List Value} (hs : g.stack = .int x :: .int j :: .ref a :: rest) (hd : decode c.code g.pc = .ok (.iastore, 1)) :
    ∃ T' h', Stand p l e R s m args below meth c T' (locs ++ [⟨a, j.toNatClampNeg⟩]) cells slots ∧ T'.heap = h' ∧ Wr h h' a j.toNatClampNeg (.int x) ∧ VA Z h' a .int ((vs.set j.toNatClampNeg x).map Value.int) ∧ ∀ target, Steps p.tables e below (T'.setTop { g with pc := g.pc + 1, stack := rest }) target → Steps p.tables e below (T.setTop g) target := by
  obtain ⟨cl, A, q1, q2, q3⟩ := F.inb h0 (by rw [List.length_map]; exact h1)
  obtain ⟨T', h', X', e', W, st⟩ := stI X hx hZ eT A q1 hg hs hd
  exact ⟨T', h', X', e', W, by rw [List.map_set]; exact q3 _ _ W, st⟩
theorem putJ (X : Stand p l e R s m args below meth c T locs cells slots) (hx : p.tables.exec = Jvm.exec) (hZ : Z.Warmed39 s.vm) (eT : T.heap = h) {vs : List Int64} (F : VA Z h a .long (vs.map Value.long)) {j : Int32} {x : Int64} (h0 : 0 ≤ j.toInt) (h1 : j.toInt < vs.length)
    {g : JFrame} (hg : g.method = m) {rest : List Value} (hs : g.stack = .long x :: .int j :: .ref a :: rest) (hd : decode c.code g.pc = .ok (.lastore, 1)) :
    ∃ T' h', Stand p l e R s m args below meth c T' (locs ++ [⟨a, j.toNatClampNeg⟩]) cells slots ∧ T'.heap = h' ∧ Wr h h' a j.toNatClampNeg (.long x) ∧ VA Z h' a .long ((vs.set j.toNatClampNeg x).map Value.long) ∧ ∀ target, Steps p.tables e below (T'.setTop { g with pc := g.pc + 1, stack := rest }) target → Steps p.tables e below (T.setTop g) target := by
  obtain ⟨cl, A, q1, q2, q3⟩ := F.inb h0 (by rw [List.length_map]; exact h1)
  obtain ⟨T', h', X', e', W, st⟩ := stJ X hx hZ eT A q1 hg hs hd
  exact ⟨T', h', X', e', W, by rw [List.map_set]; exact q3 _ _ W, st⟩
theorem putB (X : Stand p l e R s m args below meth c T locs cells slots) (hx : p.tables.exec = Jvm.exec) (hZ : Z.Warmed39 s.vm) (eT : T.heap = h) {vs : List Int32} (F : VA Z h a .byte (vs.map Value.int)) {j x : Int32} (h0 : 0 ≤ j.toInt) (h1 : j.toInt < vs.length)
    {g : JFrame} (hg : g.method = m) {rest : List Value} (hs : g.stack = .int x :: .int j :: .ref a :: rest) (hd : decode c.code g.pc = .ok (.bastore, 1)) :
    ∃ T' h', Stand p l e R s m args below meth c T' (locs ++ [⟨a, j.toNatClampNeg⟩]) cells slots ∧ T'.heap = h' ∧ Wr h h' a j.toNatClampNeg (.int (nar .byte x)) ∧ VA Z h' a .byte ((vs.set j.toNatClampNeg (nar .byte x)).map Value.int) ∧ ∀ target, Steps p.tables e below (T'.setTop { g with pc := g.pc + 1, stack := rest }) target → Steps p.tables e below (T.setTop g) target := by
  obtain ⟨cl, A, q1, q2, q3⟩ := F.inb h0 (by rw [List.length_map]; exact h1)
  obtain ⟨T', h', X', e', W, st⟩ := stB X hx hZ eT A q1 hg hs hd
  exact ⟨T', h', X', e', W, by rw [List.map_set]; exact q3 _ _ W, st⟩
theorem newI (X : Stand p l e R s m args below meth c T locs cells slots) (hx : p.tables.exec = Jvm.exec) (hZ : Z.Warmed39 s.vm) (w : (Cond.arrayClass .int).before a0 Z = true) (eT : T.heap = h) {g : JFrame} (hg : g.method = m) (hd : decode c.code g.pc = .ok (.newarray .int, 2)) {n : Int32} {rest : List Value} (hs : g.stack = .int n :: rest)
    (hn : 0 ≤ n.toInt) {cap : Nat} (hcap : n.toInt ≤ cap) (hb : cap * 8 ≤ 536870912) (hc : cells + 1 ≤ R.cells) (hl : slots + cap ≤ R.slots) :
    ∃ T' h', Stand p l e R s m args below meth c T' locs (cells + 1) (slots + cap) ∧ T'.heap = h' ∧ Ext h h' ∧ VA Z h' h.size .int ((List.replicate n.toInt.toNat (0 : Int32)).map Value.int) ∧
      ∀ target, Steps p.tables e below (T'.setTop { g with pc := g.pc + 2, stack := .ref h.size :: rest }) target → Steps p.tables e below (T.setTop g) target := by
  have q : ¬ n < 0 := by rw [Int32.lt_iff_toInt_lt]; have k0 : (0 : Int32).toInt = 0 := rfl; omega
  have en : n.toNatClampNeg = n.toInt.toNat := rfl
  obtain ⟨T', h', cA, X', e', E, A, st⟩ := newP X hx hZ (aty := .int) w eT hg hd hs q (cap := cap) (by rw [en]; omega) hb hc hl
  have V1 : VA Z h' h.size .int (List.replicate n.toNatClampNeg (Value.int (0 : Int32))) := VA.new A q
  rw [en] at V1
  refine ⟨T', h', X', e', E, ?_, st⟩
  rw [List.map_replicate]
  exact V1
theorem newJ (X : Stand p l e R s m args below meth c T locs cells slots) (hx : p.tables.exec = Jvm.exec) (hZ : Z.Warmed39 s.vm) (w : (Cond.arrayClass .long).before a0 Z = true) (eT : T.heap = h) {g : JFrame} (hg : g.method = m) (hd : decode c.code g.pc = .ok (.newarray .long, 2)) {n : Int32} {rest : List Value} (hs : g.stack = .int n :: rest)
    (hn : 0 ≤ n.toInt) {cap : Nat} (hcap : n.toInt ≤ cap) (hb : cap * 8 ≤ 536870912) (hc : cells + 1 ≤ R.cells) (hl : slots + cap ≤ R.slots) :
    ∃ T' h', Stand p l e R s m args below meth c T' locs (cells + 1) (slots + cap) ∧ T'.heap = h' ∧ Ext h h' ∧ VA Z h' h.size .long ((List.replicate n.toInt.toNat (0 : Int64)).map Value.long) ∧
      ∀ target, Steps p.tables e below (T'.setTop { g with pc := g.pc + 2, stack := .ref h.size :: rest }) target → Steps p.tables e below (T.setTop g) target := by
  have q : ¬ n < 0 := by rw [Int32.lt_iff_toInt_lt]; have k0 : (0 : Int32).toInt = 0 := rfl; omega
  have en : n.toNatClampNeg = n.toInt.toNat := rfl
  obtain ⟨T', h', cA, X', e', E, A, st⟩ := newP X hx hZ (aty := .long) w eT hg hd hs q (cap := cap) (by rw [en]; omega) hb hc hl
  have V1 : VA Z h' h.size .long (List.replicate n.toNatClampNeg (Value.long (0 : Int64))) := VA.new A q
  rw [en] at V1
  refine ⟨T', h', X', e', E, ?_, st⟩
  rw [List.map_replicate]
  exact V1
theorem newB (X : Stand p l e R s m args below meth c T locs cells slots) (hx : p.tables.exec = Jvm.exec) (hZ : Z.Warmed39 s.vm) (w : (Cond.arrayClass .byte).before a0 Z = true) (eT : T.heap = h) {g : JFrame} (hg : g.method = m) (hd : decode c.code g.pc = .ok (.newarray .byte, 2)) {n : Int32} {rest : List Value} (hs : g.stack = .int n :: rest)
    (hn : 0 ≤ n.toInt) {cap : Nat} (hcap : n.toInt ≤ cap) (hb : cap * 8 ≤ 536870912) (hc : cells + 1 ≤ R.cells) (hl : slots + cap ≤ R.slots) :
    ∃ T' h', Stand p l e R s m args below meth c T' locs (cells + 1) (slots + cap) ∧ T'.heap = h' ∧ Ext h h' ∧ VA Z h' h.size .byte ((List.replicate n.toInt.toNat (0 : Int32)).map Value.int) ∧
      ∀ target, Steps p.tables e below (T'.setTop { g with pc := g.pc + 2, stack := .ref h.size :: rest }) target → Steps p.tables e below (T.setTop g) target := by
  have q : ¬ n < 0 := by rw [Int32.lt_iff_toInt_lt]; have k0 : (0 : Int32).toInt = 0 := rfl; omega
  have en : n.toNatClampNeg = n.toInt.toNat := rfl
  obtain ⟨T', h', cA, X', e', E, A, st⟩ := newP X hx hZ (aty := .byte) w eT hg hd hs q (cap := cap) (by rw [en]; omega) hb hc hl
  have V1 : VA Z h' h.size .byte (List.replicate n.toNatClampNeg (Value.int (0 : Int32))) := VA.new A q
  rw [en] at V1
  refine ⟨T', h', X', e', E, ?_, st⟩
  rw [List.map_replicate]
  exact V1
theorem ldZ (X : Stand p l e R s m args below meth c T locs cells slots) (hx : p.tables.exec = Jvm.exec) (hZ : Z.Warmed39 s.vm) (eT : T.heap = h) {vs : List Int32} (F : VA Z h a .boolean (vs.map Value.int)) {j : Int32} (h0 : 0 ≤ j.toInt) (h1 : j.toInt < vs.length)
    {g : JFrame} (hg : g.method = m) {rest : List Value} (hs : g.stack = .int j :: .ref a :: rest) (hd : decode c.code g.pc = .ok (.baload, 1)) (target : State)
    (k : Steps p.tables e below (T.setTop { g with pc := g.pc + 1, stack := .int (vs.getD j.toNatClampNeg 0) :: rest }) target) : Steps p.tables e below (T.setTop g) target := by
  obtain ⟨cl, A, q1, q2, -⟩ := F.inb h0 (by rw [List.length_map]; exact h1)
  have hj := own_nat h0
  refine X.baloadBooleans hx (j := j) (v := .int (vs.getD j.toNatClampNeg 0)) (by rw [eT]; exact A.1) (State.isArrayOf_alike hZ.alike A.2.1) A.2.2 q1 ?_ hg hs hd target k
  rw [q2, List.getElem?_map, List.getD_eq_getElem?_getD, List.getElem?_eq_getElem (by omega)]; rfl
theorem putZ (X : Stand p l e R s m args below meth c T locs cells slots) (hx : p.tables.exec = Jvm.exec) (hZ : Z.Warmed39 s.vm) (eT : T.heap = h) {vs : List Int32} (F : VA Z h a .boolean (vs.map Value.int)) {j x : Int32} (h0 : 0 ≤ j.toInt) (h1 : j.toInt < vs.length)
    {g : JFrame} (hg : g.method = m) {rest : List Value} (hs : g.stack = .int x :: .int j :: .ref a :: rest) (hd : decode c.code g.pc = .ok (.bastore, 1)) :
    ∃ T' h', Stand p l e R s m args below meth c T' (locs ++ [⟨a, j.toNatClampNeg⟩]) cells slots ∧ T'.heap = h' ∧ Wr h h' a j.toNatClampNeg (.int (nar .boolean x)) ∧ VA Z h' a .boolean ((vs.set j.toNatClampNeg (nar .boolean x)).map Value.int) ∧ ∀ target, Steps p.tables e below (T'.setTop { g with pc := g.pc + 1, stack := rest }) target → Steps p.tables e below (T.setTop g) target := by
  obtain ⟨cl, A, q1, q2, q3⟩ := F.inb h0 (by rw [List.length_map]; exact h1)
  obtain ⟨T', h', X', e', W, st⟩ := stZ X hx hZ eT A q1 hg hs hd
  exact ⟨T', h', X', e', W, by rw [List.map_set]; exact q3 _ _ W, st⟩
theorem newZ (X : Stand p l e R s m args below meth c T locs cells slots) (hx : p.tables.exec = Jvm.exec) (hZ : Z.Warmed39 s.vm) (w : (Cond.arrayClass .boolean).before a0 Z = true) (eT : T.heap = h) {g : JFrame} (hg : g.method = m) (hd : decode c.code g.pc = .ok (.newarray .boolean, 2)) {n : Int32} {rest : List Value} (hs : g.stack = .int n :: rest)
    (hn : 0 ≤ n.toInt) {cap : Nat} (hcap : n.toInt ≤ cap) (hb : cap * 8 ≤ 536870912) (hc : cells + 1 ≤ R.cells) (hl : slots + cap ≤ R.slots) :
    ∃ T' h', Stand p l e R s m args below meth c T' locs (cells + 1) (slots + cap) ∧ T'.heap = h' ∧ Ext h h' ∧ VA Z h' h.size .boolean ((List.replicate n.toInt.toNat (0 : Int32)).map Value.int) ∧
      ∀ target, Steps p.tables e below (T'.setTop { g with pc := g.pc + 2, stack := .ref h.size :: rest }) target → Steps p.tables e below (T.setTop g) target := by
  have q : ¬ n < 0 := by rw [Int32.lt_iff_toInt_lt]; have k0 : (0 : Int32).toInt = 0 := rfl; omega
  have en : n.toNatClampNeg = n.toInt.toNat := rfl
  obtain ⟨T', h', cA, X', e', E, A, st⟩ := newP X hx hZ (aty := .boolean) w eT hg hd hs q (cap := cap) (by rw [en]; omega) hb hc hl
  have V1 : VA Z h' h.size .boolean (List.replicate n.toNatClampNeg (Value.int (0 : Int32))) := VA.new A q
  rw [en] at V1
  refine ⟨T', h', X', e', E, ?_, st⟩
  rw [List.map_replicate]
  exact V1
end Steps2
end New
end Jvm.RoadKit
namespace Jvm.Pilot.@@N@@
open Jvm Jvm.ClassFile Sem Op Lib Jvm.Free Jvm.Stand Jvm.LawKit Jvm.RoadKit Bundle Jvm.Pilot.@@N@@.Jvm.D
def own_T (n lo mm : Int) : Int := max 0 (min n mm - lo + 1)
def own_R (n x : Int) : Int := if x < 10 then own_T n 1 x + own_T n 10 (10 * x - 1) + own_T n 100 (100 * x - 1) + own_T n 1000 (1000 * x - 1) + own_T n 10000 (10000 * x - 1) else if x < 100 then own_T n 1 (x / 10) + own_T n 10 x + own_T n 100 (10 * x - 1) + own_T n 1000 (100 * x - 1) + own_T n 10000 (1000 * x - 1) else if x < 1000 then own_T n 1 (x / 100) + own_T n 10 (x / 10) + own_T n 100 x + own_T n 1000 (10 * x - 1) + own_T n 10000 (100 * x - 1) else if x < 10000 then own_T n 1 (x / 1000) + own_T n 10 (x / 100) + own_T n 100 (x / 10) + own_T n 1000 x + own_T n 10000 (10 * x - 1) else own_T n 1 (x / 10000) + own_T n 10 (x / 1000) + own_T n 100 (x / 100) + own_T n 1000 (x / 10) + own_T n 10000 x
def own_S (n x : Int) : Int := if x < 1 then n else if x < 10 then own_T n 1 x + own_T n 10 (10 * (x + 1) - 1) + own_T n 100 (100 * (x + 1) - 1) + own_T n 1000 (1000 * (x + 1) - 1) + own_T n 10000 (10000 * (x + 1) - 1) else if x < 100 then own_T n 1 (x / 10) + own_T n 10 x + own_T n 100 (10 * (x + 1) - 1) + own_T n 1000 (100 * (x + 1) - 1) + own_T n 10000 (1000 * (x + 1) - 1) else if x < 1000 then own_T n 1 (x / 100) + own_T n 10 (x / 10) + own_T n 100 x + own_T n 1000 (10 * (x + 1) - 1) + own_T n 10000 (100 * (x + 1) - 1) else if x < 10000 then own_T n 1 (x / 1000) + own_T n 10 (x / 100) + own_T n 100 (x / 10) + own_T n 1000 x + own_T n 10000 (10 * (x + 1) - 1) else own_T n 1 (x / 10000) + own_T n 10 (x / 1000) + own_T n 100 (x / 100) + own_T n 1000 (x / 10) + own_T n 10000 x
def own_pd (x : Int) : Int := if x < 10 then 10000 * x else if x < 100 then 1000 * x else if x < 1000 then 100 * x else if x < 10000 then 10 * x else x
def own_U (x : Int) : Int := if x < 10 then 10000 * (x + 1) else if x < 100 then 1000 * (x + 1) else if x < 1000 then 100 * (x + 1) else if x < 10000 then 10 * (x + 1) else (x + 1)
def own_D (x : Int) : Int := if x < 10 then 1 else if x < 100 then 2 else if x < 1000 then 3 else if x < 10000 then 4 else 5
def own_LT (a b : Int) : Prop := own_pd a < own_pd b ∨ (own_pd a = own_pd b ∧ own_D a < own_D b)
theorem own_Te {n lo m1 m2 : Int} (h : min n m1 = min n m2) : own_T n lo m1 = own_T n lo m2 := by unfold own_T; rw [h]
theorem own_Ts {n lo m1 m2 : Int} (h : m2 = m1 + 1) (h1 : lo ≤ m2) (h2 : m2 ≤ n) : own_T n lo m2 = own_T n lo m1 + 1 := by unfold own_T; omega
theorem own_R1 {n x : Int} (h : 1 ≤ x) (h1 : x < 10) : own_R n x = own_T n 1 x + own_T n 10 (10 * x - 1) + own_T n 100 (100 * x - 1) + own_T n 1000 (1000 * x - 1) + own_T n 10000 (10000 * x - 1) := by
  unfold own_R; rw [if_pos (by omega)]
theorem own_R2 {n x : Int} (h : 10 ≤ x) (h1 : x < 100) : own_R n x = own_T n 1 (x / 10) + own_T n 10 x + own_T n 100 (10 * x - 1) + own_T n 1000 (100 * x - 1) + own_T n 10000 (1000 * x - 1) := by
  unfold own_R; rw [if_neg (by omega), if_pos (by omega)]
theorem own_R3 {n x : Int} (h : 100 ≤ x) (h1 : x < 1000) : own_R n x = own_T n 1 (x / 100) + own_T n 10 (x / 10) + own_T n 100 x + own_T n 1000 (10 * x - 1) + own_T n 10000 (100 * x - 1) := by
  unfold own_R; rw [if_neg (by omega), if_neg (by omega), if_pos (by omega)]
theorem own_R4 {n x : Int} (h : 1000 ≤ x) (h1 : x < 10000) : own_R n x = own_T n 1 (x / 1000) + own_T n 10 (x / 100) + own_T n 100 (x / 10) + own_T n 1000 x + own_T n 10000 (10 * x - 1) := by
  unfold own_R; rw [if_neg (by omega), if_neg (by omega), if_neg (by omega), if_pos (by omega)]
theorem own_R5 {n x : Int} (h : 10000 ≤ x) : own_R n x = own_T n 1 (x / 10000) + own_T n 10 (x / 1000) + own_T n 100 (x / 100) + own_T n 1000 (x / 10) + own_T n 10000 x := by
  unfold own_R; rw [if_neg (by omega), if_neg (by omega), if_neg (by omega), if_neg (by omega)]
theorem own_S1 {n x : Int} (h : 1 ≤ x) (h1 : x < 10) : own_S n x = own_T n 1 x + own_T n 10 (10 * (x + 1) - 1) + own_T n 100 (100 * (x + 1) - 1) + own_T n 1000 (1000 * (x + 1) - 1) + own_T n 10000 (10000 * (x + 1) - 1) := by
  unfold own_S; rw [if_neg (by omega), if_pos (by omega)]
theorem own_S2 {n x : Int} (h : 10 ≤ x) (h1 : x < 100) : own_S n x = own_T n 1 (x / 10) + own_T n 10 x + own_T n 100 (10 * (x + 1) - 1) + own_T n 1000 (100 * (x + 1) - 1) + own_T n 10000 (1000 * (x + 1) - 1) := by
  unfold own_S; rw [if_neg (by omega), if_neg (by omega), if_pos (by omega)]
theorem own_S3 {n x : Int} (h : 100 ≤ x) (h1 : x < 1000) : own_S n x = own_T n 1 (x / 100) + own_T n 10 (x / 10) + own_T n 100 x + own_T n 1000 (10 * (x + 1) - 1) + own_T n 10000 (100 * (x + 1) - 1) := by
  unfold own_S; rw [if_neg (by omega), if_neg (by omega), if_neg (by omega), if_pos (by omega)]
theorem own_S4 {n x : Int} (h : 1000 ≤ x) (h1 : x < 10000) : own_S n x = own_T n 1 (x / 1000) + own_T n 10 (x / 100) + own_T n 100 (x / 10) + own_T n 1000 x + own_T n 10000 (10 * (x + 1) - 1) := by
  unfold own_S; rw [if_neg (by omega), if_neg (by omega), if_neg (by omega), if_neg (by omega), if_pos (by omega)]
theorem own_S5 {n x : Int} (h : 10000 ≤ x) : own_S n x = own_T n 1 (x / 10000) + own_T n 10 (x / 1000) + own_T n 100 (x / 100) + own_T n 1000 (x / 10) + own_T n 10000 x := by
  unfold own_S; rw [if_neg (by omega), if_neg (by omega), if_neg (by omega), if_neg (by omega), if_neg (by omega)]
theorem own_S0 {n : Int} : own_S n 0 = n := by
  unfold own_S; rw [if_pos (by omega)]
theorem own_L1 {n : Int} (h : 1 ≤ n) : own_R n 1 = 1 := by
  rw [own_R1 (by omega) (by omega)]
  have t1 : own_T n 1 1 = 1 := by unfold own_T; omega
  have t2 : own_T n 10 (10 * 1 - 1) = 0 := by unfold own_T; omega
  have t3 : own_T n 100 (100 * 1 - 1) = 0 := by unfold own_T; omega
  have t4 : own_T n 1000 (1000 * 1 - 1) = 0 := by unfold own_T; omega
  have t5 : own_T n 10000 (10000 * 1 - 1) = 0 := by unfold own_T; omega
  omega
theorem own_L2 {n x : Int} (h : 1 ≤ x) (h1 : 10 * x ≤ n) (h2 : n ≤ 65535) : own_R n (10 * x) = own_R n x + 1 := by
  by_cases q1 : x < 10
  · rw [own_R2 (x := 10 * x) (by omega) (by omega), own_R1 (x := x) (by omega) (by omega)]
    have t1 : own_T n 1 ((10 * x) / 10) = own_T n 1 x := own_Te (by omega)
    have t2 : own_T n 10 (10 * x) = own_T n 10 (10 * x - 1) + 1 := own_Ts (by omega) (by omega) (by omega)
    have t3 : own_T n 100 (10 * (10 * x) - 1) = own_T n 100 (100 * x - 1) := own_Te (by omega)
    have t4 : own_T n 1000 (100 * (10 * x) - 1) = own_T n 1000 (1000 * x - 1) := own_Te (by omega)
    have t5 : own_T n 10000 (1000 * (10 * x) - 1) = own_T n 10000 (10000 * x - 1) := own_Te (by omega)
    omega
  by_cases q2 : x < 100
  · rw [own_R3 (x := 10 * x) (by omega) (by omega), own_R2 (x := x) (by omega) (by omega)]
    have t1 : own_T n 1 ((10 * x) / 100) = own_T n 1 (x / 10) := own_Te (by omega)
    have t2 : own_T n 10 ((10 * x) / 10) = own_T n 10 x := own_Te (by omega)
    have t3 : own_T n 100 (10 * x) = own_T n 100 (10 * x - 1) + 1 := own_Ts (by omega) (by omega) (by omega)
    have t4 : own_T n 1000 (10 * (10 * x) - 1) = own_T n 1000 (100 * x - 1) := own_Te (by omega)
    have t5 : own_T n 10000 (100 * (10 * x) - 1) = own_T n 10000 (1000 * x - 1) := own_Te (by omega)
    omega
  by_cases q3 : x < 1000
  · rw [own_R4 (x := 10 * x) (by omega) (by omega), own_R3 (x := x) (by omega) (by omega)]
    have t1 : own_T n 1 ((10 * x) / 1000) = own_T n 1 (x / 100) := own_Te (by omega)
    have t2 : own_T n 10 ((10 * x) / 100) = own_T n 10 (x / 10) := own_Te (by omega)
    have t3 : own_T n 100 ((10 * x) / 10) = own_T n 100 x := own_Te (by omega)
    have t4 : own_T n 1000 (10 * x) = own_T n 1000 (10 * x - 1) + 1 := own_Ts (by omega) (by omega) (by omega)
    have t5 : own_T n 10000 (10 * (10 * x) - 1) = own_T n 10000 (100 * x - 1) := own_Te (by omega)
    omega
  rw [own_R5 (x := 10 * x) (by omega), own_R4 (x := x) (by omega) (by omega)]
  have t1 : own_T n 1 ((10 * x) / 10000) = own_T n 1 (x / 1000) := own_Te (by omega)
  have t2 : own_T n 10 ((10 * x) / 1000) = own_T n 10 (x / 100) := own_Te (by omega)
  have t3 : own_T n 100 ((10 * x) / 100) = own_T n 100 (x / 10) := own_Te (by omega)
  have t4 : own_T n 1000 ((10 * x) / 10) = own_T n 1000 x := own_Te (by omega)
  have t5 : own_T n 10000 (10 * x) = own_T n 10000 (10 * x - 1) + 1 := own_Ts (by omega) (by omega) (by omega)
  omega
theorem own_L3 {n x : Int} (h : 1 ≤ x) (h0 : x ≤ n) (h1 : n < 10 * x) (h2 : n ≤ 65535) : own_S n x = own_R n x := by
  by_cases q1 : x < 10
  · rw [own_S1 (x := x) (by omega) (by omega), own_R1 (x := x) (by omega) (by omega)]
    have t2 : own_T n 10 (10 * (x + 1) - 1) = own_T n 10 (10 * x - 1) := own_Te (by omega)
    have t3 : own_T n 100 (100 * (x + 1) - 1) = own_T n 100 (100 * x - 1) := own_Te (by omega)
    have t4 : own_T n 1000 (1000 * (x + 1) - 1) = own_T n 1000 (1000 * x - 1) := own_Te (by omega)
    have t5 : own_T n 10000 (10000 * (x + 1) - 1) = own_T n 10000 (10000 * x - 1) := own_Te (by omega)
    omega
  by_cases q2 : x < 100
  · rw [own_S2 (x := x) (by omega) (by omega), own_R2 (x := x) (by omega) (by omega)]
    have t3 : own_T n 100 (10 * (x + 1) - 1) = own_T n 100 (10 * x - 1) := own_Te (by omega)
    have t4 : own_T n 1000 (100 * (x + 1) - 1) = own_T n 1000 (100 * x - 1) := own_Te (by omega)
    have t5 : own_T n 10000 (1000 * (x + 1) - 1) = own_T n 10000 (1000 * x - 1) := own_Te (by omega)
    omega
  by_cases q3 : x < 1000
  · rw [own_S3 (x := x) (by omega) (by omega), own_R3 (x := x) (by omega) (by omega)]
    have t4 : own_T n 1000 (10 * (x + 1) - 1) = own_T n 1000 (10 * x - 1) := own_Te (by omega)
    have t5 : own_T n 10000 (100 * (x + 1) - 1) = own_T n 10000 (100 * x - 1) := own_Te (by omega)
    omega
  by_cases q4 : x < 10000
  · rw [own_S4 (x := x) (by omega) (by omega), own_R4 (x := x) (by omega) (by omega)]
    have t5 : own_T n 10000 (10 * (x + 1) - 1) = own_T n 10000 (10 * x - 1) := own_Te (by omega)
    omega
  rw [own_S5 (x := x) (by omega), own_R5 (x := x) (by omega)]
theorem own_L4 {n x : Int} (h : 1 ≤ x) (h0 : x ≤ n) (h1 : x % 10 = 9 ∨ n < x + 1) (h2 : n ≤ 65535) : own_S n (x / 10) = own_S n x := by
  by_cases q1 : x < 10
  · have e0 : x / 10 = 0 := by omega
    rw [e0, own_S0, own_S1 (by omega) (by omega)]
    by_cases z1 : n < 10
    · have t1 : own_T n 1 x = n - 1 + 1 := by unfold own_T; omega
      have t2 : own_T n 10 (10 * (x + 1) - 1) = 0 := by unfold own_T; omega
      have t3 : own_T n 100 (100 * (x + 1) - 1) = 0 := by unfold own_T; omega
      have t4 : own_T n 1000 (1000 * (x + 1) - 1) = 0 := by unfold own_T; omega
      have t5 : own_T n 10000 (10000 * (x + 1) - 1) = 0 := by unfold own_T; omega
      omega
    by_cases z2 : n < 100
    · have t1 : own_T n 1 x = 9 := by unfold own_T; omega
      have t2 : own_T n 10 (10 * (x + 1) - 1) = n - 10 + 1 := by unfold own_T; omega
      have t3 : own_T n 100 (100 * (x + 1) - 1) = 0 := by unfold own_T; omega
      have t4 : own_T n 1000 (1000 * (x + 1) - 1) = 0 := by unfold own_T; omega
      have t5 : own_T n 10000 (10000 * (x + 1) - 1) = 0 := by unfold own_T; omega
      omega
    by_cases z3 : n < 1000
    · have t1 : own_T n 1 x = 9 := by unfold own_T; omega
      have t2 : own_T n 10 (10 * (x + 1) - 1) = 90 := by unfold own_T; omega
      have t3 : own_T n 100 (100 * (x + 1) - 1) = n - 100 + 1 := by unfold own_T; omega
      have t4 : own_T n 1000 (1000 * (x + 1) - 1) = 0 := by unfold own_T; omega
      have t5 : own_T n 10000 (10000 * (x + 1) - 1) = 0 := by unfold own_T; omega
      omega
    by_cases z4 : n < 10000
    · have t1 : own_T n 1 x = 9 := by unfold own_T; omega
      have t2 : own_T n 10 (10 * (x + 1) - 1) = 90 := by unfold own_T; omega
      have t3 : own_T n 100 (100 * (x + 1) - 1) = 900 := by unfold own_T; omega
      have t4 : own_T n 1000 (1000 * (x + 1) - 1) = n - 1000 + 1 := by unfold own_T; omega
      have t5 : own_T n 10000 (10000 * (x + 1) - 1) = 0 := by unfold own_T; omega
      omega
    have t1 : own_T n 1 x = 9 := by unfold own_T; omega
    have t2 : own_T n 10 (10 * (x + 1) - 1) = 90 := by unfold own_T; omega
    have t3 : own_T n 100 (100 * (x + 1) - 1) = 900 := by unfold own_T; omega
    have t4 : own_T n 1000 (1000 * (x + 1) - 1) = 9000 := by unfold own_T; omega
    have t5 : own_T n 10000 (10000 * (x + 1) - 1) = n - 10000 + 1 := by unfold own_T; omega
    omega
  by_cases q2 : x < 100
  · rw [own_S1 (x := x / 10) (by omega) (by omega), own_S2 (x := x) (by omega) (by omega)]
    have t1 : own_T n 1 (x / 10) = own_T n 1 (x / 10) := own_Te (by omega)
    have t2 : own_T n 10 (10 * ((x / 10) + 1) - 1) = own_T n 10 x := own_Te (by omega)
    have t3 : own_T n 100 (100 * ((x / 10) + 1) - 1) = own_T n 100 (10 * (x + 1) - 1) := own_Te (by omega)
    have t4 : own_T n 1000 (1000 * ((x / 10) + 1) - 1) = own_T n 1000 (100 * (x + 1) - 1) := own_Te (by omega)
    have t5 : own_T n 10000 (10000 * ((x / 10) + 1) - 1) = own_T n 10000 (1000 * (x + 1) - 1) := own_Te (by omega)
    omega
  by_cases q3 : x < 1000
  · rw [own_S2 (x := x / 10) (by omega) (by omega), own_S3 (x := x) (by omega) (by omega)]
    have t1 : own_T n 1 ((x / 10) / 10) = own_T n 1 (x / 100) := own_Te (by omega)
    have t2 : own_T n 10 (x / 10) = own_T n 10 (x / 10) := own_Te (by omega)
    have t3 : own_T n 100 (10 * ((x / 10) + 1) - 1) = own_T n 100 x := own_Te (by omega)
    have t4 : own_T n 1000 (100 * ((x / 10) + 1) - 1) = own_T n 1000 (10 * (x + 1) - 1) := own_Te (by omega)
    have t5 : own_T n 10000 (1000 * ((x / 10) + 1) - 1) = own_T n 10000 (100 * (x + 1) - 1) := own_Te (by omega)
    omega
  by_cases q4 : x < 10000
  · rw [own_S3 (x := x / 10) (by omega) (by omega), own_S4 (x := x) (by omega) (by omega)]
    have t1 : own_T n 1 ((x / 10) / 100) = own_T n 1 (x / 1000) := own_Te (by omega)
    have t2 : own_T n 10 ((x / 10) / 10) = own_T n 10 (x / 100) := own_Te (by omega)
    have t3 : own_T n 100 (x / 10) = own_T n 100 (x / 10) := own_Te (by omega)
    have t4 : own_T n 1000 (10 * ((x / 10) + 1) - 1) = own_T n 1000 x := own_Te (by omega)
    have t5 : own_T n 10000 (100 * ((x / 10) + 1) - 1) = own_T n 10000 (10 * (x + 1) - 1) := own_Te (by omega)
    omega
  rw [own_S4 (x := x / 10) (by omega) (by omega), own_S5 (x := x) (by omega)]
  have t1 : own_T n 1 ((x / 10) / 1000) = own_T n 1 (x / 10000) := own_Te (by omega)
  have t2 : own_T n 10 ((x / 10) / 100) = own_T n 10 (x / 1000) := own_Te (by omega)
  have t3 : own_T n 100 ((x / 10) / 10) = own_T n 100 (x / 100) := own_Te (by omega)
  have t4 : own_T n 1000 (x / 10) = own_T n 1000 (x / 10) := own_Te (by omega)
  have t5 : own_T n 10000 (10 * ((x / 10) + 1) - 1) = own_T n 10000 x := own_Te (by omega)
  omega
theorem own_L5 {n x : Int} (h : 1 ≤ x) (h0 : x + 1 ≤ n) (h1 : ¬ x % 10 = 9) (h2 : n ≤ 65535) : own_R n (x + 1) = own_S n x + 1 := by
  by_cases q1 : x < 10
  · rw [own_R1 (x := x + 1) (by omega) (by omega), own_S1 (x := x) (by omega) (by omega)]
    have t1 : own_T n 1 (x + 1) = own_T n 1 x + 1 := own_Ts (by omega) (by omega) (by omega)
    omega
  by_cases q2 : x < 100
  · rw [own_R2 (x := x + 1) (by omega) (by omega), own_S2 (x := x) (by omega) (by omega)]
    have t1 : own_T n 1 ((x + 1) / 10) = own_T n 1 (x / 10) := own_Te (by omega)
    have t2 : own_T n 10 (x + 1) = own_T n 10 x + 1 := own_Ts (by omega) (by omega) (by omega)
    omega
  by_cases q3 : x < 1000
  · rw [own_R3 (x := x + 1) (by omega) (by omega), own_S3 (x := x) (by omega) (by omega)]
    have t1 : own_T n 1 ((x + 1) / 100) = own_T n 1 (x / 100) := own_Te (by omega)
    have t2 : own_T n 10 ((x + 1) / 10) = own_T n 10 (x / 10) := own_Te (by omega)
    have t3 : own_T n 100 (x + 1) = own_T n 100 x + 1 := own_Ts (by omega) (by omega) (by omega)
    omega
  by_cases q4 : x < 10000
  · rw [own_R4 (x := x + 1) (by omega) (by omega), own_S4 (x := x) (by omega) (by omega)]
    have t1 : own_T n 1 ((x + 1) / 1000) = own_T n 1 (x / 1000) := own_Te (by omega)
    have t2 : own_T n 10 ((x + 1) / 100) = own_T n 10 (x / 100) := own_Te (by omega)
    have t3 : own_T n 100 ((x + 1) / 10) = own_T n 100 (x / 10) := own_Te (by omega)
    have t4 : own_T n 1000 (x + 1) = own_T n 1000 x + 1 := own_Ts (by omega) (by omega) (by omega)
    omega
  rw [own_R5 (x := x + 1) (by omega), own_S5 (x := x) (by omega)]
  have t1 : own_T n 1 ((x + 1) / 10000) = own_T n 1 (x / 10000) := own_Te (by omega)
  have t2 : own_T n 10 ((x + 1) / 1000) = own_T n 10 (x / 1000) := own_Te (by omega)
  have t3 : own_T n 100 ((x + 1) / 100) = own_T n 100 (x / 100) := own_Te (by omega)
  have t4 : own_T n 1000 ((x + 1) / 10) = own_T n 1000 (x / 10) := own_Te (by omega)
  have t5 : own_T n 10000 (x + 1) = own_T n 10000 x + 1 := own_Ts (by omega) (by omega) (by omega)
  omega
theorem own_L7 {x : Int} : own_pd x < own_U x := by
  unfold own_pd own_U
  repeat' split
  all_goals omega
theorem own_L8 {a x : Int} (h : own_pd a < own_U x) (hx : 10 ≤ x) (h1 : x ≤ 65535) : own_pd a < own_U (x / 10) := by
  have : own_U x ≤ own_U (x / 10) := by
    unfold own_U
    repeat' split
    all_goals omega
  omega
theorem own_L9 {a x : Int} (h : own_pd a < own_U x) (h1 : ¬ x % 10 = 9) (h2 : x ≤ 65535) : own_pd a < own_pd (x + 1) := by
  have : own_U x = own_pd (x + 1) := by
    unfold own_U own_pd
    repeat' split
    all_goals omega
  omega
theorem own_L10 {x : Int} (h : 1 ≤ x) (h1 : 10 * x ≤ 65535) : own_LT x (10 * x) := by
  right
  unfold own_pd own_D
  repeat' split
  all_goals omega
def own_B (n I : Int) (el : List Int32) : Prop := (el.length : Int) = n ∧ 0 ≤ I ∧ I < n ∧ n ≤ 65535 ∧ (∀ i : Nat, (i : Int) ≤ I → 0 ≤ (el.getD i 0).toInt ∧ (el.getD i 0).toInt < n) ∧ (∀ i : Nat, (i : Int) + 1 ≤ I → own_LT ((el.getD i 0).toInt + 1) ((el.getD (i + 1) 0).toInt + 1))
def own_O (n J I : Int) (el : List Int32) : Prop := (el.length : Int) = n ∧ 0 ≤ I ∧ I ≤ n ∧ n ≤ 65535 ∧ (∀ i : Nat, (i : Int) < I → 0 ≤ (el.getD i 0).toInt ∧ (el.getD i 0).toInt < n) ∧ (∀ i : Nat, (i : Int) + 1 < I → own_LT ((el.getD i 0).toInt + 1) ((el.getD (i + 1) 0).toInt + 1)) ∧ (I < n → 1 ≤ J ∧ J ≤ n ∧ own_R n J = I + 1 ∧ (∀ i : Nat, (i : Int) + 1 = I → own_LT ((el.getD i 0).toInt + 1) J))
def own_K (n y I : Int) (el : List Int32) : Prop := own_B n I el ∧ 0 ≤ y ∧ y ≤ n ∧ own_S n y = I + 1 ∧ (1 ≤ y → ∀ i : Nat, (i : Int) = I → own_pd ((el.getD i 0).toInt + 1) < own_U y)
def own_W (n : Int) (el : List Int32) : Prop := (el.length : Int) = n ∧ (∀ i : Nat, (i : Int) < n → 0 ≤ (el.getD i 0).toInt ∧ (el.getD i 0).toInt < n) ∧ (∀ i : Nat, (i : Int) + 1 < n → own_LT ((el.getD i 0).toInt + 1) ((el.getD (i + 1) 0).toInt + 1))
theorem own_gs (el : List Int32) (k i : Nat) (v : Int32) (h : k < el.length) : (el.set k v).getD i 0 = if i = k then v else el.getD i 0 := by
  rw [List.getD_eq_getElem?_getD, List.getD_eq_getElem?_getD, List.getElem?_set]
  by_cases e : k = i
  · subst e; rw [if_pos rfl, if_pos rfl, if_pos h]; rfl
  · rw [if_neg e, if_neg (Ne.symm e)]
theorem own_b {n J I : Int} {el : List Int32} {v : Int32} {k : Nat} (hO : own_O n J I el) (h : I < n) (hk : (k : Int) = I) (hv : v.toInt = J - 1) : own_B n I (el.set k v) ∧ ((el.set k v).getD k 0).toInt + 1 = J := by
  obtain ⟨l1, i0, i1, n1, A, B, D⟩ := hO
  obtain ⟨j1, j2, -, D⟩ := D h
  have kl : k < el.length := by omega
  refine ⟨⟨by rw [List.length_set]; exact l1, i0, h, n1, fun i hi => ?_, fun i hi => ?_⟩, ?_⟩
  · rw [own_gs _ _ _ _ kl]
    split
    · omega
    · exact A i (by omega)
  · rw [own_gs _ _ _ _ kl, own_gs _ _ _ _ kl, if_neg (by omega)]
    split
    · have := D i (by omega)
      rw [hv]
      have e : J - 1 + 1 = J := by omega
      rw [e]; exact this
    · exact B i (by omega)
  · rw [own_gs _ _ _ _ kl, if_pos rfl]; omega
theorem own_cA {n J I : Int} {el : List Int32} {k : Nat} (hB : own_B n I el) (hk : (k : Int) = I) (hv : (el.getD k 0).toInt + 1 = J) (h1 : 1 ≤ J) (hR : own_R n J = I + 1) (h : 10 * J ≤ n) : own_O n (10 * J) (I + 1) el := by
  obtain ⟨l1, i0, i1, n1, A, B⟩ := hB
  refine ⟨l1, by omega, by omega, n1, fun i hi => A i (by omega), fun i hi => B i (by omega), fun _ => ⟨by omega, h, ?_, fun i hi => ?_⟩⟩
  · rw [own_L2 h1 h n1]; omega
  · obtain rfl : i = k := by omega
    rw [hv]; exact own_L10 h1 (by omega)
theorem own_cB {n J I : Int} {el : List Int32} {k : Nat} (hB : own_B n I el) (hk : (k : Int) = I) (hv : (el.getD k 0).toInt + 1 = J) (h1 : 1 ≤ J) (h2 : J ≤ n) (hR : own_R n J = I + 1) (h : n < 10 * J) : own_K n J I el := by
  have n1 := hB.2.2.2.1
  refine ⟨hB, by omega, h2, ?_, fun _ i hi => ?_⟩
  · rw [own_L3 h1 h2 h n1]; exact hR
  · obtain rfl : i = k := by omega
    rw [hv]; exact own_L7
theorem own_kS {n y I : Int} {el : List Int32} (hK : own_K n y I el) (h : y % 10 = 9 ∨ n < y + 1) : own_K n (y / 10) I el ∧ 0 < y := by
  obtain ⟨hB, y0, yn, hS, hU⟩ := hK
  have n1 := hB.2.2.2.1; have i0 := hB.2.1; have i1 := hB.2.2.1
  have y1 : 1 ≤ y := by omega
  refine ⟨⟨hB, by omega, by omega, ?_, fun g i hi => ?_⟩, by omega⟩
  · rw [own_L4 y1 yn h n1]; exact hS
  · exact own_L8 (hU y1 i hi) (by omega) (by omega)
theorem own_kE {n y I : Int} {el : List Int32} (hK : own_K n y I el) (h : ¬ y % 10 = 9) (h1 : ¬ n < y + 1) : own_O n (y + 1) (I + 1) el := by
  obtain ⟨hB, y0, yn, hS, hU⟩ := hK
  obtain ⟨l1, i0, i1, n1, A, B⟩ := hB
  refine ⟨l1, by omega, by omega, n1, fun i hi => A i (by omega), fun i hi => B i (by omega), fun hi => ?_⟩
  have y1 : 1 ≤ y := by
    rcases Int.lt_or_le y 1 with g | g
    · have : y = 0 := by omega
      subst this
      rw [own_S0] at hS; omega
    · exact g
  refine ⟨by omega, by omega, ?_, fun i hi => ?_⟩
  · rw [own_L5 y1 (by omega) h n1]; omega
  · exact Or.inl (own_L9 (hU y1 i (by omega)) h (by omega))
theorem own_O0 {n : Int32} (hn : 0 ≤ n.toInt ∧ n.toInt ≤ 65535) : own_O n.toInt (1 : Int64).toInt (0 : Int32).toInt (List.replicate n.toInt.toNat (0 : Int32)) := by
  have k1 : (1 : Int64).toInt = 1 := rfl
  have k0 : (0 : Int32).toInt = 0 := rfl
  rw [k1, k0]
  refine ⟨by rw [List.length_replicate]; omega, by omega, hn.1, hn.2, fun i hi => by omega, fun i hi => by omega, fun h => ⟨by omega, by omega, own_L1 (by omega), fun i hi => by omega⟩⟩
theorem own_i32 {x : Int64} (h : 0 ≤ x.toInt ∧ x.toInt ≤ 65535) : (x.toInt32 - (1 : Int32)).toInt = x.toInt - 1 := by
  have a := c_l2i x; have r := rng32 x.toInt32
  have k1 : (1 : Int32).toInt = 1 := rfl
  rw [own_sub (by omega) (by omega), k1]; omega
theorem own_m10 {x : Int64} (h : 0 ≤ x.toInt ∧ x.toInt ≤ 65535) : (x * (10 : Int64)).toInt = 10 * x.toInt := by
  have a := c_lmul x 10; have r := rng64 (x * 10)
  have k1 : (10 : Int64).toInt = 10 := rfl
  rw [k1] at a; omega
theorem own_p1 {x : Int64} (h : 0 ≤ x.toInt ∧ x.toInt ≤ 65535) : (x + (1 : Int64)).toInt = x.toInt + 1 := by
  have a := c_ladd x 1; have r := rng64 (x + 1)
  have k1 : (1 : Int64).toInt = 1 := rfl
  rw [k1] at a; omega
theorem own_i1 {x n : Int32} (h : x < n) : (x + (1 : Int32)).toInt = x.toInt + 1 := by
  have k1 : (1 : Int32).toInt = 1 := rfl
  rw [Int32.lt_iff_toInt_lt] at h
  have := rng32 n; have := rng32 x
  rw [own_add (by omega) (by omega), k1]
theorem own_w1 {n x4 : Int32} {x2 : Int64} {el : List Int32} (hO : own_O n.toInt x2.toInt x4.toInt el) (h : x4 < n) : own_B n.toInt x4.toInt (el.set x4.toNatClampNeg (x2.toInt32 - (1 : Int32))) ∧ ((el.set x4.toNatClampNeg (x2.toInt32 - (1 : Int32))).getD x4.toNatClampNeg 0).toInt + 1 = x2.toInt ∧ (0 ≤ x2.toInt ∧ x2.toInt ≤ 65535) ∧ 1 ≤ x2.toInt ∧ x2.toInt ≤ n.toInt ∧ own_R n.toInt x2.toInt = x4.toInt + 1 ∧ ((x4.toNatClampNeg : Nat) : Int) = x4.toInt := by
  rw [Int32.lt_iff_toInt_lt] at h
  have hk := own_nat hO.2.1
  obtain ⟨j1, j2, j3, -⟩ := hO.2.2.2.2.2.2 h
  have n1 := hO.2.2.2.1
  have hb' := own_b hO h hk (own_i32 (x := x2) ⟨by omega, by omega⟩)
  exact ⟨hb'.1, hb'.2, ⟨by omega, by omega⟩, j1, j2, j3, hk⟩
theorem own_w2 {n x4 : Int32} {x2 : Int64} {el : List Int32} (hO : own_O n.toInt x2.toInt x4.toInt el) (h : x4 < n) (h2 : ¬ n.toInt64 < x2 * (10 : Int64)) : own_O n.toInt (x2 * (10 : Int64)).toInt (x4 + (1 : Int32)).toInt (el.set x4.toNatClampNeg (x2.toInt32 - (1 : Int32))) := by
  obtain ⟨w1, w2, w3, w4, w5, w6, w7⟩ := own_w1 hO h
  rw [Int64.lt_iff_toInt_lt, c_i2l, own_m10 w3] at h2
  rw [own_m10 w3, own_i1 h]
  exact own_cA w1 w7 w2 w4 w6 (by omega)
theorem own_w3 {n x4 : Int32} {x2 : Int64} {el : List Int32} (hO : own_O n.toInt x2.toInt x4.toInt el) (h : x4 < n) (h2 : n.toInt64 < x2 * (10 : Int64)) : own_K n.toInt x2.toInt x4.toInt (el.set x4.toNatClampNeg (x2.toInt32 - (1 : Int32))) := by
  obtain ⟨w1, w2, w3, w4, w5, w6, w7⟩ := own_w1 hO h
  rw [Int64.lt_iff_toInt_lt, c_i2l, own_m10 w3] at h2
  exact own_cB w1 w7 w2 w4 w5 w6 (by omega)
theorem own_kr {n x4 : Int32} {x2 : Int64} {el : List Int32} (hK : own_K n.toInt x2.toInt x4.toInt el) : 0 ≤ x2.toInt ∧ x2.toInt ≤ 65535 := ⟨hK.2.1, by have := hK.2.2.1; have := hK.1.2.2.2.1; omega⟩
theorem own_md {x : Int64} (h : 0 ≤ x.toInt ∧ x.toInt ≤ 65535) : ((9 : Int64) = x % (10 : Int64)) ↔ x.toInt % 10 = 9 := by
  have k1 : (10 : Int64).toInt = 10 := rfl
  have k9 : (9 : Int64).toInt = 9 := rfl
  have a := own_remL x 10 h.1
  rw [k1] at a
  rw [← Int64.toInt_inj, k9, a]
  omega
theorem own_dv {x : Int64} (h : 0 ≤ x.toInt ∧ x.toInt ≤ 65535) : (x / (10 : Int64)).toInt = x.toInt / 10 := (c_ldiv x 10 _ rfl (by decide)).1 h.1
theorem own_w4 {n x4 : Int32} {x2 : Int64} {el : List Int32} (hK : own_K n.toInt x2.toInt x4.toInt el) (h : x2.toInt % 10 = 9 ∨ n.toInt < x2.toInt + 1) : own_K n.toInt (x2 / (10 : Int64)).toInt x4.toInt el ∧ (x2 / (10 : Int64)).toInt.toNat < x2.toInt.toNat := by
  have a := own_kS hK h
  have r := own_kr hK
  rw [own_dv r]
  exact ⟨a.1, by omega⟩
theorem own_w5 {n x4 : Int32} {x2 : Int64} {el : List Int32} (hK : own_K n.toInt x2.toInt x4.toInt el) (h : (9 : Int64) = x2 % (10 : Int64)) : own_K n.toInt (x2 / (10 : Int64)).toInt x4.toInt el ∧ (x2 / (10 : Int64)).toInt.toNat < x2.toInt.toNat := own_w4 hK (Or.inl ((own_md (own_kr hK)).mp h))
theorem own_w6 {n x4 : Int32} {x2 : Int64} {el : List Int32} (hK : own_K n.toInt x2.toInt x4.toInt el) (h : n.toInt64 < x2 + (1 : Int64)) : own_K n.toInt (x2 / (10 : Int64)).toInt x4.toInt el ∧ (x2 / (10 : Int64)).toInt.toNat < x2.toInt.toNat := own_w4 hK (Or.inr (by rw [Int64.lt_iff_toInt_lt, c_i2l, own_p1 (own_kr hK)] at h; exact h))
theorem own_kl {n x4 : Int32} {x2 : Int64} {el : List Int32} (hK : own_K n.toInt x2.toInt x4.toInt el) : x4 < n := by
  rw [Int32.lt_iff_toInt_lt]; exact hK.1.2.2.1
theorem own_w7 {n x4 : Int32} {x2 : Int64} {el : List Int32} (hK : own_K n.toInt x2.toInt x4.toInt el) (h : ¬ (9 : Int64) = x2 % (10 : Int64)) (h1 : ¬ n.toInt64 < x2 + (1 : Int64)) : own_O n.toInt (x2 + (1 : Int64)).toInt (x4 + (1 : Int32)).toInt el := by
  have r := own_kr hK
  rw [Int64.lt_iff_toInt_lt, c_i2l, own_p1 r] at h1
  rw [own_p1 r, own_i1 (own_kl hK)]
  exact own_kE hK (fun g => h ((own_md r).mpr g)) h1
theorem own_ms {n x4 : Int32} (h : x4 < n) : (n.toInt - (x4 + (1 : Int32)).toInt).toNat < (n.toInt - x4.toInt).toNat := by
  rw [own_i1 h]
  rw [Int32.lt_iff_toInt_lt] at h
  omega
theorem own_oI {n x4 : Int32} {x2 : Int64} {el : List Int32} (hO : own_O n.toInt x2.toInt x4.toInt el) (h : x4 < n) : 0 ≤ x4.toInt ∧ x4.toInt < (el.length : Int) := by
  rw [Int32.lt_iff_toInt_lt] at h
  have := hO.1; have := hO.2.1; omega
theorem own_oW {n x4 : Int32} {x2 : Int64} {el : List Int32} (hO : own_O n.toInt x2.toInt x4.toInt el) (h : ¬ x4 < n) : own_W n.toInt el := by
  rw [Int32.lt_iff_toInt_lt] at h
  obtain ⟨l1, i0, i1, n1, A, B, -⟩ := hO
  exact ⟨l1, fun i hi => A i (by omega), fun i hi => B i (by omega)⟩
theorem d1_0 : decode prog_147_method_6_code 0 = .ok (.iload_n 0, 1) := by decide +kernel
theorem d1_1 : decode prog_147_method_6_code 1 = .ok (.newarray .int, 2) := by decide +kernel
theorem d1_3 : decode prog_147_method_6_code 3 = .ok (.astore_n 1, 1) := by decide +kernel
theorem d1_4 : decode prog_147_method_6_code 4 = .ok (.lconst 1, 1) := by decide +kernel
theorem d1_5 : decode prog_147_method_6_code 5 = .ok (.lstore_n 2, 1) := by decide +kernel
theorem d1_6 : decode prog_147_method_6_code 6 = .ok (.iconst 0, 1) := by decide +kernel
theorem d1_7 : decode prog_147_method_6_code 7 = .ok (.istore 4, 2) := by decide +kernel
theorem d1_9 : decode prog_147_method_6_code 9 = .ok (.iload 4, 2) := by decide +kernel
theorem d1_11 : decode prog_147_method_6_code 11 = .ok (.iload_n 0, 1) := by decide +kernel
theorem d1_12 : decode prog_147_method_6_code 12 = .ok (.if_icmp .ge 71, 3) := by decide +kernel
theorem d1_15 : decode prog_147_method_6_code 15 = .ok (.aload_n 1, 1) := by decide +kernel
theorem d1_16 : decode prog_147_method_6_code 16 = .ok (.iload 4, 2) := by decide +kernel
theorem d1_18 : decode prog_147_method_6_code 18 = .ok (.lload_n 2, 1) := by decide +kernel
theorem d1_19 : decode prog_147_method_6_code 19 = .ok (.l2i, 1) := by decide +kernel
theorem d1_20 : decode prog_147_method_6_code 20 = .ok (.iconst 1, 1) := by decide +kernel
theorem d1_21 : decode prog_147_method_6_code 21 = .ok (.isub, 1) := by decide +kernel
theorem d1_22 : decode prog_147_method_6_code 22 = .ok (.iastore, 1) := by decide +kernel
theorem d1_23 : decode prog_147_method_6_code 23 = .ok (.lload_n 2, 1) := by decide +kernel
theorem d1_24 : decode prog_147_method_6_code 24 = .ok (.ldc2_w 240, 3) := by decide +kernel
theorem d1_27 : decode prog_147_method_6_code 27 = .ok (.lmul, 1) := by decide +kernel
theorem d1_28 : decode prog_147_method_6_code 28 = .ok (.iload_n 0, 1) := by decide +kernel
theorem d1_29 : decode prog_147_method_6_code 29 = .ok (.i2l, 1) := by decide +kernel
theorem d1_30 : decode prog_147_method_6_code 30 = .ok (.lcmp, 1) := by decide +kernel
theorem d1_31 : decode prog_147_method_6_code 31 = .ok (.ifCond .gt 12, 3) := by decide +kernel
theorem d1_34 : decode prog_147_method_6_code 34 = .ok (.lload_n 2, 1) := by decide +kernel
theorem d1_35 : decode prog_147_method_6_code 35 = .ok (.ldc2_w 240, 3) := by decide +kernel
theorem d1_38 : decode prog_147_method_6_code 38 = .ok (.lmul, 1) := by decide +kernel
theorem d1_39 : decode prog_147_method_6_code 39 = .ok (.lstore_n 2, 1) := by decide +kernel
theorem d1_40 : decode prog_147_method_6_code 40 = .ok (.goto 37, 3) := by decide +kernel
theorem d1_43 : decode prog_147_method_6_code 43 = .ok (.ldc2_w 242, 3) := by decide +kernel
theorem d1_46 : decode prog_147_method_6_code 46 = .ok (.lload_n 2, 1) := by decide +kernel
theorem d1_47 : decode prog_147_method_6_code 47 = .ok (.ldc2_w 240, 3) := by decide +kernel
theorem d1_50 : decode prog_147_method_6_code 50 = .ok (.lrem, 1) := by decide +kernel
theorem d1_51 : decode prog_147_method_6_code 51 = .ok (.lcmp, 1) := by decide +kernel
theorem d1_52 : decode prog_147_method_6_code 52 = .ok (.ifCond .eq 12, 3) := by decide +kernel
theorem d1_55 : decode prog_147_method_6_code 55 = .ok (.lload_n 2, 1) := by decide +kernel
theorem d1_56 : decode prog_147_method_6_code 56 = .ok (.lconst 1, 1) := by decide +kernel
theorem d1_57 : decode prog_147_method_6_code 57 = .ok (.ladd, 1) := by decide +kernel
theorem d1_58 : decode prog_147_method_6_code 58 = .ok (.iload_n 0, 1) := by decide +kernel
theorem d1_59 : decode prog_147_method_6_code 59 = .ok (.i2l, 1) := by decide +kernel
theorem d1_60 : decode prog_147_method_6_code 60 = .ok (.lcmp, 1) := by decide +kernel
theorem d1_61 : decode prog_147_method_6_code 61 = .ok (.ifCond .le 12, 3) := by decide +kernel
theorem d1_64 : decode prog_147_method_6_code 64 = .ok (.lload_n 2, 1) := by decide +kernel
theorem d1_65 : decode prog_147_method_6_code 65 = .ok (.ldc2_w 240, 3) := by decide +kernel
theorem d1_68 : decode prog_147_method_6_code 68 = .ok (.ldiv, 1) := by decide +kernel
theorem d1_69 : decode prog_147_method_6_code 69 = .ok (.lstore_n 2, 1) := by decide +kernel
theorem d1_70 : decode prog_147_method_6_code 70 = .ok (.goto (-27), 3) := by decide +kernel
theorem d1_73 : decode prog_147_method_6_code 73 = .ok (.lload_n 2, 1) := by decide +kernel
theorem d1_74 : decode prog_147_method_6_code 74 = .ok (.lconst 1, 1) := by decide +kernel
theorem d1_75 : decode prog_147_method_6_code 75 = .ok (.ladd, 1) := by decide +kernel
theorem d1_76 : decode prog_147_method_6_code 76 = .ok (.lstore_n 2, 1) := by decide +kernel
theorem d1_77 : decode prog_147_method_6_code 77 = .ok (.iinc 4 1, 3) := by decide +kernel
theorem d1_80 : decode prog_147_method_6_code 80 = .ok (.goto (-71), 3) := by decide +kernel
theorem d1_83 : decode prog_147_method_6_code 83 = .ok (.aload_n 1, 1) := by decide +kernel
theorem d1_84 : decode prog_147_method_6_code 84 = .ok (.areturn, 1) := by decide +kernel
theorem pn_0 : plainName "com/example/gridwake/gridwake/workload/Generator" = true := by first | (simp [plainName, overriddenIn]; done) | decide +kernel
theorem ef_ordK (m : MethodId) (x0 : Int32) : entryFrame m #[(.int x0)] 5 = mkF m 0 #[.val (.int x0), .unset, .unset, .unset, .unset] [] := by first | (simp [entryFrame, mkF, argsToLocals, Value.category]; done) | rfl
def QordK (Z : State) (n : Int32)  (h0 : Heap) (n0 : Nat) (v : Option Value) (h : Heap) (L : List Loc) : Prop := ∃ (b : Addr), ∃ (el : List Int32), v = some (.ref b) ∧ Fr n0 L ∧ Keep h0 h [] ∧ h0.size ≤ b ∧ VA Z h b .int (el.map Value.int) ∧ (own_W n.toInt el)
set_option maxRecDepth 65536 in
set_option maxHeartbeats 40000000 in
theorem rm_ordK (l : Launch) (Z : State) (a0 : Array Value) (hw : ∀ d ∈ tables_1, d.before a0 Z = true) (ws : List Jvm.Cond) (n : Int32)  (h0 : Heap) (n0 : Nat) (Z0 : n0 ≤ h0.size) (hn : 0 ≤ n.toInt ∧ n.toInt ≤ 65535) :
    MetFree l (⟨"com/example/gridwake/gridwake/workload/Generator", "inIdOrder", "(I)[I"⟩ : MethodName) (head1 (Jvm.Cond.code (⟨"com/example/gridwake/gridwake/workload/Generator", "inIdOrder", "(I)[I"⟩ : MethodName) prog_147_method_6_code 5 (some (.array .int)) :: ws) ({ frames := 0, cells := 1, slots := 65535, locals := 0 } : Room)) (fun A_ U => A_ = #[(.int n)] ∧ Z.Warmed39 U.vm ∧ U.heap = h0) (fun _ _ _ _ _ => True) (fun _ U o U' => ∃ v L, o = .returned v ∧ QordK Z n h0 n0 v U'.heap L ∧ FrameEnd U o U' L ({ frames := 0, cells := 1, slots := 65535, locals := 0 } : Room).cells ({ frames := 0, cells := 1, slots := 65535, locals := 0 } : Room).slots) := by
  refine MetFree.of_bodySF (plainFor_of_name pn_0) hisR ?_
  intro p e s m args below meth c s₁ Bd hml0 hP hK
  obtain ⟨rfl, hZ, hh⟩ := hP
  have hx := Bd.exec
  have hby := Bd.bytes
  have hml : c.maxLocals = 5 := hml0
  have hown : s.vm.findClass "com/example/gridwake/gridwake/workload/Generator" = some m.cls := findClass_of_methodNamed Bd.named
  have hnm := (name_of_methodNamed Bd.named Bd.method).1
  have X0 : Stand p l e ({ frames := 0, cells := 1, slots := 65535, locals := 0 } : Room) s m #[(.int n)] below meth c s₁ [] 0 0 := Stand.of_body Bd
  have e0 : s₁.heap = h0 := by rw [← hh, Bd.state]; rfl
  have N0 := Fr.nil n0
  suffices HGO : Go p e below s (QordK Z n h0 n0) ({ frames := 0, cells := 1, slots := 65535, locals := 0 } : Room).cells ({ frames := 0, cells := 1, slots := 65535, locals := 0 } : Room).slots s₁ (mkF m 0 #[.val (.int n), .unset, .unset, .unset, .unset] []) from Go.cast (ef_ordK m n) HGO
  have S9 : ∀ (N_ : Nat) (T : State) (locs : List Loc) (cells slots : Nat) (X : Stand p l e ({ frames := 0, cells := 1, slots := 65535, locals := 0 } : Room) s m #[(.int n)] below meth c T locs cells slots) (hcl : cells ≤ 1) (hsl : slots ≤ 65535) (h : Heap) (eT : T.heap = h) (N : Fr n0 locs) (x2 : Int64) (x4 : Int32)  (b1 : Addr) (el : List Int32) (K : Keep h0 h []) (fc0 : VA Z h b1 .int (el.map Value.int)) (g_b1 : n0 ≤ b1) (sz_b1 : h0.size ≤ b1) (hO : own_O n.toInt x2.toInt x4.toInt el) (hN_ : (n.toInt - x4.toInt).toNat = N_), Go p e below s (QordK Z n h0 n0) ({ frames := 0, cells := 1, slots := 65535, locals := 0 } : Room).cells ({ frames := 0, cells := 1, slots := 65535, locals := 0 } : Room).slots T (mkF m 9 #[.val (.int n), .val (.ref b1), .val (.long x2), .second, .val (.int x4)] []) := by
    intro N_; induction N_ using Nat.strongRecOn with | _ N_ IH => ?_
    have IH9 := IH
    obtain ⟨N9_, hNe_⟩ : ∃ z, z = N_ := ⟨_, rfl⟩
    rw [← hNe_] at IH9
    intro T locs cells slots X hcl hsl h eT N x2 x4 b1 el K fc0 g_b1 sz_b1 hO hN_
    subst hN_
    have Zh : n0 ≤ h.size := Nat.le_trans Z0 K.1
    have S43 : ∀ (N_ : Nat) (T : State) (locs : List Loc) (cells slots : Nat) (X : Stand p l e ({ frames := 0, cells := 1, slots := 65535, locals := 0 } : Room) s m #[(.int n)] below meth c T locs cells slots) (hcl : cells ≤ 1) (hsl : slots ≤ 65535) (h : Heap) (eT : T.heap = h) (N : Fr n0 locs) (x2 : Int64) (x4 : Int32)  (b1 : Addr) (el : List Int32) (K : Keep h0 h []) (fc0 : VA Z h b1 .int (el.map Value.int)) (g_b1 : n0 ≤ b1) (sz_b1 : h0.size ≤ b1) (hm : N9_ = (n.toInt - x4.toInt).toNat) (hK : own_K n.toInt x2.toInt x4.toInt el) (hN_ : x2.toInt.toNat = N_), Go p e below s (QordK Z n h0 n0) ({ frames := 0, cells := 1, slots := 65535, locals := 0 } : Room).cells ({ frames := 0, cells := 1, slots := 65535, locals := 0 } : Room).slots T (mkF m 43 #[.val (.int n), .val (.ref b1), .val (.long x2), .second, .val (.int x4)] []) := by
      intro N_; induction N_ using Nat.strongRecOn with | _ N_ IH => ?_
      intro T locs cells slots X hcl hsl h eT N x2 x4 b1 el K fc0 g_b1 sz_b1 hm hK hN_
      subst hN_
      have Zh : n0 ≤ h.size := Nat.le_trans Z0 K.1
      refine Go.step (T' := T) (f' := (mkF m 52 #[.val (.int n), .val (.ref b1), .val (.long x2), .second, .val (.int x4)] [(.int (lcmpW (9 : Int64) (x2 % (10 : Int64))))])) (fun t kt => ?_) ?_
      · show Steps p.tables e below (T.setTop (mkF m 43 #[.val (.int n), .val (.ref b1), .val (.long x2), .second, .val (.int x4)] [])) _
        refine X.ldc2Long hx hown (mvT hZ (hw _ (List.mem_of_getElem? (i := 7) rfl))) (g := (mkF m 43 #[.val (.int n), .val (.ref b1), .val (.long x2), .second, .val (.int x4)] [])) rfl (hb hby d1_43) _ ?_
        show Steps p.tables e below (T.setTop (mkF m 46 #[.val (.int n), .val (.ref b1), .val (.long x2), .second, .val (.int x4)] [(.long (9 : Int64))])) _
        refine XS.lloadN X.here hx rfl (hb hby d1_46) rfl ?_
        show Steps p.tables e below (T.setTop (mkF m 47 #[.val (.int n), .val (.ref b1), .val (.long x2), .second, .val (.int x4)] [(.long x2), (.long (9 : Int64))])) _
        refine X.ldc2Long hx hown (mvT hZ (hw _ (List.mem_of_getElem? (i := 6) rfl))) (g := (mkF m 47 #[.val (.int n), .val (.ref b1), .val (.long x2), .second, .val (.int x4)] [(.long x2), (.long (9 : Int64))])) rfl (hb hby d1_47) _ ?_
        show Steps p.tables e below (T.setTop (mkF m 50 #[.val (.int n), .val (.ref b1), .val (.long x2), .second, .val (.int x4)] [(.long (10 : Int64)), (.long x2), (.long (9 : Int64))])) _
        refine XS.lrem X.here hx rfl (hb hby d1_50) rfl (by decide) ?_
        show Steps p.tables e below (T.setTop (mkF m 51 #[.val (.int n), .val (.ref b1), .val (.long x2), .second, .val (.int x4)] [(.long (x2 - (x2 / (10 : Int64)) * (10 : Int64))), (.long (9 : Int64))])) _
        rw [own_lrem (x2) ((10 : Int64))]
        show Steps p.tables e below (T.setTop (mkF m 51 #[.val (.int n), .val (.ref b1), .val (.long x2), .second, .val (.int x4)] [(.long (x2 % (10 : Int64))), (.long (9 : Int64))])) _
        refine XS.lcmp X.here hx rfl (hb hby d1_51) rfl ?_
        exact kt
      by_cases hc1 : (9 : Int64) = (x2 % (10 : Int64))
      · have _ := hc1
        refine Go.step (T' := T) (f' := (mkF m 64 #[.val (.int n), .val (.ref b1), .val (.long x2), .second, .val (.int x4)] [])) (fun t kt => ?_) ?_
        · show Steps p.tables e below (T.setTop (mkF m 52 #[.val (.int n), .val (.ref b1), .val (.long x2), .second, .val (.int x4)] [(.int (lcmpW (9 : Int64) (x2 % (10 : Int64))))])) _
          refine XS.ifYes X.here hx rfl (pc0 := 52) (pc' := 64) rfl (hb hby d1_52) rfl ((if0 _ _).trans (teq ((lw_eq _ _).mpr hc1)).1) (by decide) (by decide) ?_
          exact kt
        refine Go.step (T' := T) (f' := (mkF m 43 #[.val (.int n), .val (.ref b1), .val (.long (x2 / (10 : Int64))), .second, .val (.int x4)] [])) (fun t kt => ?_) ?_
        · show Steps p.tables e below (T.setTop (mkF m 64 #[.val (.int n), .val (.ref b1), .val (.long x2), .second, .val (.int x4)] [])) _
          refine XS.lloadN X.here hx rfl (hb hby d1_64) rfl ?_
          show Steps p.tables e below (T.setTop (mkF m 65 #[.val (.int n), .val (.ref b1), .val (.long x2), .second, .val (.int x4)] [(.long x2)])) _
          refine X.ldc2Long hx hown (mvT hZ (hw _ (List.mem_of_getElem? (i := 6) rfl))) (g := (mkF m 65 #[.val (.int n), .val (.ref b1), .val (.long x2), .second, .val (.int x4)] [(.long x2)])) rfl (hb hby d1_65) _ ?_
          show Steps p.tables e below (T.setTop (mkF m 68 #[.val (.int n), .val (.ref b1), .val (.long x2), .second, .val (.int x4)] [(.long (10 : Int64)), (.long x2)])) _
          refine XS.ldiv X.here hx rfl (hb hby d1_68) rfl (by decide) ?_
          show Steps p.tables e below (T.setTop (mkF m 69 #[.val (.int n), .val (.ref b1), .val (.long x2), .second, .val (.int x4)] [(.long (x2 / (10 : Int64)))])) _
          refine XS.lstoreN X.here hx rfl (hb hby d1_69) rfl (l' := #[.val (.int n), .val (.ref b1), .val (.long (x2 / (10 : Int64))), .second, .val (.int x4)]) rfl ?_
          show Steps p.tables e below (T.setTop (mkF m 70 #[.val (.int n), .val (.ref b1), .val (.long (x2 / (10 : Int64))), .second, .val (.int x4)] [])) _
          refine XS.goto X.here hx rfl (pc0 := 70) (pc' := 43) rfl (hb hby d1_70) (by decide) (by decide) ?_
          exact kt
        exact IH _ ((own_w5 hK (by assumption)).2) _ _ _ _ X (Nat.le_trans hcl (by decide)) (Nat.le_trans hsl (by decide)) h eT N (x2 / (10 : Int64)) x4 b1 el K fc0 g_b1 sz_b1 hm (own_w5 hK (by assumption)).1 rfl
      · have _ := hc1
        refine Go.step (T' := T) (f' := (mkF m 55 #[.val (.int n), .val (.ref b1), .val (.long x2), .second, .val (.int x4)] [])) (fun t kt => ?_) ?_
        · show Steps p.tables e below (T.setTop (mkF m 52 #[.val (.int n), .val (.ref b1), .val (.long x2), .second, .val (.int x4)] [(.int (lcmpW (9 : Int64) (x2 % (10 : Int64))))])) _
          refine XS.ifNo X.here hx rfl (hb hby d1_52) rfl ((if0 _ _).trans (feq (fun q => hc1 ((lw_eq _ _).mp q))).1) ?_
          exact kt
        refine Go.step (T' := T) (f' := (mkF m 61 #[.val (.int n), .val (.ref b1), .val (.long x2), .second, .val (.int x4)] [(.int (lcmpW (x2 + (1 : Int64)) (n.toInt64)))])) (fun t kt => ?_) ?_
        · show Steps p.tables e below (T.setTop (mkF m 55 #[.val (.int n), .val (.ref b1), .val (.long x2), .second, .val (.int x4)] [])) _
          refine XS.lloadN X.here hx rfl (hb hby d1_55) rfl ?_
          show Steps p.tables e below (T.setTop (mkF m 56 #[.val (.int n), .val (.ref b1), .val (.long x2), .second, .val (.int x4)] [(.long x2)])) _
          refine XS.lconst X.here hx rfl (hb hby d1_56) ?_
          show Steps p.tables e below (T.setTop (mkF m 57 #[.val (.int n), .val (.ref b1), .val (.long x2), .second, .val (.int x4)] [(.long (1 : Int64)), (.long x2)])) _
          refine XS.ladd X.here hx rfl (hb hby d1_57) rfl ?_
          show Steps p.tables e below (T.setTop (mkF m 58 #[.val (.int n), .val (.ref b1), .val (.long x2), .second, .val (.int x4)] [(.long (x2 + (1 : Int64)))])) _
          refine XS.iloadN X.here hx rfl (hb hby d1_58) rfl ?_
          show Steps p.tables e below (T.setTop (mkF m 59 #[.val (.int n), .val (.ref b1), .val (.long x2), .second, .val (.int x4)] [(.int n), (.long (x2 + (1 : Int64)))])) _
          refine XS.i2l X.here hx rfl (hb hby d1_59) rfl ?_
          show Steps p.tables e below (T.setTop (mkF m 60 #[.val (.int n), .val (.ref b1), .val (.long x2), .second, .val (.int x4)] [(.long (n.toInt64)), (.long (x2 + (1 : Int64)))])) _
          refine XS.lcmp X.here hx rfl (hb hby d1_60) rfl ?_
          exact kt
        by_cases hc2 : (n.toInt64) < (x2 + (1 : Int64))
        · have _ := hc2
          refine Go.step (T' := T) (f' := (mkF m 64 #[.val (.int n), .val (.ref b1), .val (.long x2), .second, .val (.int x4)] [])) (fun t kt => ?_) ?_
          · show Steps p.tables e below (T.setTop (mkF m 61 #[.val (.int n), .val (.ref b1), .val (.long x2), .second, .val (.int x4)] [(.int (lcmpW (x2 + (1 : Int64)) (n.toInt64)))])) _
            refine XS.ifNo X.here hx rfl (hb hby d1_61) rfl ((if0 _ _).trans (tlt ((lw_gt _ _).mpr hc2)).2.2.2) ?_
            exact kt
          refine Go.step (T' := T) (f' := (mkF m 43 #[.val (.int n), .val (.ref b1), .val (.long (x2 / (10 : Int64))), .second, .val (.int x4)] [])) (fun t kt => ?_) ?_
          · show Steps p.tables e below (T.setTop (mkF m 64 #[.val (.int n), .val (.ref b1), .val (.long x2), .second, .val (.int x4)] [])) _
            refine XS.lloadN X.here hx rfl (hb hby d1_64) rfl ?_
            show Steps p.tables e below (T.setTop (mkF m 65 #[.val (.int n), .val (.ref b1), .val (.long x2), .second, .val (.int x4)] [(.long x2)])) _
            refine X.ldc2Long hx hown (mvT hZ (hw _ (List.mem_of_getElem? (i := 6) rfl))) (g := (mkF m 65 #[.val (.int n), .val (.ref b1), .val (.long x2), .second, .val (.int x4)] [(.long x2)])) rfl (hb hby d1_65) _ ?_
            show Steps p.tables e below (T.setTop (mkF m 68 #[.val (.int n), .val (.ref b1), .val (.long x2), .second, .val (.int x4)] [(.long (10 : Int64)), (.long x2)])) _
            refine XS.ldiv X.here hx rfl (hb hby d1_68) rfl (by decide) ?_
            show Steps p.tables e below (T.setTop (mkF m 69 #[.val (.int n), .val (.ref b1), .val (.long x2), .second, .val (.int x4)] [(.long (x2 / (10 : Int64)))])) _
            refine XS.lstoreN X.here hx rfl (hb hby d1_69) rfl (l' := #[.val (.int n), .val (.ref b1), .val (.long (x2 / (10 : Int64))), .second, .val (.int x4)]) rfl ?_
            show Steps p.tables e below (T.setTop (mkF m 70 #[.val (.int n), .val (.ref b1), .val (.long (x2 / (10 : Int64))), .second, .val (.int x4)] [])) _
            refine XS.goto X.here hx rfl (pc0 := 70) (pc' := 43) rfl (hb hby d1_70) (by decide) (by decide) ?_
            exact kt
          exact IH _ ((own_w6 hK (by assumption)).2) _ _ _ _ X (Nat.le_trans hcl (by decide)) (Nat.le_trans hsl (by decide)) h eT N (x2 / (10 : Int64)) x4 b1 el K fc0 g_b1 sz_b1 hm (own_w6 hK (by assumption)).1 rfl
        · have _ := hc2
          refine Go.step (T' := T) (f' := (mkF m 73 #[.val (.int n), .val (.ref b1), .val (.long x2), .second, .val (.int x4)] [])) (fun t kt => ?_) ?_
          · show Steps p.tables e below (T.setTop (mkF m 61 #[.val (.int n), .val (.ref b1), .val (.long x2), .second, .val (.int x4)] [(.int (lcmpW (x2 + (1 : Int64)) (n.toInt64)))])) _
            refine XS.ifYes X.here hx rfl (pc0 := 61) (pc' := 73) rfl (hb hby d1_61) rfl ((if0 _ _).trans (flt (fun q => hc2 ((lw_gt _ _).mp q))).2.2.2) (by decide) (by decide) ?_
            exact kt
          refine Go.step (T' := T) (f' := (mkF m 9 #[.val (.int n), .val (.ref b1), .val (.long (x2 + (1 : Int64))), .second, .val (.int (x4 + (1 : Int32)))] [])) (fun t kt => ?_) ?_
          · show Steps p.tables e below (T.setTop (mkF m 73 #[.val (.int n), .val (.ref b1), .val (.long x2), .second, .val (.int x4)] [])) _
            refine XS.lloadN X.here hx rfl (hb hby d1_73) rfl ?_
            show Steps p.tables e below (T.setTop (mkF m 74 #[.val (.int n), .val (.ref b1), .val (.long x2), .second, .val (.int x4)] [(.long x2)])) _
            refine XS.lconst X.here hx rfl (hb hby d1_74) ?_
            show Steps p.tables e below (T.setTop (mkF m 75 #[.val (.int n), .val (.ref b1), .val (.long x2), .second, .val (.int x4)] [(.long (1 : Int64)), (.long x2)])) _
            refine XS.ladd X.here hx rfl (hb hby d1_75) rfl ?_
            show Steps p.tables e below (T.setTop (mkF m 76 #[.val (.int n), .val (.ref b1), .val (.long x2), .second, .val (.int x4)] [(.long (x2 + (1 : Int64)))])) _
            refine XS.lstoreN X.here hx rfl (hb hby d1_76) rfl (l' := #[.val (.int n), .val (.ref b1), .val (.long (x2 + (1 : Int64))), .second, .val (.int x4)]) rfl ?_
            show Steps p.tables e below (T.setTop (mkF m 77 #[.val (.int n), .val (.ref b1), .val (.long (x2 + (1 : Int64))), .second, .val (.int x4)] [])) _
            refine XS.iinc X.here hx rfl (hb hby d1_77) rfl (l' := #[.val (.int n), .val (.ref b1), .val (.long (x2 + (1 : Int64))), .second, .val (.int (x4 + (1 : Int32)))]) rfl ?_
            show Steps p.tables e below (T.setTop (mkF m 80 #[.val (.int n), .val (.ref b1), .val (.long (x2 + (1 : Int64))), .second, .val (.int (x4 + (1 : Int32)))] [])) _
            refine XS.goto X.here hx rfl (pc0 := 80) (pc' := 9) rfl (hb hby d1_80) (by decide) (by decide) ?_
            exact kt
          exact IH9 _ (hm ▸ own_ms (own_kl hK)) _ _ _ _ X (Nat.le_trans hcl (by decide)) (Nat.le_trans hsl (by decide)) h eT N (x2 + (1 : Int64)) (x4 + (1 : Int32)) b1 el K fc0 g_b1 sz_b1 (own_w7 hK (by assumption) (by assumption)) rfl
    refine Go.step (T' := T) (f' := (mkF m 12 #[.val (.int n), .val (.ref b1), .val (.long x2), .second, .val (.int x4)] [(.int n), (.int x4)])) (fun t kt => ?_) ?_
    · show Steps p.tables e below (T.setTop (mkF m 9 #[.val (.int n), .val (.ref b1), .val (.long x2), .second, .val (.int x4)] [])) _
      refine XS.iload X.here hx rfl (hb hby d1_9) rfl ?_
      show Steps p.tables e below (T.setTop (mkF m 11 #[.val (.int n), .val (.ref b1), .val (.long x2), .second, .val (.int x4)] [(.int x4)])) _
      refine XS.iloadN X.here hx rfl (hb hby d1_11) rfl ?_
      exact kt
    by_cases hc3 : x4 < n
    · have _ := hc3
      refine Go.step (T' := T) (f' := (mkF m 15 #[.val (.int n), .val (.ref b1), .val (.long x2), .second, .val (.int x4)] [])) (fun t kt => ?_) ?_
      · show Steps p.tables e below (T.setTop (mkF m 12 #[.val (.int n), .val (.ref b1), .val (.long x2), .second, .val (.int x4)] [(.int n), (.int x4)])) _
        refine XS.icmpNo X.here hx rfl (hb hby d1_12) rfl (tlt hc3).2.1 ?_
        exact kt
      have ix4 : 0 ≤ (x4).toInt ∧ (x4).toInt < ((el).length : Int) := own_oI hO (by assumption)
      obtain ⟨T5, h5, X5, e5, W5, V5, st5⟩ := putI X hx hZ eT fc0 ix4.1 ix4.2 (g := (mkF m 22 #[.val (.int n), .val (.ref b1), .val (.long x2), .second, .val (.int x4)] [(.int ((x2.toInt32) - (1 : Int32))), (.int x4), (.ref b1)])) rfl rfl (hb hby d1_22)
      have G6 : VA Z h5 b1 .int ((el.set x4.toNatClampNeg ((x2.toInt32) - (1 : Int32))).map Value.int) := V5
      have N5 := Fr.snoc X5 N g_b1
      have K5 : Keep h0 h5 [] := Keep.wr K W5 (Or.inr sz_b1)
      have Z5 : n0 ≤ h5.size := Nat.le_trans Z0 K5.1
      refine Go.step (T' := T5) (f' := (mkF m 31 #[.val (.int n), .val (.ref b1), .val (.long x2), .second, .val (.int x4)] [(.int (lcmpW (x2 * (10 : Int64)) (n.toInt64)))])) (fun t kt => ?_) ?_
      · show Steps p.tables e below (T.setTop (mkF m 15 #[.val (.int n), .val (.ref b1), .val (.long x2), .second, .val (.int x4)] [])) _
        refine XS.aloadN X.here hx rfl (hb hby d1_15) rfl rfl ?_
        show Steps p.tables e below (T.setTop (mkF m 16 #[.val (.int n), .val (.ref b1), .val (.long x2), .second, .val (.int x4)] [(.ref b1)])) _
        refine XS.iload X.here hx rfl (hb hby d1_16) rfl ?_
        show Steps p.tables e below (T.setTop (mkF m 18 #[.val (.int n), .val (.ref b1), .val (.long x2), .second, .val (.int x4)] [(.int x4), (.ref b1)])) _
        refine XS.lloadN X.here hx rfl (hb hby d1_18) rfl ?_
        show Steps p.tables e below (T.setTop (mkF m 19 #[.val (.int n), .val (.ref b1), .val (.long x2), .second, .val (.int x4)] [(.long x2), (.int x4), (.ref b1)])) _
        refine XS.l2i X.here hx rfl (hb hby d1_19) rfl ?_
        show Steps p.tables e below (T.setTop (mkF m 20 #[.val (.int n), .val (.ref b1), .val (.long x2), .second, .val (.int x4)] [(.int (x2.toInt32)), (.int x4), (.ref b1)])) _
        refine XS.iconst X.here hx rfl (hb hby d1_20) ?_
        show Steps p.tables e below (T.setTop (mkF m 21 #[.val (.int n), .val (.ref b1), .val (.long x2), .second, .val (.int x4)] [(.int (1 : Int32)), (.int (x2.toInt32)), (.int x4), (.ref b1)])) _
        refine XS.isub X.here hx rfl (hb hby d1_21) rfl ?_
        show Steps p.tables e below (T.setTop (mkF m 22 #[.val (.int n), .val (.ref b1), .val (.long x2), .second, .val (.int x4)] [(.int ((x2.toInt32) - (1 : Int32))), (.int x4), (.ref b1)])) _
        refine st5 _ ?_
        show Steps p.tables e below (T5.setTop (mkF m 23 #[.val (.int n), .val (.ref b1), .val (.long x2), .second, .val (.int x4)] [])) _
        refine XS.lloadN X5.here hx rfl (hb hby d1_23) rfl ?_
        show Steps p.tables e below (T5.setTop (mkF m 24 #[.val (.int n), .val (.ref b1), .val (.long x2), .second, .val (.int x4)] [(.long x2)])) _
        refine X5.ldc2Long hx hown (mvT hZ (hw _ (List.mem_of_getElem? (i := 6) rfl))) (g := (mkF m 24 #[.val (.int n), .val (.ref b1), .val (.long x2), .second, .val (.int x4)] [(.long x2)])) rfl (hb hby d1_24) _ ?_
        show Steps p.tables e below (T5.setTop (mkF m 27 #[.val (.int n), .val (.ref b1), .val (.long x2), .second, .val (.int x4)] [(.long (10 : Int64)), (.long x2)])) _
        refine XS.lmul X5.here hx rfl (hb hby d1_27) rfl ?_
        show Steps p.tables e below (T5.setTop (mkF m 28 #[.val (.int n), .val (.ref b1), .val (.long x2), .second, .val (.int x4)] [(.long (x2 * (10 : Int64)))])) _
        refine XS.iloadN X5.here hx rfl (hb hby d1_28) rfl ?_
        show Steps p.tables e below (T5.setTop (mkF m 29 #[.val (.int n), .val (.ref b1), .val (.long x2), .second, .val (.int x4)] [(.int n), (.long (x2 * (10 : Int64)))])) _
        refine XS.i2l X5.here hx rfl (hb hby d1_29) rfl ?_
        show Steps p.tables e below (T5.setTop (mkF m 30 #[.val (.int n), .val (.ref b1), .val (.long x2), .second, .val (.int x4)] [(.long (n.toInt64)), (.long (x2 * (10 : Int64)))])) _
        refine XS.lcmp X5.here hx rfl (hb hby d1_30) rfl ?_
        exact kt
      by_cases hc7 : (n.toInt64) < (x2 * (10 : Int64))
      · have _ := hc7
        refine Go.step (T' := T5) (f' := (mkF m 43 #[.val (.int n), .val (.ref b1), .val (.long x2), .second, .val (.int x4)] [])) (fun t kt => ?_) ?_
        · show Steps p.tables e below (T5.setTop (mkF m 31 #[.val (.int n), .val (.ref b1), .val (.long x2), .second, .val (.int x4)] [(.int (lcmpW (x2 * (10 : Int64)) (n.toInt64)))])) _
          refine XS.ifYes X5.here hx rfl (pc0 := 31) (pc' := 43) rfl (hb hby d1_31) rfl ((if0 _ _).trans (tlt ((lw_gt _ _).mpr hc7)).2.2.1) (by decide) (by decide) ?_
          exact kt
        exact S43 _ _ _ _ _ X5 (Nat.le_trans hcl (by decide)) (Nat.le_trans hsl (by decide)) h5 e5 N5 x2 x4 b1 (el.set x4.toNatClampNeg ((x2.toInt32) - (1 : Int32))) K5 G6 g_b1 sz_b1 hNe_ (own_w3 hO (by assumption) (by assumption)) rfl
      · have _ := hc7
        refine Go.step (T' := T5) (f' := (mkF m 34 #[.val (.int n), .val (.ref b1), .val (.long x2), .second, .val (.int x4)] [])) (fun t kt => ?_) ?_
        · show Steps p.tables e below (T5.setTop (mkF m 31 #[.val (.int n), .val (.ref b1), .val (.long x2), .second, .val (.int x4)] [(.int (lcmpW (x2 * (10 : Int64)) (n.toInt64)))])) _
          refine XS.ifNo X5.here hx rfl (hb hby d1_31) rfl ((if0 _ _).trans (flt (fun q => hc7 ((lw_gt _ _).mp q))).2.2.1) ?_
          exact kt
        refine Go.step (T' := T5) (f' := (mkF m 9 #[.val (.int n), .val (.ref b1), .val (.long (x2 * (10 : Int64))), .second, .val (.int (x4 + (1 : Int32)))] [])) (fun t kt => ?_) ?_
        · show Steps p.tables e below (T5.setTop (mkF m 34 #[.val (.int n), .val (.ref b1), .val (.long x2), .second, .val (.int x4)] [])) _
          refine XS.lloadN X5.here hx rfl (hb hby d1_34) rfl ?_
          show Steps p.tables e below (T5.setTop (mkF m 35 #[.val (.int n), .val (.ref b1), .val (.long x2), .second, .val (.int x4)] [(.long x2)])) _
          refine X5.ldc2Long hx hown (mvT hZ (hw _ (List.mem_of_getElem? (i := 6) rfl))) (g := (mkF m 35 #[.val (.int n), .val (.ref b1), .val (.long x2), .second, .val (.int x4)] [(.long x2)])) rfl (hb hby d1_35) _ ?_
          show Steps p.tables e below (T5.setTop (mkF m 38 #[.val (.int n), .val (.ref b1), .val (.long x2), .second, .val (.int x4)] [(.long (10 : Int64)), (.long x2)])) _
          refine XS.lmul X5.here hx rfl (hb hby d1_38) rfl ?_
          show Steps p.tables e below (T5.setTop (mkF m 39 #[.val (.int n), .val (.ref b1), .val (.long x2), .second, .val (.int x4)] [(.long (x2 * (10 : Int64)))])) _
          refine XS.lstoreN X5.here hx rfl (hb hby d1_39) rfl (l' := #[.val (.int n), .val (.ref b1), .val (.long (x2 * (10 : Int64))), .second, .val (.int x4)]) rfl ?_
          show Steps p.tables e below (T5.setTop (mkF m 40 #[.val (.int n), .val (.ref b1), .val (.long (x2 * (10 : Int64))), .second, .val (.int x4)] [])) _
          refine XS.goto X5.here hx rfl (pc0 := 40) (pc' := 77) rfl (hb hby d1_40) (by decide) (by decide) ?_
          show Steps p.tables e below (T5.setTop (mkF m 77 #[.val (.int n), .val (.ref b1), .val (.long (x2 * (10 : Int64))), .second, .val (.int x4)] [])) _
          refine XS.iinc X5.here hx rfl (hb hby d1_77) rfl (l' := #[.val (.int n), .val (.ref b1), .val (.long (x2 * (10 : Int64))), .second, .val (.int (x4 + (1 : Int32)))]) rfl ?_
          show Steps p.tables e below (T5.setTop (mkF m 80 #[.val (.int n), .val (.ref b1), .val (.long (x2 * (10 : Int64))), .second, .val (.int (x4 + (1 : Int32)))] [])) _
          refine XS.goto X5.here hx rfl (pc0 := 80) (pc' := 9) rfl (hb hby d1_80) (by decide) (by decide) ?_
          exact kt
        exact IH9 _ (hNe_ ▸ own_ms (by assumption)) _ _ _ _ X5 (Nat.le_trans hcl (by decide)) (Nat.le_trans hsl (by decide)) h5 e5 N5 (x2 * (10 : Int64)) (x4 + (1 : Int32)) b1 (el.set x4.toNatClampNeg ((x2.toInt32) - (1 : Int32))) K5 G6 g_b1 sz_b1 (own_w2 hO (by assumption) (by assumption)) rfl
    · have _ := hc3
      refine Go.step (T' := T) (f' := (mkF m 83 #[.val (.int n), .val (.ref b1), .val (.long x2), .second, .val (.int x4)] [])) (fun t kt => ?_) ?_
      · show Steps p.tables e below (T.setTop (mkF m 12 #[.val (.int n), .val (.ref b1), .val (.long x2), .second, .val (.int x4)] [(.int n), (.int x4)])) _
        refine XS.icmpYes X.here hx rfl (pc0 := 12) (pc' := 83) rfl (hb hby d1_12) rfl (flt hc3).2.1 (by decide) (by decide) ?_
        exact kt
      refine Go.step (T' := T) (f' := (mkF m 84 #[.val (.int n), .val (.ref b1), .val (.long x2), .second, .val (.int x4)] [(.ref b1)])) (fun t kt => ?_) ?_
      · show Steps p.tables e below (T.setTop (mkF m 83 #[.val (.int n), .val (.ref b1), .val (.long x2), .second, .val (.int x4)] [])) _
        refine XS.aloadN X.here hx rfl (hb hby d1_83) rfl rfl ?_
        exact kt
      refine Go.fin X (v := some (.ref b1)) (fun h => by rw [Bd.returns] at h; cases h) Bd.notSynchronized ?_ (Nat.le_trans hcl (by decide)) (Nat.le_trans hsl (by decide)) (fun fs hr => X.areturnOut hx rfl Bd.returns rfl (hb hby d1_84) hr)
      · show QordK Z n h0 n0 _ T.heap _
        rw [eT]
        exact ⟨b1, el, rfl, N, K, sz_b1, fc0, own_oW hO (by assumption)⟩
  obtain ⟨T8, h8, X8, e8, E8, A8, st8⟩ := newI X0 hx hZ (hw _ (List.mem_of_getElem? (i := 5) rfl)) e0 (g := (mkF m 1 #[.val (.int n), .unset, .unset, .unset, .unset] [(.int n)])) rfl (hb hby d1_1) rfl hn.1 (cap := 65535) hn.2 (by decide) (Nat.le_trans (Nat.add_le_add_right (Nat.le_refl 0) 1) (by decide)) (Nat.le_trans (Nat.add_le_add_right (Nat.le_refl 0) 65535) (by decide))
  obtain ⟨b8, g8⟩ : ∃ z, z = h0.size := ⟨_, rfl⟩
  rw [← g8] at A8 st8
  have g_b8 : n0 ≤ b8 := Nat.le_trans Z0 (Nat.le_of_eq g8.symm)
  have sz_b8 : h0.size ≤ b8 := Nat.le_trans (Keep.refl h0 []).1 (Nat.le_of_eq g8.symm)
  have K8 : Keep h0 h8 [] := Keep.ext (Keep.refl h0 []) E8
  have Z8 : n0 ≤ h8.size := Nat.le_trans Z0 K8.1
  have G9 : VA Z h8 b8 .int ((List.replicate n.toInt.toNat (0 : Int32)).map Value.int) := A8
  refine Go.step (T' := T8) (f' := (mkF m 9 #[.val (.int n), .val (.ref b8), .val (.long (1 : Int64)), .second, .val (.int (0 : Int32))] [])) (fun t kt => ?_) ?_
  · show Steps p.tables e below (s₁.setTop (mkF m 0 #[.val (.int n), .unset, .unset, .unset, .unset] [])) _
    refine XS.iloadN X0.here hx rfl (hb hby d1_0) rfl ?_
    show Steps p.tables e below (s₁.setTop (mkF m 1 #[.val (.int n), .unset, .unset, .unset, .unset] [(.int n)])) _
    refine st8 _ ?_
    show Steps p.tables e below (T8.setTop (mkF m 3 #[.val (.int n), .unset, .unset, .unset, .unset] [(.ref b8)])) _
    refine XS.astoreN X8.here hx rfl (hb hby d1_3) rfl rfl (l' := #[.val (.int n), .val (.ref b8), .unset, .unset, .unset]) rfl ?_
    show Steps p.tables e below (T8.setTop (mkF m 4 #[.val (.int n), .val (.ref b8), .unset, .unset, .unset] [])) _
    refine XS.lconst X8.here hx rfl (hb hby d1_4) ?_
    show Steps p.tables e below (T8.setTop (mkF m 5 #[.val (.int n), .val (.ref b8), .unset, .unset, .unset] [(.long (1 : Int64))])) _
    refine XS.lstoreN X8.here hx rfl (hb hby d1_5) rfl (l' := #[.val (.int n), .val (.ref b8), .val (.long (1 : Int64)), .second, .unset]) rfl ?_
    show Steps p.tables e below (T8.setTop (mkF m 6 #[.val (.int n), .val (.ref b8), .val (.long (1 : Int64)), .second, .unset] [])) _
    refine XS.iconst X8.here hx rfl (hb hby d1_6) ?_
    show Steps p.tables e below (T8.setTop (mkF m 7 #[.val (.int n), .val (.ref b8), .val (.long (1 : Int64)), .second, .unset] [(.int (0 : Int32))])) _
    refine XS.istore X8.here hx rfl (hb hby d1_7) rfl (l' := #[.val (.int n), .val (.ref b8), .val (.long (1 : Int64)), .second, .val (.int (0 : Int32))]) rfl ?_
    exact kt
  exact S9 _ _ _ _ _ X8 (Nat.le_trans (Nat.add_le_add_right (Nat.le_refl 0) 1) (by decide)) (Nat.le_trans (Nat.add_le_add_right (Nat.le_refl 0) 65535) (by decide)) h8 e8 N0 (1 : Int64) (0 : Int32) b8 (List.replicate n.toInt.toNat (0 : Int32)) K8 G9 g_b8 sz_b8 (own_O0 hn) rfl
theorem d3_0 : decode method_3_code 0 = .ok (.iload_n 0, 1) := by decide +kernel
theorem d3_1 : decode method_3_code 1 = .ok (.bipush 10, 2) := by decide +kernel
theorem d3_3 : decode method_3_code 3 = .ok (.if_icmp .ge 5, 3) := by decide +kernel
theorem d3_6 : decode method_3_code 6 = .ok (.iconst 1, 1) := by decide +kernel
theorem d3_7 : decode method_3_code 7 = .ok (.ireturn, 1) := by decide +kernel
theorem d3_8 : decode method_3_code 8 = .ok (.iload_n 0, 1) := by decide +kernel
theorem d3_9 : decode method_3_code 9 = .ok (.bipush 100, 2) := by decide +kernel
theorem d3_11 : decode method_3_code 11 = .ok (.if_icmp .ge 5, 3) := by decide +kernel
theorem d3_14 : decode method_3_code 14 = .ok (.iconst 2, 1) := by decide +kernel
theorem d3_15 : decode method_3_code 15 = .ok (.ireturn, 1) := by decide +kernel
theorem d3_16 : decode method_3_code 16 = .ok (.iload_n 0, 1) := by decide +kernel
theorem d3_17 : decode method_3_code 17 = .ok (.sipush 1000, 3) := by decide +kernel
theorem d3_20 : decode method_3_code 20 = .ok (.if_icmp .ge 5, 3) := by decide +kernel
theorem d3_23 : decode method_3_code 23 = .ok (.iconst 3, 1) := by decide +kernel
theorem d3_24 : decode method_3_code 24 = .ok (.ireturn, 1) := by decide +kernel
theorem d3_25 : decode method_3_code 25 = .ok (.iload_n 0, 1) := by decide +kernel
theorem d3_26 : decode method_3_code 26 = .ok (.sipush 10000, 3) := by decide +kernel
theorem d3_29 : decode method_3_code 29 = .ok (.if_icmp .ge 5, 3) := by decide +kernel
theorem d3_32 : decode method_3_code 32 = .ok (.iconst 4, 1) := by decide +kernel
theorem d3_33 : decode method_3_code 33 = .ok (.ireturn, 1) := by decide +kernel
theorem d3_34 : decode method_3_code 34 = .ok (.iconst 5, 1) := by decide +kernel
theorem d3_35 : decode method_3_code 35 = .ok (.ireturn, 1) := by decide +kernel
theorem pn_1 : plainName "com/example/gridwake/gridwake/workload/GeneratorInIdOrderPinLaw" = true := by first | (simp [plainName, overriddenIn]; done) | decide +kernel
theorem ef_digF (m : MethodId) (x0 : Int32) : entryFrame m #[(.int x0)] 1 = mkF m 0 #[.val (.int x0)] [] := by first | (simp [entryFrame, mkF, argsToLocals, Value.category]; done) | rfl
def digF (p1 : Int32) : Int32 := (if p1 < (10 : Int32) then (1 : Int32) else (if p1 < (100 : Int32) then (2 : Int32) else (if p1 < (1000 : Int32) then (3 : Int32) else (if p1 < (10000 : Int32) then (4 : Int32) else (5 : Int32)))))
def QdigF (RES : Int32) (h0 : Heap) (n0 : Nat) (v : Option Value) (h : Heap) (L : List Loc) : Prop := v = some (.int RES) ∧ Fr n0 L ∧ h = h0
set_option maxRecDepth 65536 in
set_option maxHeartbeats 40000000 in
theorem rm_digF (l : Launch) (Z : State) (a0 : Array Value) (hw : ∀ d ∈ tables_1, d.before a0 Z = true) (ws : List Jvm.Cond) (p1 : Int32)  (h0 : Heap) (n0 : Nat) (Z0 : n0 ≤ h0.size) :
    MetFree l (⟨"com/example/gridwake/gridwake/workload/GeneratorInIdOrderPinLaw", "digits", "(I)I"⟩ : MethodName) (head1 (Jvm.Cond.code (⟨"com/example/gridwake/gridwake/workload/GeneratorInIdOrderPinLaw", "digits", "(I)I"⟩ : MethodName) method_3_code 1 (some .int) :: ws) ({ frames := 0, cells := 0, slots := 0, locals := 0 } : Room)) (fun A_ U => A_ = #[(.int p1)] ∧ Z.Warmed39 U.vm ∧ U.heap = h0) (fun _ _ _ _ _ => True) (fun _ U o U' => ∃ v L, o = .returned v ∧ QdigF (digF p1) h0 n0 v U'.heap L ∧ FrameEnd U o U' L ({ frames := 0, cells := 0, slots := 0, locals := 0 } : Room).cells ({ frames := 0, cells := 0, slots := 0, locals := 0 } : Room).slots) := by
  refine MetFree.of_bodySF (plainFor_of_name pn_1) hisR ?_
  intro p e s m args below meth c s₁ Bd hml0 hP hK
  obtain ⟨rfl, hZ, hh⟩ := hP
  have hx := Bd.exec
  have hby := Bd.bytes
  have hml : c.maxLocals = 1 := hml0
  have hown : s.vm.findClass "com/example/gridwake/gridwake/workload/GeneratorInIdOrderPinLaw" = some m.cls := findClass_of_methodNamed Bd.named
  have hnm := (name_of_methodNamed Bd.named Bd.method).1
  have X0 : Stand p l e ({ frames := 0, cells := 0, slots := 0, locals := 0 } : Room) s m #[(.int p1)] below meth c s₁ [] 0 0 := Stand.of_body Bd
  have e0 : s₁.heap = h0 := by rw [← hh, Bd.state]; rfl
  have N0 := Fr.nil n0
  obtain ⟨RES, hf⟩ : ∃ z, z = digF p1 := ⟨_, rfl⟩
  rw [← hf]
  rw [digF] at hf
  suffices HGO : Go p e below s (QdigF RES h0 n0) ({ frames := 0, cells := 0, slots := 0, locals := 0 } : Room).cells ({ frames := 0, cells := 0, slots := 0, locals := 0 } : Room).slots s₁ (mkF m 0 #[.val (.int p1)] []) from Go.cast (ef_digF m p1) HGO
  refine Go.step (T' := s₁) (f' := (mkF m 3 #[.val (.int p1)] [(.int (10 : Int32)), (.int p1)])) (fun t kt => ?_) ?_
  · show Steps p.tables e below (s₁.setTop (mkF m 0 #[.val (.int p1)] [])) _
    refine XS.iloadN X0.here hx rfl (hb hby d3_0) rfl ?_
    show Steps p.tables e below (s₁.setTop (mkF m 1 #[.val (.int p1)] [(.int p1)])) _
    refine XS.bipush X0.here hx rfl (hb hby d3_1) ?_
    exact kt
  by_cases hc1 : p1 < (10 : Int32)
  · rw [if_pos hc1] at hf
    refine Go.step (T' := s₁) (f' := (mkF m 6 #[.val (.int p1)] [])) (fun t kt => ?_) ?_
    · show Steps p.tables e below (s₁.setTop (mkF m 3 #[.val (.int p1)] [(.int (10 : Int32)), (.int p1)])) _
      refine XS.icmpNo X0.here hx rfl (hb hby d3_3) rfl (tlt hc1).2.1 ?_
      exact kt
    refine Go.step (T' := s₁) (f' := (mkF m 7 #[.val (.int p1)] [(.int (1 : Int32))])) (fun t kt => ?_) ?_
    · show Steps p.tables e below (s₁.setTop (mkF m 6 #[.val (.int p1)] [])) _
      refine XS.iconst X0.here hx rfl (hb hby d3_6) ?_
      exact kt
    refine Go.fin X0 (v := some (.int (1 : Int32))) (fun h => by rw [Bd.returns] at h; cases h) Bd.notSynchronized ?_ (Nat.le_trans (Nat.le_refl 0) (by decide)) (Nat.le_trans (Nat.le_refl 0) (by decide)) (fun fs hr => retI X0 hx Bd.returns (hb hby d3_7) hr)
    · exact ⟨by rw [hf], N0, e0⟩
  · rw [if_neg hc1] at hf
    refine Go.step (T' := s₁) (f' := (mkF m 8 #[.val (.int p1)] [])) (fun t kt => ?_) ?_
    · show Steps p.tables e below (s₁.setTop (mkF m 3 #[.val (.int p1)] [(.int (10 : Int32)), (.int p1)])) _
      refine XS.icmpYes X0.here hx rfl (pc0 := 3) (pc' := 8) rfl (hb hby d3_3) rfl (flt hc1).2.1 (by decide) (by decide) ?_
      exact kt
    refine Go.step (T' := s₁) (f' := (mkF m 11 #[.val (.int p1)] [(.int (100 : Int32)), (.int p1)])) (fun t kt => ?_) ?_
    · show Steps p.tables e below (s₁.setTop (mkF m 8 #[.val (.int p1)] [])) _
      refine XS.iloadN X0.here hx rfl (hb hby d3_8) rfl ?_
      show Steps p.tables e below (s₁.setTop (mkF m 9 #[.val (.int p1)] [(.int p1)])) _
      refine XS.bipush X0.here hx rfl (hb hby d3_9) ?_
      exact kt
    by_cases hc2 : p1 < (100 : Int32)
    · rw [if_pos hc2] at hf
      refine Go.step (T' := s₁) (f' := (mkF m 14 #[.val (.int p1)] [])) (fun t kt => ?_) ?_
      · show Steps p.tables e below (s₁.setTop (mkF m 11 #[.val (.int p1)] [(.int (100 : Int32)), (.int p1)])) _
        refine XS.icmpNo X0.here hx rfl (hb hby d3_11) rfl (tlt hc2).2.1 ?_
        exact kt
      refine Go.step (T' := s₁) (f' := (mkF m 15 #[.val (.int p1)] [(.int (2 : Int32))])) (fun t kt => ?_) ?_
      · show Steps p.tables e below (s₁.setTop (mkF m 14 #[.val (.int p1)] [])) _
        refine XS.iconst X0.here hx rfl (hb hby d3_14) ?_
        exact kt
      refine Go.fin X0 (v := some (.int (2 : Int32))) (fun h => by rw [Bd.returns] at h; cases h) Bd.notSynchronized ?_ (Nat.le_trans (Nat.le_refl 0) (by decide)) (Nat.le_trans (Nat.le_refl 0) (by decide)) (fun fs hr => retI X0 hx Bd.returns (hb hby d3_15) hr)
      · exact ⟨by rw [hf], N0, e0⟩
    · rw [if_neg hc2] at hf
      refine Go.step (T' := s₁) (f' := (mkF m 16 #[.val (.int p1)] [])) (fun t kt => ?_) ?_
      · show Steps p.tables e below (s₁.setTop (mkF m 11 #[.val (.int p1)] [(.int (100 : Int32)), (.int p1)])) _
        refine XS.icmpYes X0.here hx rfl (pc0 := 11) (pc' := 16) rfl (hb hby d3_11) rfl (flt hc2).2.1 (by decide) (by decide) ?_
        exact kt
      refine Go.step (T' := s₁) (f' := (mkF m 20 #[.val (.int p1)] [(.int (1000 : Int32)), (.int p1)])) (fun t kt => ?_) ?_
      · show Steps p.tables e below (s₁.setTop (mkF m 16 #[.val (.int p1)] [])) _
        refine XS.iloadN X0.here hx rfl (hb hby d3_16) rfl ?_
        show Steps p.tables e below (s₁.setTop (mkF m 17 #[.val (.int p1)] [(.int p1)])) _
        refine XS.sipush X0.here hx rfl (hb hby d3_17) ?_
        exact kt
      by_cases hc3 : p1 < (1000 : Int32)
      · rw [if_pos hc3] at hf
        refine Go.step (T' := s₁) (f' := (mkF m 23 #[.val (.int p1)] [])) (fun t kt => ?_) ?_
        · show Steps p.tables e below (s₁.setTop (mkF m 20 #[.val (.int p1)] [(.int (1000 : Int32)), (.int p1)])) _
          refine XS.icmpNo X0.here hx rfl (hb hby d3_20) rfl (tlt hc3).2.1 ?_
          exact kt
        refine Go.step (T' := s₁) (f' := (mkF m 24 #[.val (.int p1)] [(.int (3 : Int32))])) (fun t kt => ?_) ?_
        · show Steps p.tables e below (s₁.setTop (mkF m 23 #[.val (.int p1)] [])) _
          refine XS.iconst X0.here hx rfl (hb hby d3_23) ?_
          exact kt
        refine Go.fin X0 (v := some (.int (3 : Int32))) (fun h => by rw [Bd.returns] at h; cases h) Bd.notSynchronized ?_ (Nat.le_trans (Nat.le_refl 0) (by decide)) (Nat.le_trans (Nat.le_refl 0) (by decide)) (fun fs hr => retI X0 hx Bd.returns (hb hby d3_24) hr)
        · exact ⟨by rw [hf], N0, e0⟩
      · rw [if_neg hc3] at hf
        refine Go.step (T' := s₁) (f' := (mkF m 25 #[.val (.int p1)] [])) (fun t kt => ?_) ?_
        · show Steps p.tables e below (s₁.setTop (mkF m 20 #[.val (.int p1)] [(.int (1000 : Int32)), (.int p1)])) _
          refine XS.icmpYes X0.here hx rfl (pc0 := 20) (pc' := 25) rfl (hb hby d3_20) rfl (flt hc3).2.1 (by decide) (by decide) ?_
          exact kt
        refine Go.step (T' := s₁) (f' := (mkF m 29 #[.val (.int p1)] [(.int (10000 : Int32)), (.int p1)])) (fun t kt => ?_) ?_
        · show Steps p.tables e below (s₁.setTop (mkF m 25 #[.val (.int p1)] [])) _
          refine XS.iloadN X0.here hx rfl (hb hby d3_25) rfl ?_
          show Steps p.tables e below (s₁.setTop (mkF m 26 #[.val (.int p1)] [(.int p1)])) _
          refine XS.sipush X0.here hx rfl (hb hby d3_26) ?_
          exact kt
        by_cases hc4 : p1 < (10000 : Int32)
        · rw [if_pos hc4] at hf
          refine Go.step (T' := s₁) (f' := (mkF m 32 #[.val (.int p1)] [])) (fun t kt => ?_) ?_
          · show Steps p.tables e below (s₁.setTop (mkF m 29 #[.val (.int p1)] [(.int (10000 : Int32)), (.int p1)])) _
            refine XS.icmpNo X0.here hx rfl (hb hby d3_29) rfl (tlt hc4).2.1 ?_
            exact kt
          refine Go.step (T' := s₁) (f' := (mkF m 33 #[.val (.int p1)] [(.int (4 : Int32))])) (fun t kt => ?_) ?_
          · show Steps p.tables e below (s₁.setTop (mkF m 32 #[.val (.int p1)] [])) _
            refine XS.iconst X0.here hx rfl (hb hby d3_32) ?_
            exact kt
          refine Go.fin X0 (v := some (.int (4 : Int32))) (fun h => by rw [Bd.returns] at h; cases h) Bd.notSynchronized ?_ (Nat.le_trans (Nat.le_refl 0) (by decide)) (Nat.le_trans (Nat.le_refl 0) (by decide)) (fun fs hr => retI X0 hx Bd.returns (hb hby d3_33) hr)
          · exact ⟨by rw [hf], N0, e0⟩
        · rw [if_neg hc4] at hf
          refine Go.step (T' := s₁) (f' := (mkF m 34 #[.val (.int p1)] [])) (fun t kt => ?_) ?_
          · show Steps p.tables e below (s₁.setTop (mkF m 29 #[.val (.int p1)] [(.int (10000 : Int32)), (.int p1)])) _
            refine XS.icmpYes X0.here hx rfl (pc0 := 29) (pc' := 34) rfl (hb hby d3_29) rfl (flt hc4).2.1 (by decide) (by decide) ?_
            exact kt
          refine Go.step (T' := s₁) (f' := (mkF m 35 #[.val (.int p1)] [(.int (5 : Int32))])) (fun t kt => ?_) ?_
          · show Steps p.tables e below (s₁.setTop (mkF m 34 #[.val (.int p1)] [])) _
            refine XS.iconst X0.here hx rfl (hb hby d3_34) ?_
            exact kt
          refine Go.fin X0 (v := some (.int (5 : Int32))) (fun h => by rw [Bd.returns] at h; cases h) Bd.notSynchronized ?_ (Nat.le_trans (Nat.le_refl 0) (by decide)) (Nat.le_trans (Nat.le_refl 0) (by decide)) (fun fs hr => retI X0 hx Bd.returns (hb hby d3_35) hr)
          · exact ⟨by rw [hf], N0, e0⟩
theorem d4_0 : decode method_4_code 0 = .ok (.iload_n 0, 1) := by decide +kernel
theorem d4_1 : decode method_4_code 1 = .ok (.i2l, 1) := by decide +kernel
theorem d4_2 : decode method_4_code 2 = .ok (.lstore_n 2, 1) := by decide +kernel
theorem d4_3 : decode method_4_code 3 = .ok (.iload_n 1, 1) := by decide +kernel
theorem d4_4 : decode method_4_code 4 = .ok (.iconst 5, 1) := by decide +kernel
theorem d4_5 : decode method_4_code 5 = .ok (.if_icmp .ge 9, 3) := by decide +kernel
theorem d4_8 : decode method_4_code 8 = .ok (.lload_n 2, 1) := by decide +kernel
theorem d4_9 : decode method_4_code 9 = .ok (.ldc2_w 21, 3) := by decide +kernel
theorem d4_12 : decode method_4_code 12 = .ok (.lmul, 1) := by decide +kernel
theorem d4_13 : decode method_4_code 13 = .ok (.lstore_n 2, 1) := by decide +kernel
theorem d4_14 : decode method_4_code 14 = .ok (.iload_n 1, 1) := by decide +kernel
theorem d4_15 : decode method_4_code 15 = .ok (.iconst 4, 1) := by decide +kernel
theorem d4_16 : decode method_4_code 16 = .ok (.if_icmp .ge 9, 3) := by decide +kernel
theorem d4_19 : decode method_4_code 19 = .ok (.lload_n 2, 1) := by decide +kernel
theorem d4_20 : decode method_4_code 20 = .ok (.ldc2_w 21, 3) := by decide +kernel
theorem d4_23 : decode method_4_code 23 = .ok (.lmul, 1) := by decide +kernel
theorem d4_24 : decode method_4_code 24 = .ok (.lstore_n 2, 1) := by decide +kernel
theorem d4_25 : decode method_4_code 25 = .ok (.iload_n 1, 1) := by decide +kernel
theorem d4_26 : decode method_4_code 26 = .ok (.iconst 3, 1) := by decide +kernel
theorem d4_27 : decode method_4_code 27 = .ok (.if_icmp .ge 9, 3) := by decide +kernel
theorem d4_30 : decode method_4_code 30 = .ok (.lload_n 2, 1) := by decide +kernel
theorem d4_31 : decode method_4_code 31 = .ok (.ldc2_w 21, 3) := by decide +kernel
theorem d4_34 : decode method_4_code 34 = .ok (.lmul, 1) := by decide +kernel
theorem d4_35 : decode method_4_code 35 = .ok (.lstore_n 2, 1) := by decide +kernel
theorem d4_36 : decode method_4_code 36 = .ok (.iload_n 1, 1) := by decide +kernel
theorem d4_37 : decode method_4_code 37 = .ok (.iconst 2, 1) := by decide +kernel
theorem d4_38 : decode method_4_code 38 = .ok (.if_icmp .ge 9, 3) := by decide +kernel
theorem d4_41 : decode method_4_code 41 = .ok (.lload_n 2, 1) := by decide +kernel
theorem d4_42 : decode method_4_code 42 = .ok (.ldc2_w 21, 3) := by decide +kernel
theorem d4_45 : decode method_4_code 45 = .ok (.lmul, 1) := by decide +kernel
theorem d4_46 : decode method_4_code 46 = .ok (.lstore_n 2, 1) := by decide +kernel
theorem d4_47 : decode method_4_code 47 = .ok (.lload_n 2, 1) := by decide +kernel
theorem d4_48 : decode method_4_code 48 = .ok (.lreturn, 1) := by decide +kernel
theorem ef_padF (m : MethodId) (x0 : Int32) (x1 : Int32) : entryFrame m #[(.int x0), (.int x1)] 4 = mkF m 0 #[.val (.int x0), .val (.int x1), .unset, .unset] [] := by first | (simp [entryFrame, mkF, argsToLocals, Value.category]; done) | rfl
def padF (p1 : Int32) (p2 : Int32) : Int64 := (if p2 < (5 : Int32) then (if p2 < (4 : Int32) then (if p2 < (3 : Int32) then (if p2 < (2 : Int32) then (((((p1.toInt64) * (10 : Int64)) * (10 : Int64)) * (10 : Int64)) * (10 : Int64)) else ((((p1.toInt64) * (10 : Int64)) * (10 : Int64)) * (10 : Int64))) else (if p2 < (2 : Int32) then ((((p1.toInt64) * (10 : Int64)) * (10 : Int64)) * (10 : Int64)) else (((p1.toInt64) * (10 : Int64)) * (10 : Int64)))) else (if p2 < (3 : Int32) then (if p2 < (2 : Int32) then ((((p1.toInt64) * (10 : Int64)) * (10 : Int64)) * (10 : Int64)) else (((p1.toInt64) * (10 : Int64)) * (10 : Int64))) else (if p2 < (2 : Int32) then (((p1.toInt64) * (10 : Int64)) * (10 : Int64)) else ((p1.toInt64) * (10 : Int64))))) else (if p2 < (4 : Int32) then (if p2 < (3 : Int32) then (if p2 < (2 : Int32) then ((((p1.toInt64) * (10 : Int64)) * (10 : Int64)) * (10 : Int64)) else (((p1.toInt64) * (10 : Int64)) * (10 : Int64))) else (if p2 < (2 : Int32) then (((p1.toInt64) * (10 : Int64)) * (10 : Int64)) else ((p1.toInt64) * (10 : Int64)))) else (if p2 < (3 : Int32) then (if p2 < (2 : Int32) then (((p1.toInt64) * (10 : Int64)) * (10 : Int64)) else ((p1.toInt64) * (10 : Int64))) else (if p2 < (2 : Int32) then ((p1.toInt64) * (10 : Int64)) else (p1.toInt64)))))
def QpadF (RES : Int64) (h0 : Heap) (n0 : Nat) (v : Option Value) (h : Heap) (L : List Loc) : Prop := v = some (.long RES) ∧ Fr n0 L ∧ h = h0
set_option maxRecDepth 65536 in
set_option maxHeartbeats 40000000 in
theorem rm_padF (l : Launch) (Z : State) (a0 : Array Value) (hw : ∀ d ∈ tables_1, d.before a0 Z = true) (ws : List Jvm.Cond) (p1 : Int32) (p2 : Int32)  (h0 : Heap) (n0 : Nat) (Z0 : n0 ≤ h0.size) :
    MetFree l (⟨"com/example/gridwake/gridwake/workload/GeneratorInIdOrderPinLaw", "padded", "(II)J"⟩ : MethodName) (head1 (Jvm.Cond.code (⟨"com/example/gridwake/gridwake/workload/GeneratorInIdOrderPinLaw", "padded", "(II)J"⟩ : MethodName) method_4_code 4 (some .long) :: ws) ({ frames := 0, cells := 0, slots := 0, locals := 0 } : Room)) (fun A_ U => A_ = #[(.int p1), (.int p2)] ∧ Z.Warmed39 U.vm ∧ U.heap = h0) (fun _ _ _ _ _ => True) (fun _ U o U' => ∃ v L, o = .returned v ∧ QpadF (padF p1 p2) h0 n0 v U'.heap L ∧ FrameEnd U o U' L ({ frames := 0, cells := 0, slots := 0, locals := 0 } : Room).cells ({ frames := 0, cells := 0, slots := 0, locals := 0 } : Room).slots) := by
  refine MetFree.of_bodySF (plainFor_of_name pn_1) hisR ?_
  intro p e s m args below meth c s₁ Bd hml0 hP hK
  obtain ⟨rfl, hZ, hh⟩ := hP
  have hx := Bd.exec
  have hby := Bd.bytes
  have hml : c.maxLocals = 4 := hml0
  have hown : s.vm.findClass "com/example/gridwake/gridwake/workload/GeneratorInIdOrderPinLaw" = some m.cls := findClass_of_methodNamed Bd.named
  have hnm := (name_of_methodNamed Bd.named Bd.method).1
  have X0 : Stand p l e ({ frames := 0, cells := 0, slots := 0, locals := 0 } : Room) s m #[(.int p1), (.int p2)] below meth c s₁ [] 0 0 := Stand.of_body Bd
  have e0 : s₁.heap = h0 := by rw [← hh, Bd.state]; rfl
  have N0 := Fr.nil n0
  obtain ⟨RES, hf⟩ : ∃ z, z = padF p1 p2 := ⟨_, rfl⟩
  rw [← hf]
  rw [padF] at hf
  suffices HGO : Go p e below s (QpadF RES h0 n0) ({ frames := 0, cells := 0, slots := 0, locals := 0 } : Room).cells ({ frames := 0, cells := 0, slots := 0, locals := 0 } : Room).slots s₁ (mkF m 0 #[.val (.int p1), .val (.int p2), .unset, .unset] []) from Go.cast (ef_padF m p1 p2) HGO
  refine Go.step (T' := s₁) (f' := (mkF m 5 #[.val (.int p1), .val (.int p2), .val (.long (p1.toInt64)), .second] [(.int (5 : Int32)), (.int p2)])) (fun t kt => ?_) ?_
  · show Steps p.tables e below (s₁.setTop (mkF m 0 #[.val (.int p1), .val (.int p2), .unset, .unset] [])) _
    refine XS.iloadN X0.here hx rfl (hb hby d4_0) rfl ?_
    show Steps p.tables e below (s₁.setTop (mkF m 1 #[.val (.int p1), .val (.int p2), .unset, .unset] [(.int p1)])) _
    refine XS.i2l X0.here hx rfl (hb hby d4_1) rfl ?_
    show Steps p.tables e below (s₁.setTop (mkF m 2 #[.val (.int p1), .val (.int p2), .unset, .unset] [(.long (p1.toInt64))])) _
    refine XS.lstoreN X0.here hx rfl (hb hby d4_2) rfl (l' := #[.val (.int p1), .val (.int p2), .val (.long (p1.toInt64)), .second]) rfl ?_
    show Steps p.tables e below (s₁.setTop (mkF m 3 #[.val (.int p1), .val (.int p2), .val (.long (p1.toInt64)), .second] [])) _
    refine XS.iloadN X0.here hx rfl (hb hby d4_3) rfl ?_
    show Steps p.tables e below (s₁.setTop (mkF m 4 #[.val (.int p1), .val (.int p2), .val (.long (p1.toInt64)), .second] [(.int p2)])) _
    refine XS.iconst X0.here hx rfl (hb hby d4_4) ?_
    exact kt
  by_cases hc1 : p2 < (5 : Int32)
  · rw [if_pos hc1] at hf
    refine Go.step (T' := s₁) (f' := (mkF m 8 #[.val (.int p1), .val (.int p2), .val (.long (p1.toInt64)), .second] [])) (fun t kt => ?_) ?_
    · show Steps p.tables e below (s₁.setTop (mkF m 5 #[.val (.int p1), .val (.int p2), .val (.long (p1.toInt64)), .second] [(.int (5 : Int32)), (.int p2)])) _
      refine XS.icmpNo X0.here hx rfl (hb hby d4_5) rfl (tlt hc1).2.1 ?_
      exact kt
    refine Go.step (T' := s₁) (f' := (mkF m 16 #[.val (.int p1), .val (.int p2), .val (.long ((p1.toInt64) * (10 : Int64))), .second] [(.int (4 : Int32)), (.int p2)])) (fun t kt => ?_) ?_
    · show Steps p.tables e below (s₁.setTop (mkF m 8 #[.val (.int p1), .val (.int p2), .val (.long (p1.toInt64)), .second] [])) _
      refine XS.lloadN X0.here hx rfl (hb hby d4_8) rfl ?_
      show Steps p.tables e below (s₁.setTop (mkF m 9 #[.val (.int p1), .val (.int p2), .val (.long (p1.toInt64)), .second] [(.long (p1.toInt64))])) _
      refine X0.ldc2Long hx hown (mvT hZ (hw _ (List.mem_of_getElem? (i := 19) rfl))) (g := (mkF m 9 #[.val (.int p1), .val (.int p2), .val (.long (p1.toInt64)), .second] [(.long (p1.toInt64))])) rfl (hb hby d4_9) _ ?_
      show Steps p.tables e below (s₁.setTop (mkF m 12 #[.val (.int p1), .val (.int p2), .val (.long (p1.toInt64)), .second] [(.long (10 : Int64)), (.long (p1.toInt64))])) _
      refine XS.lmul X0.here hx rfl (hb hby d4_12) rfl ?_
      show Steps p.tables e below (s₁.setTop (mkF m 13 #[.val (.int p1), .val (.int p2), .val (.long (p1.toInt64)), .second] [(.long ((p1.toInt64) * (10 : Int64)))])) _
      refine XS.lstoreN X0.here hx rfl (hb hby d4_13) rfl (l' := #[.val (.int p1), .val (.int p2), .val (.long ((p1.toInt64) * (10 : Int64))), .second]) rfl ?_
      show Steps p.tables e below (s₁.setTop (mkF m 14 #[.val (.int p1), .val (.int p2), .val (.long ((p1.toInt64) * (10 : Int64))), .second] [])) _
      refine XS.iloadN X0.here hx rfl (hb hby d4_14) rfl ?_
      show Steps p.tables e below (s₁.setTop (mkF m 15 #[.val (.int p1), .val (.int p2), .val (.long ((p1.toInt64) * (10 : Int64))), .second] [(.int p2)])) _
      refine XS.iconst X0.here hx rfl (hb hby d4_15) ?_
      exact kt
    by_cases hc2 : p2 < (4 : Int32)
    · rw [if_pos hc2] at hf
      refine Go.step (T' := s₁) (f' := (mkF m 19 #[.val (.int p1), .val (.int p2), .val (.long ((p1.toInt64) * (10 : Int64))), .second] [])) (fun t kt => ?_) ?_
      · show Steps p.tables e below (s₁.setTop (mkF m 16 #[.val (.int p1), .val (.int p2), .val (.long ((p1.toInt64) * (10 : Int64))), .second] [(.int (4 : Int32)), (.int p2)])) _
        refine XS.icmpNo X0.here hx rfl (hb hby d4_16) rfl (tlt hc2).2.1 ?_
        exact kt
      refine Go.step (T' := s₁) (f' := (mkF m 27 #[.val (.int p1), .val (.int p2), .val (.long (((p1.toInt64) * (10 : Int64)) * (10 : Int64))), .second] [(.int (3 : Int32)), (.int p2)])) (fun t kt => ?_) ?_
      · show Steps p.tables e below (s₁.setTop (mkF m 19 #[.val (.int p1), .val (.int p2), .val (.long ((p1.toInt64) * (10 : Int64))), .second] [])) _
        refine XS.lloadN X0.here hx rfl (hb hby d4_19) rfl ?_
        show Steps p.tables e below (s₁.setTop (mkF m 20 #[.val (.int p1), .val (.int p2), .val (.long ((p1.toInt64) * (10 : Int64))), .second] [(.long ((p1.toInt64) * (10 : Int64)))])) _
        refine X0.ldc2Long hx hown (mvT hZ (hw _ (List.mem_of_getElem? (i := 19) rfl))) (g := (mkF m 20 #[.val (.int p1), .val (.int p2), .val (.long ((p1.toInt64) * (10 : Int64))), .second] [(.long ((p1.toInt64) * (10 : Int64)))])) rfl (hb hby d4_20) _ ?_
        show Steps p.tables e below (s₁.setTop (mkF m 23 #[.val (.int p1), .val (.int p2), .val (.long ((p1.toInt64) * (10 : Int64))), .second] [(.long (10 : Int64)), (.long ((p1.toInt64) * (10 : Int64)))])) _
        refine XS.lmul X0.here hx rfl (hb hby d4_23) rfl ?_
        show Steps p.tables e below (s₁.setTop (mkF m 24 #[.val (.int p1), .val (.int p2), .val (.long ((p1.toInt64) * (10 : Int64))), .second] [(.long (((p1.toInt64) * (10 : Int64)) * (10 : Int64)))])) _
        refine XS.lstoreN X0.here hx rfl (hb hby d4_24) rfl (l' := #[.val (.int p1), .val (.int p2), .val (.long (((p1.toInt64) * (10 : Int64)) * (10 : Int64))), .second]) rfl ?_
        show Steps p.tables e below (s₁.setTop (mkF m 25 #[.val (.int p1), .val (.int p2), .val (.long (((p1.toInt64) * (10 : Int64)) * (10 : Int64))), .second] [])) _
        refine XS.iloadN X0.here hx rfl (hb hby d4_25) rfl ?_
        show Steps p.tables e below (s₁.setTop (mkF m 26 #[.val (.int p1), .val (.int p2), .val (.long (((p1.toInt64) * (10 : Int64)) * (10 : Int64))), .second] [(.int p2)])) _
        refine XS.iconst X0.here hx rfl (hb hby d4_26) ?_
        exact kt
      by_cases hc3 : p2 < (3 : Int32)
      · rw [if_pos hc3] at hf
        refine Go.step (T' := s₁) (f' := (mkF m 30 #[.val (.int p1), .val (.int p2), .val (.long (((p1.toInt64) * (10 : Int64)) * (10 : Int64))), .second] [])) (fun t kt => ?_) ?_
        · show Steps p.tables e below (s₁.setTop (mkF m 27 #[.val (.int p1), .val (.int p2), .val (.long (((p1.toInt64) * (10 : Int64)) * (10 : Int64))), .second] [(.int (3 : Int32)), (.int p2)])) _
          refine XS.icmpNo X0.here hx rfl (hb hby d4_27) rfl (tlt hc3).2.1 ?_
          exact kt
        refine Go.step (T' := s₁) (f' := (mkF m 38 #[.val (.int p1), .val (.int p2), .val (.long ((((p1.toInt64) * (10 : Int64)) * (10 : Int64)) * (10 : Int64))), .second] [(.int (2 : Int32)), (.int p2)])) (fun t kt => ?_) ?_
        · show Steps p.tables e below (s₁.setTop (mkF m 30 #[.val (.int p1), .val (.int p2), .val (.long (((p1.toInt64) * (10 : Int64)) * (10 : Int64))), .second] [])) _
          refine XS.lloadN X0.here hx rfl (hb hby d4_30) rfl ?_
          show Steps p.tables e below (s₁.setTop (mkF m 31 #[.val (.int p1), .val (.int p2), .val (.long (((p1.toInt64) * (10 : Int64)) * (10 : Int64))), .second] [(.long (((p1.toInt64) * (10 : Int64)) * (10 : Int64)))])) _
          refine X0.ldc2Long hx hown (mvT hZ (hw _ (List.mem_of_getElem? (i := 19) rfl))) (g := (mkF m 31 #[.val (.int p1), .val (.int p2), .val (.long (((p1.toInt64) * (10 : Int64)) * (10 : Int64))), .second] [(.long (((p1.toInt64) * (10 : Int64)) * (10 : Int64)))])) rfl (hb hby d4_31) _ ?_
          show Steps p.tables e below (s₁.setTop (mkF m 34 #[.val (.int p1), .val (.int p2), .val (.long (((p1.toInt64) * (10 : Int64)) * (10 : Int64))), .second] [(.long (10 : Int64)), (.long (((p1.toInt64) * (10 : Int64)) * (10 : Int64)))])) _
          refine XS.lmul X0.here hx rfl (hb hby d4_34) rfl ?_
          show Steps p.tables e below (s₁.setTop (mkF m 35 #[.val (.int p1), .val (.int p2), .val (.long (((p1.toInt64) * (10 : Int64)) * (10 : Int64))), .second] [(.long ((((p1.toInt64) * (10 : Int64)) * (10 : Int64)) * (10 : Int64)))])) _
          refine XS.lstoreN X0.here hx rfl (hb hby d4_35) rfl (l' := #[.val (.int p1), .val (.int p2), .val (.long ((((p1.toInt64) * (10 : Int64)) * (10 : Int64)) * (10 : Int64))), .second]) rfl ?_
          show Steps p.tables e below (s₁.setTop (mkF m 36 #[.val (.int p1), .val (.int p2), .val (.long ((((p1.toInt64) * (10 : Int64)) * (10 : Int64)) * (10 : Int64))), .second] [])) _
          refine XS.iloadN X0.here hx rfl (hb hby d4_36) rfl ?_
          show Steps p.tables e below (s₁.setTop (mkF m 37 #[.val (.int p1), .val (.int p2), .val (.long ((((p1.toInt64) * (10 : Int64)) * (10 : Int64)) * (10 : Int64))), .second] [(.int p2)])) _
          refine XS.iconst X0.here hx rfl (hb hby d4_37) ?_
          exact kt
        by_cases hc4 : p2 < (2 : Int32)
        · rw [if_pos hc4] at hf
          refine Go.step (T' := s₁) (f' := (mkF m 41 #[.val (.int p1), .val (.int p2), .val (.long ((((p1.toInt64) * (10 : Int64)) * (10 : Int64)) * (10 : Int64))), .second] [])) (fun t kt => ?_) ?_
          · show Steps p.tables e below (s₁.setTop (mkF m 38 #[.val (.int p1), .val (.int p2), .val (.long ((((p1.toInt64) * (10 : Int64)) * (10 : Int64)) * (10 : Int64))), .second] [(.int (2 : Int32)), (.int p2)])) _
            refine XS.icmpNo X0.here hx rfl (hb hby d4_38) rfl (tlt hc4).2.1 ?_
            exact kt
          refine Go.step (T' := s₁) (f' := (mkF m 48 #[.val (.int p1), .val (.int p2), .val (.long (((((p1.toInt64) * (10 : Int64)) * (10 : Int64)) * (10 : Int64)) * (10 : Int64))), .second] [(.long (((((p1.toInt64) * (10 : Int64)) * (10 : Int64)) * (10 : Int64)) * (10 : Int64)))])) (fun t kt => ?_) ?_
          · show Steps p.tables e below (s₁.setTop (mkF m 41 #[.val (.int p1), .val (.int p2), .val (.long ((((p1.toInt64) * (10 : Int64)) * (10 : Int64)) * (10 : Int64))), .second] [])) _
            refine XS.lloadN X0.here hx rfl (hb hby d4_41) rfl ?_
            show Steps p.tables e below (s₁.setTop (mkF m 42 #[.val (.int p1), .val (.int p2), .val (.long ((((p1.toInt64) * (10 : Int64)) * (10 : Int64)) * (10 : Int64))), .second] [(.long ((((p1.toInt64) * (10 : Int64)) * (10 : Int64)) * (10 : Int64)))])) _
            refine X0.ldc2Long hx hown (mvT hZ (hw _ (List.mem_of_getElem? (i := 19) rfl))) (g := (mkF m 42 #[.val (.int p1), .val (.int p2), .val (.long ((((p1.toInt64) * (10 : Int64)) * (10 : Int64)) * (10 : Int64))), .second] [(.long ((((p1.toInt64) * (10 : Int64)) * (10 : Int64)) * (10 : Int64)))])) rfl (hb hby d4_42) _ ?_
            show Steps p.tables e below (s₁.setTop (mkF m 45 #[.val (.int p1), .val (.int p2), .val (.long ((((p1.toInt64) * (10 : Int64)) * (10 : Int64)) * (10 : Int64))), .second] [(.long (10 : Int64)), (.long ((((p1.toInt64) * (10 : Int64)) * (10 : Int64)) * (10 : Int64)))])) _
            refine XS.lmul X0.here hx rfl (hb hby d4_45) rfl ?_
            show Steps p.tables e below (s₁.setTop (mkF m 46 #[.val (.int p1), .val (.int p2), .val (.long ((((p1.toInt64) * (10 : Int64)) * (10 : Int64)) * (10 : Int64))), .second] [(.long (((((p1.toInt64) * (10 : Int64)) * (10 : Int64)) * (10 : Int64)) * (10 : Int64)))])) _
            refine XS.lstoreN X0.here hx rfl (hb hby d4_46) rfl (l' := #[.val (.int p1), .val (.int p2), .val (.long (((((p1.toInt64) * (10 : Int64)) * (10 : Int64)) * (10 : Int64)) * (10 : Int64))), .second]) rfl ?_
            show Steps p.tables e below (s₁.setTop (mkF m 47 #[.val (.int p1), .val (.int p2), .val (.long (((((p1.toInt64) * (10 : Int64)) * (10 : Int64)) * (10 : Int64)) * (10 : Int64))), .second] [])) _
            refine XS.lloadN X0.here hx rfl (hb hby d4_47) rfl ?_
            exact kt
          refine Go.fin X0 (v := some (.long (((((p1.toInt64) * (10 : Int64)) * (10 : Int64)) * (10 : Int64)) * (10 : Int64)))) (fun h => by rw [Bd.returns] at h; cases h) Bd.notSynchronized ?_ (Nat.le_trans (Nat.le_refl 0) (by decide)) (Nat.le_trans (Nat.le_refl 0) (by decide)) (fun fs hr => X0.lreturnOut hx Bd.returns (hb hby d4_48) hr)
          · exact ⟨by rw [hf], N0, e0⟩
        · rw [if_neg hc4] at hf
          refine Go.step (T' := s₁) (f' := (mkF m 47 #[.val (.int p1), .val (.int p2), .val (.long ((((p1.toInt64) * (10 : Int64)) * (10 : Int64)) * (10 : Int64))), .second] [])) (fun t kt => ?_) ?_
          · show Steps p.tables e below (s₁.setTop (mkF m 38 #[.val (.int p1), .val (.int p2), .val (.long ((((p1.toInt64) * (10 : Int64)) * (10 : Int64)) * (10 : Int64))), .second] [(.int (2 : Int32)), (.int p2)])) _
            refine XS.icmpYes X0.here hx rfl (pc0 := 38) (pc' := 47) rfl (hb hby d4_38) rfl (flt hc4).2.1 (by decide) (by decide) ?_
            exact kt
          refine Go.step (T' := s₁) (f' := (mkF m 48 #[.val (.int p1), .val (.int p2), .val (.long ((((p1.toInt64) * (10 : Int64)) * (10 : Int64)) * (10 : Int64))), .second] [(.long ((((p1.toInt64) * (10 : Int64)) * (10 : Int64)) * (10 : Int64)))])) (fun t kt => ?_) ?_
          · show Steps p.tables e below (s₁.setTop (mkF m 47 #[.val (.int p1), .val (.int p2), .val (.long ((((p1.toInt64) * (10 : Int64)) * (10 : Int64)) * (10 : Int64))), .second] [])) _
            refine XS.lloadN X0.here hx rfl (hb hby d4_47) rfl ?_
            exact kt
          refine Go.fin X0 (v := some (.long ((((p1.toInt64) * (10 : Int64)) * (10 : Int64)) * (10 : Int64)))) (fun h => by rw [Bd.returns] at h; cases h) Bd.notSynchronized ?_ (Nat.le_trans (Nat.le_refl 0) (by decide)) (Nat.le_trans (Nat.le_refl 0) (by decide)) (fun fs hr => X0.lreturnOut hx Bd.returns (hb hby d4_48) hr)
          · exact ⟨by rw [hf], N0, e0⟩
      · rw [if_neg hc3] at hf
        refine Go.step (T' := s₁) (f' := (mkF m 36 #[.val (.int p1), .val (.int p2), .val (.long (((p1.toInt64) * (10 : Int64)) * (10 : Int64))), .second] [])) (fun t kt => ?_) ?_
        · show Steps p.tables e below (s₁.setTop (mkF m 27 #[.val (.int p1), .val (.int p2), .val (.long (((p1.toInt64) * (10 : Int64)) * (10 : Int64))), .second] [(.int (3 : Int32)), (.int p2)])) _
          refine XS.icmpYes X0.here hx rfl (pc0 := 27) (pc' := 36) rfl (hb hby d4_27) rfl (flt hc3).2.1 (by decide) (by decide) ?_
          exact kt
        refine Go.step (T' := s₁) (f' := (mkF m 38 #[.val (.int p1), .val (.int p2), .val (.long (((p1.toInt64) * (10 : Int64)) * (10 : Int64))), .second] [(.int (2 : Int32)), (.int p2)])) (fun t kt => ?_) ?_
        · show Steps p.tables e below (s₁.setTop (mkF m 36 #[.val (.int p1), .val (.int p2), .val (.long (((p1.toInt64) * (10 : Int64)) * (10 : Int64))), .second] [])) _
          refine XS.iloadN X0.here hx rfl (hb hby d4_36) rfl ?_
          show Steps p.tables e below (s₁.setTop (mkF m 37 #[.val (.int p1), .val (.int p2), .val (.long (((p1.toInt64) * (10 : Int64)) * (10 : Int64))), .second] [(.int p2)])) _
          refine XS.iconst X0.here hx rfl (hb hby d4_37) ?_
          exact kt
        by_cases hc5 : p2 < (2 : Int32)
        · rw [if_pos hc5] at hf
          refine Go.step (T' := s₁) (f' := (mkF m 41 #[.val (.int p1), .val (.int p2), .val (.long (((p1.toInt64) * (10 : Int64)) * (10 : Int64))), .second] [])) (fun t kt => ?_) ?_
          · show Steps p.tables e below (s₁.setTop (mkF m 38 #[.val (.int p1), .val (.int p2), .val (.long (((p1.toInt64) * (10 : Int64)) * (10 : Int64))), .second] [(.int (2 : Int32)), (.int p2)])) _
            refine XS.icmpNo X0.here hx rfl (hb hby d4_38) rfl (tlt hc5).2.1 ?_
            exact kt
          refine Go.step (T' := s₁) (f' := (mkF m 48 #[.val (.int p1), .val (.int p2), .val (.long ((((p1.toInt64) * (10 : Int64)) * (10 : Int64)) * (10 : Int64))), .second] [(.long ((((p1.toInt64) * (10 : Int64)) * (10 : Int64)) * (10 : Int64)))])) (fun t kt => ?_) ?_
          · show Steps p.tables e below (s₁.setTop (mkF m 41 #[.val (.int p1), .val (.int p2), .val (.long (((p1.toInt64) * (10 : Int64)) * (10 : Int64))), .second] [])) _
            refine XS.lloadN X0.here hx rfl (hb hby d4_41) rfl ?_
            show Steps p.tables e below (s₁.setTop (mkF m 42 #[.val (.int p1), .val (.int p2), .val (.long (((p1.toInt64) * (10 : Int64)) * (10 : Int64))), .second] [(.long (((p1.toInt64) * (10 : Int64)) * (10 : Int64)))])) _
            refine X0.ldc2Long hx hown (mvT hZ (hw _ (List.mem_of_getElem? (i := 19) rfl))) (g := (mkF m 42 #[.val (.int p1), .val (.int p2), .val (.long (((p1.toInt64) * (10 : Int64)) * (10 : Int64))), .second] [(.long (((p1.toInt64) * (10 : Int64)) * (10 : Int64)))])) rfl (hb hby d4_42) _ ?_
            show Steps p.tables e below (s₁.setTop (mkF m 45 #[.val (.int p1), .val (.int p2), .val (.long (((p1.toInt64) * (10 : Int64)) * (10 : Int64))), .second] [(.long (10 : Int64)), (.long (((p1.toInt64) * (10 : Int64)) * (10 : Int64)))])) _
            refine XS.lmul X0.here hx rfl (hb hby d4_45) rfl ?_
            show Steps p.tables e below (s₁.setTop (mkF m 46 #[.val (.int p1), .val (.int p2), .val (.long (((p1.toInt64) * (10 : Int64)) * (10 : Int64))), .second] [(.long ((((p1.toInt64) * (10 : Int64)) * (10 : Int64)) * (10 : Int64)))])) _
            refine XS.lstoreN X0.here hx rfl (hb hby d4_46) rfl (l' := #[.val (.int p1), .val (.int p2), .val (.long ((((p1.toInt64) * (10 : Int64)) * (10 : Int64)) * (10 : Int64))), .second]) rfl ?_
            show Steps p.tables e below (s₁.setTop (mkF m 47 #[.val (.int p1), .val (.int p2), .val (.long ((((p1.toInt64) * (10 : Int64)) * (10 : Int64)) * (10 : Int64))), .second] [])) _
            refine XS.lloadN X0.here hx rfl (hb hby d4_47) rfl ?_
            exact kt
          refine Go.fin X0 (v := some (.long ((((p1.toInt64) * (10 : Int64)) * (10 : Int64)) * (10 : Int64)))) (fun h => by rw [Bd.returns] at h; cases h) Bd.notSynchronized ?_ (Nat.le_trans (Nat.le_refl 0) (by decide)) (Nat.le_trans (Nat.le_refl 0) (by decide)) (fun fs hr => X0.lreturnOut hx Bd.returns (hb hby d4_48) hr)
          · exact ⟨by rw [hf], N0, e0⟩
        · rw [if_neg hc5] at hf
          refine Go.step (T' := s₁) (f' := (mkF m 47 #[.val (.int p1), .val (.int p2), .val (.long (((p1.toInt64) * (10 : Int64)) * (10 : Int64))), .second] [])) (fun t kt => ?_) ?_
          · show Steps p.tables e below (s₁.setTop (mkF m 38 #[.val (.int p1), .val (.int p2), .val (.long (((p1.toInt64) * (10 : Int64)) * (10 : Int64))), .second] [(.int (2 : Int32)), (.int p2)])) _
            refine XS.icmpYes X0.here hx rfl (pc0 := 38) (pc' := 47) rfl (hb hby d4_38) rfl (flt hc5).2.1 (by decide) (by decide) ?_
            exact kt
          refine Go.step (T' := s₁) (f' := (mkF m 48 #[.val (.int p1), .val (.int p2), .val (.long (((p1.toInt64) * (10 : Int64)) * (10 : Int64))), .second] [(.long (((p1.toInt64) * (10 : Int64)) * (10 : Int64)))])) (fun t kt => ?_) ?_
          · show Steps p.tables e below (s₁.setTop (mkF m 47 #[.val (.int p1), .val (.int p2), .val (.long (((p1.toInt64) * (10 : Int64)) * (10 : Int64))), .second] [])) _
            refine XS.lloadN X0.here hx rfl (hb hby d4_47) rfl ?_
            exact kt
          refine Go.fin X0 (v := some (.long (((p1.toInt64) * (10 : Int64)) * (10 : Int64)))) (fun h => by rw [Bd.returns] at h; cases h) Bd.notSynchronized ?_ (Nat.le_trans (Nat.le_refl 0) (by decide)) (Nat.le_trans (Nat.le_refl 0) (by decide)) (fun fs hr => X0.lreturnOut hx Bd.returns (hb hby d4_48) hr)
          · exact ⟨by rw [hf], N0, e0⟩
    · rw [if_neg hc2] at hf
      refine Go.step (T' := s₁) (f' := (mkF m 25 #[.val (.int p1), .val (.int p2), .val (.long ((p1.toInt64) * (10 : Int64))), .second] [])) (fun t kt => ?_) ?_
      · show Steps p.tables e below (s₁.setTop (mkF m 16 #[.val (.int p1), .val (.int p2), .val (.long ((p1.toInt64) * (10 : Int64))), .second] [(.int (4 : Int32)), (.int p2)])) _
        refine XS.icmpYes X0.here hx rfl (pc0 := 16) (pc' := 25) rfl (hb hby d4_16) rfl (flt hc2).2.1 (by decide) (by decide) ?_
        exact kt
      refine Go.step (T' := s₁) (f' := (mkF m 27 #[.val (.int p1), .val (.int p2), .val (.long ((p1.toInt64) * (10 : Int64))), .second] [(.int (3 : Int32)), (.int p2)])) (fun t kt => ?_) ?_
      · show Steps p.tables e below (s₁.setTop (mkF m 25 #[.val (.int p1), .val (.int p2), .val (.long ((p1.toInt64) * (10 : Int64))), .second] [])) _
        refine XS.iloadN X0.here hx rfl (hb hby d4_25) rfl ?_
        show Steps p.tables e below (s₁.setTop (mkF m 26 #[.val (.int p1), .val (.int p2), .val (.long ((p1.toInt64) * (10 : Int64))), .second] [(.int p2)])) _
        refine XS.iconst X0.here hx rfl (hb hby d4_26) ?_
        exact kt
      by_cases hc6 : p2 < (3 : Int32)
      · rw [if_pos hc6] at hf
        refine Go.step (T' := s₁) (f' := (mkF m 30 #[.val (.int p1), .val (.int p2), .val (.long ((p1.toInt64) * (10 : Int64))), .second] [])) (fun t kt => ?_) ?_
        · show Steps p.tables e below (s₁.setTop (mkF m 27 #[.val (.int p1), .val (.int p2), .val (.long ((p1.toInt64) * (10 : Int64))), .second] [(.int (3 : Int32)), (.int p2)])) _
          refine XS.icmpNo X0.here hx rfl (hb hby d4_27) rfl (tlt hc6).2.1 ?_
          exact kt
        refine Go.step (T' := s₁) (f' := (mkF m 38 #[.val (.int p1), .val (.int p2), .val (.long (((p1.toInt64) * (10 : Int64)) * (10 : Int64))), .second] [(.int (2 : Int32)), (.int p2)])) (fun t kt => ?_) ?_
        · show Steps p.tables e below (s₁.setTop (mkF m 30 #[.val (.int p1), .val (.int p2), .val (.long ((p1.toInt64) * (10 : Int64))), .second] [])) _
          refine XS.lloadN X0.here hx rfl (hb hby d4_30) rfl ?_
          show Steps p.tables e below (s₁.setTop (mkF m 31 #[.val (.int p1), .val (.int p2), .val (.long ((p1.toInt64) * (10 : Int64))), .second] [(.long ((p1.toInt64) * (10 : Int64)))])) _
          refine X0.ldc2Long hx hown (mvT hZ (hw _ (List.mem_of_getElem? (i := 19) rfl))) (g := (mkF m 31 #[.val (.int p1), .val (.int p2), .val (.long ((p1.toInt64) * (10 : Int64))), .second] [(.long ((p1.toInt64) * (10 : Int64)))])) rfl (hb hby d4_31) _ ?_
          show Steps p.tables e below (s₁.setTop (mkF m 34 #[.val (.int p1), .val (.int p2), .val (.long ((p1.toInt64) * (10 : Int64))), .second] [(.long (10 : Int64)), (.long ((p1.toInt64) * (10 : Int64)))])) _
          refine XS.lmul X0.here hx rfl (hb hby d4_34) rfl ?_
          show Steps p.tables e below (s₁.setTop (mkF m 35 #[.val (.int p1), .val (.int p2), .val (.long ((p1.toInt64) * (10 : Int64))), .second] [(.long (((p1.toInt64) * (10 : Int64)) * (10 : Int64)))])) _
          refine XS.lstoreN X0.here hx rfl (hb hby d4_35) rfl (l' := #[.val (.int p1), .val (.int p2), .val (.long (((p1.toInt64) * (10 : Int64)) * (10 : Int64))), .second]) rfl ?_
          show Steps p.tables e below (s₁.setTop (mkF m 36 #[.val (.int p1), .val (.int p2), .val (.long (((p1.toInt64) * (10 : Int64)) * (10 : Int64))), .second] [])) _
          refine XS.iloadN X0.here hx rfl (hb hby d4_36) rfl ?_
          show Steps p.tables e below (s₁.setTop (mkF m 37 #[.val (.int p1), .val (.int p2), .val (.long (((p1.toInt64) * (10 : Int64)) * (10 : Int64))), .second] [(.int p2)])) _
          refine XS.iconst X0.here hx rfl (hb hby d4_37) ?_
          exact kt
        by_cases hc7 : p2 < (2 : Int32)
        · rw [if_pos hc7] at hf
          refine Go.step (T' := s₁) (f' := (mkF m 41 #[.val (.int p1), .val (.int p2), .val (.long (((p1.toInt64) * (10 : Int64)) * (10 : Int64))), .second] [])) (fun t kt => ?_) ?_
          · show Steps p.tables e below (s₁.setTop (mkF m 38 #[.val (.int p1), .val (.int p2), .val (.long (((p1.toInt64) * (10 : Int64)) * (10 : Int64))), .second] [(.int (2 : Int32)), (.int p2)])) _
            refine XS.icmpNo X0.here hx rfl (hb hby d4_38) rfl (tlt hc7).2.1 ?_
            exact kt
          refine Go.step (T' := s₁) (f' := (mkF m 48 #[.val (.int p1), .val (.int p2), .val (.long ((((p1.toInt64) * (10 : Int64)) * (10 : Int64)) * (10 : Int64))), .second] [(.long ((((p1.toInt64) * (10 : Int64)) * (10 : Int64)) * (10 : Int64)))])) (fun t kt => ?_) ?_
          · show Steps p.tables e below (s₁.setTop (mkF m 41 #[.val (.int p1), .val (.int p2), .val (.long (((p1.toInt64) * (10 : Int64)) * (10 : Int64))), .second] [])) _
            refine XS.lloadN X0.here hx rfl (hb hby d4_41) rfl ?_
            show Steps p.tables e below (s₁.setTop (mkF m 42 #[.val (.int p1), .val (.int p2), .val (.long (((p1.toInt64) * (10 : Int64)) * (10 : Int64))), .second] [(.long (((p1.toInt64) * (10 : Int64)) * (10 : Int64)))])) _
            refine X0.ldc2Long hx hown (mvT hZ (hw _ (List.mem_of_getElem? (i := 19) rfl))) (g := (mkF m 42 #[.val (.int p1), .val (.int p2), .val (.long (((p1.toInt64) * (10 : Int64)) * (10 : Int64))), .second] [(.long (((p1.toInt64) * (10 : Int64)) * (10 : Int64)))])) rfl (hb hby d4_42) _ ?_
            show Steps p.tables e below (s₁.setTop (mkF m 45 #[.val (.int p1), .val (.int p2), .val (.long (((p1.toInt64) * (10 : Int64)) * (10 : Int64))), .second] [(.long (10 : Int64)), (.long (((p1.toInt64) * (10 : Int64)) * (10 : Int64)))])) _
            refine XS.lmul X0.here hx rfl (hb hby d4_45) rfl ?_
            show Steps p.tables e below (s₁.setTop (mkF m 46 #[.val (.int p1), .val (.int p2), .val (.long (((p1.toInt64) * (10 : Int64)) * (10 : Int64))), .second] [(.long ((((p1.toInt64) * (10 : Int64)) * (10 : Int64)) * (10 : Int64)))])) _
            refine XS.lstoreN X0.here hx rfl (hb hby d4_46) rfl (l' := #[.val (.int p1), .val (.int p2), .val (.long ((((p1.toInt64) * (10 : Int64)) * (10 : Int64)) * (10 : Int64))), .second]) rfl ?_
            show Steps p.tables e below (s₁.setTop (mkF m 47 #[.val (.int p1), .val (.int p2), .val (.long ((((p1.toInt64) * (10 : Int64)) * (10 : Int64)) * (10 : Int64))), .second] [])) _
            refine XS.lloadN X0.here hx rfl (hb hby d4_47) rfl ?_
            exact kt
          refine Go.fin X0 (v := some (.long ((((p1.toInt64) * (10 : Int64)) * (10 : Int64)) * (10 : Int64)))) (fun h => by rw [Bd.returns] at h; cases h) Bd.notSynchronized ?_ (Nat.le_trans (Nat.le_refl 0) (by decide)) (Nat.le_trans (Nat.le_refl 0) (by decide)) (fun fs hr => X0.lreturnOut hx Bd.returns (hb hby d4_48) hr)
          · exact ⟨by rw [hf], N0, e0⟩
        · rw [if_neg hc7] at hf
          refine Go.step (T' := s₁) (f' := (mkF m 47 #[.val (.int p1), .val (.int p2), .val (.long (((p1.toInt64) * (10 : Int64)) * (10 : Int64))), .second] [])) (fun t kt => ?_) ?_
          · show Steps p.tables e below (s₁.setTop (mkF m 38 #[.val (.int p1), .val (.int p2), .val (.long (((p1.toInt64) * (10 : Int64)) * (10 : Int64))), .second] [(.int (2 : Int32)), (.int p2)])) _
            refine XS.icmpYes X0.here hx rfl (pc0 := 38) (pc' := 47) rfl (hb hby d4_38) rfl (flt hc7).2.1 (by decide) (by decide) ?_
            exact kt
          refine Go.step (T' := s₁) (f' := (mkF m 48 #[.val (.int p1), .val (.int p2), .val (.long (((p1.toInt64) * (10 : Int64)) * (10 : Int64))), .second] [(.long (((p1.toInt64) * (10 : Int64)) * (10 : Int64)))])) (fun t kt => ?_) ?_
          · show Steps p.tables e below (s₁.setTop (mkF m 47 #[.val (.int p1), .val (.int p2), .val (.long (((p1.toInt64) * (10 : Int64)) * (10 : Int64))), .second] [])) _
            refine XS.lloadN X0.here hx rfl (hb hby d4_47) rfl ?_
            exact kt
          refine Go.fin X0 (v := some (.long (((p1.toInt64) * (10 : Int64)) * (10 : Int64)))) (fun h => by rw [Bd.returns] at h; cases h) Bd.notSynchronized ?_ (Nat.le_trans (Nat.le_refl 0) (by decide)) (Nat.le_trans (Nat.le_refl 0) (by decide)) (fun fs hr => X0.lreturnOut hx Bd.returns (hb hby d4_48) hr)
          · exact ⟨by rw [hf], N0, e0⟩
      · rw [if_neg hc6] at hf
        refine Go.step (T' := s₁) (f' := (mkF m 36 #[.val (.int p1), .val (.int p2), .val (.long ((p1.toInt64) * (10 : Int64))), .second] [])) (fun t kt => ?_) ?_
        · show Steps p.tables e below (s₁.setTop (mkF m 27 #[.val (.int p1), .val (.int p2), .val (.long ((p1.toInt64) * (10 : Int64))), .second] [(.int (3 : Int32)), (.int p2)])) _
          refine XS.icmpYes X0.here hx rfl (pc0 := 27) (pc' := 36) rfl (hb hby d4_27) rfl (flt hc6).2.1 (by decide) (by decide) ?_
          exact kt
        refine Go.step (T' := s₁) (f' := (mkF m 38 #[.val (.int p1), .val (.int p2), .val (.long ((p1.toInt64) * (10 : Int64))), .second] [(.int (2 : Int32)), (.int p2)])) (fun t kt => ?_) ?_
        · show Steps p.tables e below (s₁.setTop (mkF m 36 #[.val (.int p1), .val (.int p2), .val (.long ((p1.toInt64) * (10 : Int64))), .second] [])) _
          refine XS.iloadN X0.here hx rfl (hb hby d4_36) rfl ?_
          show Steps p.tables e below (s₁.setTop (mkF m 37 #[.val (.int p1), .val (.int p2), .val (.long ((p1.toInt64) * (10 : Int64))), .second] [(.int p2)])) _
          refine XS.iconst X0.here hx rfl (hb hby d4_37) ?_
          exact kt
        by_cases hc8 : p2 < (2 : Int32)
        · rw [if_pos hc8] at hf
          refine Go.step (T' := s₁) (f' := (mkF m 41 #[.val (.int p1), .val (.int p2), .val (.long ((p1.toInt64) * (10 : Int64))), .second] [])) (fun t kt => ?_) ?_
          · show Steps p.tables e below (s₁.setTop (mkF m 38 #[.val (.int p1), .val (.int p2), .val (.long ((p1.toInt64) * (10 : Int64))), .second] [(.int (2 : Int32)), (.int p2)])) _
            refine XS.icmpNo X0.here hx rfl (hb hby d4_38) rfl (tlt hc8).2.1 ?_
            exact kt
          refine Go.step (T' := s₁) (f' := (mkF m 48 #[.val (.int p1), .val (.int p2), .val (.long (((p1.toInt64) * (10 : Int64)) * (10 : Int64))), .second] [(.long (((p1.toInt64) * (10 : Int64)) * (10 : Int64)))])) (fun t kt => ?_) ?_
          · show Steps p.tables e below (s₁.setTop (mkF m 41 #[.val (.int p1), .val (.int p2), .val (.long ((p1.toInt64) * (10 : Int64))), .second] [])) _
            refine XS.lloadN X0.here hx rfl (hb hby d4_41) rfl ?_
            show Steps p.tables e below (s₁.setTop (mkF m 42 #[.val (.int p1), .val (.int p2), .val (.long ((p1.toInt64) * (10 : Int64))), .second] [(.long ((p1.toInt64) * (10 : Int64)))])) _
            refine X0.ldc2Long hx hown (mvT hZ (hw _ (List.mem_of_getElem? (i := 19) rfl))) (g := (mkF m 42 #[.val (.int p1), .val (.int p2), .val (.long ((p1.toInt64) * (10 : Int64))), .second] [(.long ((p1.toInt64) * (10 : Int64)))])) rfl (hb hby d4_42) _ ?_
            show Steps p.tables e below (s₁.setTop (mkF m 45 #[.val (.int p1), .val (.int p2), .val (.long ((p1.toInt64) * (10 : Int64))), .second] [(.long (10 : Int64)), (.long ((p1.toInt64) * (10 : Int64)))])) _
            refine XS.lmul X0.here hx rfl (hb hby d4_45) rfl ?_
            show Steps p.tables e below (s₁.setTop (mkF m 46 #[.val (.int p1), .val (.int p2), .val (.long ((p1.toInt64) * (10 : Int64))), .second] [(.long (((p1.toInt64) * (10 : Int64)) * (10 : Int64)))])) _
            refine XS.lstoreN X0.here hx rfl (hb hby d4_46) rfl (l' := #[.val (.int p1), .val (.int p2), .val (.long (((p1.toInt64) * (10 : Int64)) * (10 : Int64))), .second]) rfl ?_
            show Steps p.tables e below (s₁.setTop (mkF m 47 #[.val (.int p1), .val (.int p2), .val (.long (((p1.toInt64) * (10 : Int64)) * (10 : Int64))), .second] [])) _
            refine XS.lloadN X0.here hx rfl (hb hby d4_47) rfl ?_
            exact kt
          refine Go.fin X0 (v := some (.long (((p1.toInt64) * (10 : Int64)) * (10 : Int64)))) (fun h => by rw [Bd.returns] at h; cases h) Bd.notSynchronized ?_ (Nat.le_trans (Nat.le_refl 0) (by decide)) (Nat.le_trans (Nat.le_refl 0) (by decide)) (fun fs hr => X0.lreturnOut hx Bd.returns (hb hby d4_48) hr)
          · exact ⟨by rw [hf], N0, e0⟩
        · rw [if_neg hc8] at hf
          refine Go.step (T' := s₁) (f' := (mkF m 47 #[.val (.int p1), .val (.int p2), .val (.long ((p1.toInt64) * (10 : Int64))), .second] [])) (fun t kt => ?_) ?_
          · show Steps p.tables e below (s₁.setTop (mkF m 38 #[.val (.int p1), .val (.int p2), .val (.long ((p1.toInt64) * (10 : Int64))), .second] [(.int (2 : Int32)), (.int p2)])) _
            refine XS.icmpYes X0.here hx rfl (pc0 := 38) (pc' := 47) rfl (hb hby d4_38) rfl (flt hc8).2.1 (by decide) (by decide) ?_
            exact kt
          refine Go.step (T' := s₁) (f' := (mkF m 48 #[.val (.int p1), .val (.int p2), .val (.long ((p1.toInt64) * (10 : Int64))), .second] [(.long ((p1.toInt64) * (10 : Int64)))])) (fun t kt => ?_) ?_
          · show Steps p.tables e below (s₁.setTop (mkF m 47 #[.val (.int p1), .val (.int p2), .val (.long ((p1.toInt64) * (10 : Int64))), .second] [])) _
            refine XS.lloadN X0.here hx rfl (hb hby d4_47) rfl ?_
            exact kt
          refine Go.fin X0 (v := some (.long ((p1.toInt64) * (10 : Int64)))) (fun h => by rw [Bd.returns] at h; cases h) Bd.notSynchronized ?_ (Nat.le_trans (Nat.le_refl 0) (by decide)) (Nat.le_trans (Nat.le_refl 0) (by decide)) (fun fs hr => X0.lreturnOut hx Bd.returns (hb hby d4_48) hr)
          · exact ⟨by rw [hf], N0, e0⟩
  · rw [if_neg hc1] at hf
    refine Go.step (T' := s₁) (f' := (mkF m 14 #[.val (.int p1), .val (.int p2), .val (.long (p1.toInt64)), .second] [])) (fun t kt => ?_) ?_
    · show Steps p.tables e below (s₁.setTop (mkF m 5 #[.val (.int p1), .val (.int p2), .val (.long (p1.toInt64)), .second] [(.int (5 : Int32)), (.int p2)])) _
      refine XS.icmpYes X0.here hx rfl (pc0 := 5) (pc' := 14) rfl (hb hby d4_5) rfl (flt hc1).2.1 (by decide) (by decide) ?_
      exact kt
    refine Go.step (T' := s₁) (f' := (mkF m 16 #[.val (.int p1), .val (.int p2), .val (.long (p1.toInt64)), .second] [(.int (4 : Int32)), (.int p2)])) (fun t kt => ?_) ?_
    · show Steps p.tables e below (s₁.setTop (mkF m 14 #[.val (.int p1), .val (.int p2), .val (.long (p1.toInt64)), .second] [])) _
      refine XS.iloadN X0.here hx rfl (hb hby d4_14) rfl ?_
      show Steps p.tables e below (s₁.setTop (mkF m 15 #[.val (.int p1), .val (.int p2), .val (.long (p1.toInt64)), .second] [(.int p2)])) _
      refine XS.iconst X0.here hx rfl (hb hby d4_15) ?_
      exact kt
    by_cases hc9 : p2 < (4 : Int32)
    · rw [if_pos hc9] at hf
      refine Go.step (T' := s₁) (f' := (mkF m 19 #[.val (.int p1), .val (.int p2), .val (.long (p1.toInt64)), .second] [])) (fun t kt => ?_) ?_
      · show Steps p.tables e below (s₁.setTop (mkF m 16 #[.val (.int p1), .val (.int p2), .val (.long (p1.toInt64)), .second] [(.int (4 : Int32)), (.int p2)])) _
        refine XS.icmpNo X0.here hx rfl (hb hby d4_16) rfl (tlt hc9).2.1 ?_
        exact kt
      refine Go.step (T' := s₁) (f' := (mkF m 27 #[.val (.int p1), .val (.int p2), .val (.long ((p1.toInt64) * (10 : Int64))), .second] [(.int (3 : Int32)), (.int p2)])) (fun t kt => ?_) ?_
      · show Steps p.tables e below (s₁.setTop (mkF m 19 #[.val (.int p1), .val (.int p2), .val (.long (p1.toInt64)), .second] [])) _
        refine XS.lloadN X0.here hx rfl (hb hby d4_19) rfl ?_
        show Steps p.tables e below (s₁.setTop (mkF m 20 #[.val (.int p1), .val (.int p2), .val (.long (p1.toInt64)), .second] [(.long (p1.toInt64))])) _
        refine X0.ldc2Long hx hown (mvT hZ (hw _ (List.mem_of_getElem? (i := 19) rfl))) (g := (mkF m 20 #[.val (.int p1), .val (.int p2), .val (.long (p1.toInt64)), .second] [(.long (p1.toInt64))])) rfl (hb hby d4_20) _ ?_
        show Steps p.tables e below (s₁.setTop (mkF m 23 #[.val (.int p1), .val (.int p2), .val (.long (p1.toInt64)), .second] [(.long (10 : Int64)), (.long (p1.toInt64))])) _
        refine XS.lmul X0.here hx rfl (hb hby d4_23) rfl ?_
        show Steps p.tables e below (s₁.setTop (mkF m 24 #[.val (.int p1), .val (.int p2), .val (.long (p1.toInt64)), .second] [(.long ((p1.toInt64) * (10 : Int64)))])) _
        refine XS.lstoreN X0.here hx rfl (hb hby d4_24) rfl (l' := #[.val (.int p1), .val (.int p2), .val (.long ((p1.toInt64) * (10 : Int64))), .second]) rfl ?_
        show Steps p.tables e below (s₁.setTop (mkF m 25 #[.val (.int p1), .val (.int p2), .val (.long ((p1.toInt64) * (10 : Int64))), .second] [])) _
        refine XS.iloadN X0.here hx rfl (hb hby d4_25) rfl ?_
        show Steps p.tables e below (s₁.setTop (mkF m 26 #[.val (.int p1), .val (.int p2), .val (.long ((p1.toInt64) * (10 : Int64))), .second] [(.int p2)])) _
        refine XS.iconst X0.here hx rfl (hb hby d4_26) ?_
        exact kt
      by_cases hc10 : p2 < (3 : Int32)
      · rw [if_pos hc10] at hf
        refine Go.step (T' := s₁) (f' := (mkF m 30 #[.val (.int p1), .val (.int p2), .val (.long ((p1.toInt64) * (10 : Int64))), .second] [])) (fun t kt => ?_) ?_
        · show Steps p.tables e below (s₁.setTop (mkF m 27 #[.val (.int p1), .val (.int p2), .val (.long ((p1.toInt64) * (10 : Int64))), .second] [(.int (3 : Int32)), (.int p2)])) _
          refine XS.icmpNo X0.here hx rfl (hb hby d4_27) rfl (tlt hc10).2.1 ?_
          exact kt
        refine Go.step (T' := s₁) (f' := (mkF m 38 #[.val (.int p1), .val (.int p2), .val (.long (((p1.toInt64) * (10 : Int64)) * (10 : Int64))), .second] [(.int (2 : Int32)), (.int p2)])) (fun t kt => ?_) ?_
        · show Steps p.tables e below (s₁.setTop (mkF m 30 #[.val (.int p1), .val (.int p2), .val (.long ((p1.toInt64) * (10 : Int64))), .second] [])) _
          refine XS.lloadN X0.here hx rfl (hb hby d4_30) rfl ?_
          show Steps p.tables e below (s₁.setTop (mkF m 31 #[.val (.int p1), .val (.int p2), .val (.long ((p1.toInt64) * (10 : Int64))), .second] [(.long ((p1.toInt64) * (10 : Int64)))])) _
          refine X0.ldc2Long hx hown (mvT hZ (hw _ (List.mem_of_getElem? (i := 19) rfl))) (g := (mkF m 31 #[.val (.int p1), .val (.int p2), .val (.long ((p1.toInt64) * (10 : Int64))), .second] [(.long ((p1.toInt64) * (10 : Int64)))])) rfl (hb hby d4_31) _ ?_
          show Steps p.tables e below (s₁.setTop (mkF m 34 #[.val (.int p1), .val (.int p2), .val (.long ((p1.toInt64) * (10 : Int64))), .second] [(.long (10 : Int64)), (.long ((p1.toInt64) * (10 : Int64)))])) _
          refine XS.lmul X0.here hx rfl (hb hby d4_34) rfl ?_
          show Steps p.tables e below (s₁.setTop (mkF m 35 #[.val (.int p1), .val (.int p2), .val (.long ((p1.toInt64) * (10 : Int64))), .second] [(.long (((p1.toInt64) * (10 : Int64)) * (10 : Int64)))])) _
          refine XS.lstoreN X0.here hx rfl (hb hby d4_35) rfl (l' := #[.val (.int p1), .val (.int p2), .val (.long (((p1.toInt64) * (10 : Int64)) * (10 : Int64))), .second]) rfl ?_
          show Steps p.tables e below (s₁.setTop (mkF m 36 #[.val (.int p1), .val (.int p2), .val (.long (((p1.toInt64) * (10 : Int64)) * (10 : Int64))), .second] [])) _
          refine XS.iloadN X0.here hx rfl (hb hby d4_36) rfl ?_
          show Steps p.tables e below (s₁.setTop (mkF m 37 #[.val (.int p1), .val (.int p2), .val (.long (((p1.toInt64) * (10 : Int64)) * (10 : Int64))), .second] [(.int p2)])) _
          refine XS.iconst X0.here hx rfl (hb hby d4_37) ?_
          exact kt
        by_cases hc11 : p2 < (2 : Int32)
        · rw [if_pos hc11] at hf
          refine Go.step (T' := s₁) (f' := (mkF m 41 #[.val (.int p1), .val (.int p2), .val (.long (((p1.toInt64) * (10 : Int64)) * (10 : Int64))), .second] [])) (fun t kt => ?_) ?_
          · show Steps p.tables e below (s₁.setTop (mkF m 38 #[.val (.int p1), .val (.int p2), .val (.long (((p1.toInt64) * (10 : Int64)) * (10 : Int64))), .second] [(.int (2 : Int32)), (.int p2)])) _
            refine XS.icmpNo X0.here hx rfl (hb hby d4_38) rfl (tlt hc11).2.1 ?_
            exact kt
          refine Go.step (T' := s₁) (f' := (mkF m 48 #[.val (.int p1), .val (.int p2), .val (.long ((((p1.toInt64) * (10 : Int64)) * (10 : Int64)) * (10 : Int64))), .second] [(.long ((((p1.toInt64) * (10 : Int64)) * (10 : Int64)) * (10 : Int64)))])) (fun t kt => ?_) ?_
          · show Steps p.tables e below (s₁.setTop (mkF m 41 #[.val (.int p1), .val (.int p2), .val (.long (((p1.toInt64) * (10 : Int64)) * (10 : Int64))), .second] [])) _
            refine XS.lloadN X0.here hx rfl (hb hby d4_41) rfl ?_
            show Steps p.tables e below (s₁.setTop (mkF m 42 #[.val (.int p1), .val (.int p2), .val (.long (((p1.toInt64) * (10 : Int64)) * (10 : Int64))), .second] [(.long (((p1.toInt64) * (10 : Int64)) * (10 : Int64)))])) _
            refine X0.ldc2Long hx hown (mvT hZ (hw _ (List.mem_of_getElem? (i := 19) rfl))) (g := (mkF m 42 #[.val (.int p1), .val (.int p2), .val (.long (((p1.toInt64) * (10 : Int64)) * (10 : Int64))), .second] [(.long (((p1.toInt64) * (10 : Int64)) * (10 : Int64)))])) rfl (hb hby d4_42) _ ?_
            show Steps p.tables e below (s₁.setTop (mkF m 45 #[.val (.int p1), .val (.int p2), .val (.long (((p1.toInt64) * (10 : Int64)) * (10 : Int64))), .second] [(.long (10 : Int64)), (.long (((p1.toInt64) * (10 : Int64)) * (10 : Int64)))])) _
            refine XS.lmul X0.here hx rfl (hb hby d4_45) rfl ?_
            show Steps p.tables e below (s₁.setTop (mkF m 46 #[.val (.int p1), .val (.int p2), .val (.long (((p1.toInt64) * (10 : Int64)) * (10 : Int64))), .second] [(.long ((((p1.toInt64) * (10 : Int64)) * (10 : Int64)) * (10 : Int64)))])) _
            refine XS.lstoreN X0.here hx rfl (hb hby d4_46) rfl (l' := #[.val (.int p1), .val (.int p2), .val (.long ((((p1.toInt64) * (10 : Int64)) * (10 : Int64)) * (10 : Int64))), .second]) rfl ?_
            show Steps p.tables e below (s₁.setTop (mkF m 47 #[.val (.int p1), .val (.int p2), .val (.long ((((p1.toInt64) * (10 : Int64)) * (10 : Int64)) * (10 : Int64))), .second] [])) _
            refine XS.lloadN X0.here hx rfl (hb hby d4_47) rfl ?_
            exact kt
          refine Go.fin X0 (v := some (.long ((((p1.toInt64) * (10 : Int64)) * (10 : Int64)) * (10 : Int64)))) (fun h => by rw [Bd.returns] at h; cases h) Bd.notSynchronized ?_ (Nat.le_trans (Nat.le_refl 0) (by decide)) (Nat.le_trans (Nat.le_refl 0) (by decide)) (fun fs hr => X0.lreturnOut hx Bd.returns (hb hby d4_48) hr)
          · exact ⟨by rw [hf], N0, e0⟩
        · rw [if_neg hc11] at hf
          refine Go.step (T' := s₁) (f' := (mkF m 47 #[.val (.int p1), .val (.int p2), .val (.long (((p1.toInt64) * (10 : Int64)) * (10 : Int64))), .second] [])) (fun t kt => ?_) ?_
          · show Steps p.tables e below (s₁.setTop (mkF m 38 #[.val (.int p1), .val (.int p2), .val (.long (((p1.toInt64) * (10 : Int64)) * (10 : Int64))), .second] [(.int (2 : Int32)), (.int p2)])) _
            refine XS.icmpYes X0.here hx rfl (pc0 := 38) (pc' := 47) rfl (hb hby d4_38) rfl (flt hc11).2.1 (by decide) (by decide) ?_
            exact kt
          refine Go.step (T' := s₁) (f' := (mkF m 48 #[.val (.int p1), .val (.int p2), .val (.long (((p1.toInt64) * (10 : Int64)) * (10 : Int64))), .second] [(.long (((p1.toInt64) * (10 : Int64)) * (10 : Int64)))])) (fun t kt => ?_) ?_
          · show Steps p.tables e below (s₁.setTop (mkF m 47 #[.val (.int p1), .val (.int p2), .val (.long (((p1.toInt64) * (10 : Int64)) * (10 : Int64))), .second] [])) _
            refine XS.lloadN X0.here hx rfl (hb hby d4_47) rfl ?_
            exact kt
          refine Go.fin X0 (v := some (.long (((p1.toInt64) * (10 : Int64)) * (10 : Int64)))) (fun h => by rw [Bd.returns] at h; cases h) Bd.notSynchronized ?_ (Nat.le_trans (Nat.le_refl 0) (by decide)) (Nat.le_trans (Nat.le_refl 0) (by decide)) (fun fs hr => X0.lreturnOut hx Bd.returns (hb hby d4_48) hr)
          · exact ⟨by rw [hf], N0, e0⟩
      · rw [if_neg hc10] at hf
        refine Go.step (T' := s₁) (f' := (mkF m 36 #[.val (.int p1), .val (.int p2), .val (.long ((p1.toInt64) * (10 : Int64))), .second] [])) (fun t kt => ?_) ?_
        · show Steps p.tables e below (s₁.setTop (mkF m 27 #[.val (.int p1), .val (.int p2), .val (.long ((p1.toInt64) * (10 : Int64))), .second] [(.int (3 : Int32)), (.int p2)])) _
          refine XS.icmpYes X0.here hx rfl (pc0 := 27) (pc' := 36) rfl (hb hby d4_27) rfl (flt hc10).2.1 (by decide) (by decide) ?_
          exact kt
        refine Go.step (T' := s₁) (f' := (mkF m 38 #[.val (.int p1), .val (.int p2), .val (.long ((p1.toInt64) * (10 : Int64))), .second] [(.int (2 : Int32)), (.int p2)])) (fun t kt => ?_) ?_
        · show Steps p.tables e below (s₁.setTop (mkF m 36 #[.val (.int p1), .val (.int p2), .val (.long ((p1.toInt64) * (10 : Int64))), .second] [])) _
          refine XS.iloadN X0.here hx rfl (hb hby d4_36) rfl ?_
          show Steps p.tables e below (s₁.setTop (mkF m 37 #[.val (.int p1), .val (.int p2), .val (.long ((p1.toInt64) * (10 : Int64))), .second] [(.int p2)])) _
          refine XS.iconst X0.here hx rfl (hb hby d4_37) ?_
          exact kt
        by_cases hc12 : p2 < (2 : Int32)
        · rw [if_pos hc12] at hf
          refine Go.step (T' := s₁) (f' := (mkF m 41 #[.val (.int p1), .val (.int p2), .val (.long ((p1.toInt64) * (10 : Int64))), .second] [])) (fun t kt => ?_) ?_
          · show Steps p.tables e below (s₁.setTop (mkF m 38 #[.val (.int p1), .val (.int p2), .val (.long ((p1.toInt64) * (10 : Int64))), .second] [(.int (2 : Int32)), (.int p2)])) _
            refine XS.icmpNo X0.here hx rfl (hb hby d4_38) rfl (tlt hc12).2.1 ?_
            exact kt
          refine Go.step (T' := s₁) (f' := (mkF m 48 #[.val (.int p1), .val (.int p2), .val (.long (((p1.toInt64) * (10 : Int64)) * (10 : Int64))), .second] [(.long (((p1.toInt64) * (10 : Int64)) * (10 : Int64)))])) (fun t kt => ?_) ?_
          · show Steps p.tables e below (s₁.setTop (mkF m 41 #[.val (.int p1), .val (.int p2), .val (.long ((p1.toInt64) * (10 : Int64))), .second] [])) _
            refine XS.lloadN X0.here hx rfl (hb hby d4_41) rfl ?_
            show Steps p.tables e below (s₁.setTop (mkF m 42 #[.val (.int p1), .val (.int p2), .val (.long ((p1.toInt64) * (10 : Int64))), .second] [(.long ((p1.toInt64) * (10 : Int64)))])) _
            refine X0.ldc2Long hx hown (mvT hZ (hw _ (List.mem_of_getElem? (i := 19) rfl))) (g := (mkF m 42 #[.val (.int p1), .val (.int p2), .val (.long ((p1.toInt64) * (10 : Int64))), .second] [(.long ((p1.toInt64) * (10 : Int64)))])) rfl (hb hby d4_42) _ ?_
            show Steps p.tables e below (s₁.setTop (mkF m 45 #[.val (.int p1), .val (.int p2), .val (.long ((p1.toInt64) * (10 : Int64))), .second] [(.long (10 : Int64)), (.long ((p1.toInt64) * (10 : Int64)))])) _
            refine XS.lmul X0.here hx rfl (hb hby d4_45) rfl ?_
            show Steps p.tables e below (s₁.setTop (mkF m 46 #[.val (.int p1), .val (.int p2), .val (.long ((p1.toInt64) * (10 : Int64))), .second] [(.long (((p1.toInt64) * (10 : Int64)) * (10 : Int64)))])) _
            refine XS.lstoreN X0.here hx rfl (hb hby d4_46) rfl (l' := #[.val (.int p1), .val (.int p2), .val (.long (((p1.toInt64) * (10 : Int64)) * (10 : Int64))), .second]) rfl ?_
            show Steps p.tables e below (s₁.setTop (mkF m 47 #[.val (.int p1), .val (.int p2), .val (.long (((p1.toInt64) * (10 : Int64)) * (10 : Int64))), .second] [])) _
            refine XS.lloadN X0.here hx rfl (hb hby d4_47) rfl ?_
            exact kt
          refine Go.fin X0 (v := some (.long (((p1.toInt64) * (10 : Int64)) * (10 : Int64)))) (fun h => by rw [Bd.returns] at h; cases h) Bd.notSynchronized ?_ (Nat.le_trans (Nat.le_refl 0) (by decide)) (Nat.le_trans (Nat.le_refl 0) (by decide)) (fun fs hr => X0.lreturnOut hx Bd.returns (hb hby d4_48) hr)
          · exact ⟨by rw [hf], N0, e0⟩
        · rw [if_neg hc12] at hf
          refine Go.step (T' := s₁) (f' := (mkF m 47 #[.val (.int p1), .val (.int p2), .val (.long ((p1.toInt64) * (10 : Int64))), .second] [])) (fun t kt => ?_) ?_
          · show Steps p.tables e below (s₁.setTop (mkF m 38 #[.val (.int p1), .val (.int p2), .val (.long ((p1.toInt64) * (10 : Int64))), .second] [(.int (2 : Int32)), (.int p2)])) _
            refine XS.icmpYes X0.here hx rfl (pc0 := 38) (pc' := 47) rfl (hb hby d4_38) rfl (flt hc12).2.1 (by decide) (by decide) ?_
            exact kt
          refine Go.step (T' := s₁) (f' := (mkF m 48 #[.val (.int p1), .val (.int p2), .val (.long ((p1.toInt64) * (10 : Int64))), .second] [(.long ((p1.toInt64) * (10 : Int64)))])) (fun t kt => ?_) ?_
          · show Steps p.tables e below (s₁.setTop (mkF m 47 #[.val (.int p1), .val (.int p2), .val (.long ((p1.toInt64) * (10 : Int64))), .second] [])) _
            refine XS.lloadN X0.here hx rfl (hb hby d4_47) rfl ?_
            exact kt
          refine Go.fin X0 (v := some (.long ((p1.toInt64) * (10 : Int64)))) (fun h => by rw [Bd.returns] at h; cases h) Bd.notSynchronized ?_ (Nat.le_trans (Nat.le_refl 0) (by decide)) (Nat.le_trans (Nat.le_refl 0) (by decide)) (fun fs hr => X0.lreturnOut hx Bd.returns (hb hby d4_48) hr)
          · exact ⟨by rw [hf], N0, e0⟩
    · rw [if_neg hc9] at hf
      refine Go.step (T' := s₁) (f' := (mkF m 25 #[.val (.int p1), .val (.int p2), .val (.long (p1.toInt64)), .second] [])) (fun t kt => ?_) ?_
      · show Steps p.tables e below (s₁.setTop (mkF m 16 #[.val (.int p1), .val (.int p2), .val (.long (p1.toInt64)), .second] [(.int (4 : Int32)), (.int p2)])) _
        refine XS.icmpYes X0.here hx rfl (pc0 := 16) (pc' := 25) rfl (hb hby d4_16) rfl (flt hc9).2.1 (by decide) (by decide) ?_
        exact kt
      refine Go.step (T' := s₁) (f' := (mkF m 27 #[.val (.int p1), .val (.int p2), .val (.long (p1.toInt64)), .second] [(.int (3 : Int32)), (.int p2)])) (fun t kt => ?_) ?_
      · show Steps p.tables e below (s₁.setTop (mkF m 25 #[.val (.int p1), .val (.int p2), .val (.long (p1.toInt64)), .second] [])) _
        refine XS.iloadN X0.here hx rfl (hb hby d4_25) rfl ?_
        show Steps p.tables e below (s₁.setTop (mkF m 26 #[.val (.int p1), .val (.int p2), .val (.long (p1.toInt64)), .second] [(.int p2)])) _
        refine XS.iconst X0.here hx rfl (hb hby d4_26) ?_
        exact kt
      by_cases hc13 : p2 < (3 : Int32)
      · rw [if_pos hc13] at hf
        refine Go.step (T' := s₁) (f' := (mkF m 30 #[.val (.int p1), .val (.int p2), .val (.long (p1.toInt64)), .second] [])) (fun t kt => ?_) ?_
        · show Steps p.tables e below (s₁.setTop (mkF m 27 #[.val (.int p1), .val (.int p2), .val (.long (p1.toInt64)), .second] [(.int (3 : Int32)), (.int p2)])) _
          refine XS.icmpNo X0.here hx rfl (hb hby d4_27) rfl (tlt hc13).2.1 ?_
          exact kt
        refine Go.step (T' := s₁) (f' := (mkF m 38 #[.val (.int p1), .val (.int p2), .val (.long ((p1.toInt64) * (10 : Int64))), .second] [(.int (2 : Int32)), (.int p2)])) (fun t kt => ?_) ?_
        · show Steps p.tables e below (s₁.setTop (mkF m 30 #[.val (.int p1), .val (.int p2), .val (.long (p1.toInt64)), .second] [])) _
          refine XS.lloadN X0.here hx rfl (hb hby d4_30) rfl ?_
          show Steps p.tables e below (s₁.setTop (mkF m 31 #[.val (.int p1), .val (.int p2), .val (.long (p1.toInt64)), .second] [(.long (p1.toInt64))])) _
          refine X0.ldc2Long hx hown (mvT hZ (hw _ (List.mem_of_getElem? (i := 19) rfl))) (g := (mkF m 31 #[.val (.int p1), .val (.int p2), .val (.long (p1.toInt64)), .second] [(.long (p1.toInt64))])) rfl (hb hby d4_31) _ ?_
          show Steps p.tables e below (s₁.setTop (mkF m 34 #[.val (.int p1), .val (.int p2), .val (.long (p1.toInt64)), .second] [(.long (10 : Int64)), (.long (p1.toInt64))])) _
          refine XS.lmul X0.here hx rfl (hb hby d4_34) rfl ?_
          show Steps p.tables e below (s₁.setTop (mkF m 35 #[.val (.int p1), .val (.int p2), .val (.long (p1.toInt64)), .second] [(.long ((p1.toInt64) * (10 : Int64)))])) _
          refine XS.lstoreN X0.here hx rfl (hb hby d4_35) rfl (l' := #[.val (.int p1), .val (.int p2), .val (.long ((p1.toInt64) * (10 : Int64))), .second]) rfl ?_
          show Steps p.tables e below (s₁.setTop (mkF m 36 #[.val (.int p1), .val (.int p2), .val (.long ((p1.toInt64) * (10 : Int64))), .second] [])) _
          refine XS.iloadN X0.here hx rfl (hb hby d4_36) rfl ?_
          show Steps p.tables e below (s₁.setTop (mkF m 37 #[.val (.int p1), .val (.int p2), .val (.long ((p1.toInt64) * (10 : Int64))), .second] [(.int p2)])) _
          refine XS.iconst X0.here hx rfl (hb hby d4_37) ?_
          exact kt
        by_cases hc14 : p2 < (2 : Int32)
        · rw [if_pos hc14] at hf
          refine Go.step (T' := s₁) (f' := (mkF m 41 #[.val (.int p1), .val (.int p2), .val (.long ((p1.toInt64) * (10 : Int64))), .second] [])) (fun t kt => ?_) ?_
          · show Steps p.tables e below (s₁.setTop (mkF m 38 #[.val (.int p1), .val (.int p2), .val (.long ((p1.toInt64) * (10 : Int64))), .second] [(.int (2 : Int32)), (.int p2)])) _
            refine XS.icmpNo X0.here hx rfl (hb hby d4_38) rfl (tlt hc14).2.1 ?_
            exact kt
          refine Go.step (T' := s₁) (f' := (mkF m 48 #[.val (.int p1), .val (.int p2), .val (.long (((p1.toInt64) * (10 : Int64)) * (10 : Int64))), .second] [(.long (((p1.toInt64) * (10 : Int64)) * (10 : Int64)))])) (fun t kt => ?_) ?_
          · show Steps p.tables e below (s₁.setTop (mkF m 41 #[.val (.int p1), .val (.int p2), .val (.long ((p1.toInt64) * (10 : Int64))), .second] [])) _
            refine XS.lloadN X0.here hx rfl (hb hby d4_41) rfl ?_
            show Steps p.tables e below (s₁.setTop (mkF m 42 #[.val (.int p1), .val (.int p2), .val (.long ((p1.toInt64) * (10 : Int64))), .second] [(.long ((p1.toInt64) * (10 : Int64)))])) _
            refine X0.ldc2Long hx hown (mvT hZ (hw _ (List.mem_of_getElem? (i := 19) rfl))) (g := (mkF m 42 #[.val (.int p1), .val (.int p2), .val (.long ((p1.toInt64) * (10 : Int64))), .second] [(.long ((p1.toInt64) * (10 : Int64)))])) rfl (hb hby d4_42) _ ?_
            show Steps p.tables e below (s₁.setTop (mkF m 45 #[.val (.int p1), .val (.int p2), .val (.long ((p1.toInt64) * (10 : Int64))), .second] [(.long (10 : Int64)), (.long ((p1.toInt64) * (10 : Int64)))])) _
            refine XS.lmul X0.here hx rfl (hb hby d4_45) rfl ?_
            show Steps p.tables e below (s₁.setTop (mkF m 46 #[.val (.int p1), .val (.int p2), .val (.long ((p1.toInt64) * (10 : Int64))), .second] [(.long (((p1.toInt64) * (10 : Int64)) * (10 : Int64)))])) _
            refine XS.lstoreN X0.here hx rfl (hb hby d4_46) rfl (l' := #[.val (.int p1), .val (.int p2), .val (.long (((p1.toInt64) * (10 : Int64)) * (10 : Int64))), .second]) rfl ?_
            show Steps p.tables e below (s₁.setTop (mkF m 47 #[.val (.int p1), .val (.int p2), .val (.long (((p1.toInt64) * (10 : Int64)) * (10 : Int64))), .second] [])) _
            refine XS.lloadN X0.here hx rfl (hb hby d4_47) rfl ?_
            exact kt
          refine Go.fin X0 (v := some (.long (((p1.toInt64) * (10 : Int64)) * (10 : Int64)))) (fun h => by rw [Bd.returns] at h; cases h) Bd.notSynchronized ?_ (Nat.le_trans (Nat.le_refl 0) (by decide)) (Nat.le_trans (Nat.le_refl 0) (by decide)) (fun fs hr => X0.lreturnOut hx Bd.returns (hb hby d4_48) hr)
          · exact ⟨by rw [hf], N0, e0⟩
        · rw [if_neg hc14] at hf
          refine Go.step (T' := s₁) (f' := (mkF m 47 #[.val (.int p1), .val (.int p2), .val (.long ((p1.toInt64) * (10 : Int64))), .second] [])) (fun t kt => ?_) ?_
          · show Steps p.tables e below (s₁.setTop (mkF m 38 #[.val (.int p1), .val (.int p2), .val (.long ((p1.toInt64) * (10 : Int64))), .second] [(.int (2 : Int32)), (.int p2)])) _
            refine XS.icmpYes X0.here hx rfl (pc0 := 38) (pc' := 47) rfl (hb hby d4_38) rfl (flt hc14).2.1 (by decide) (by decide) ?_
            exact kt
          refine Go.step (T' := s₁) (f' := (mkF m 48 #[.val (.int p1), .val (.int p2), .val (.long ((p1.toInt64) * (10 : Int64))), .second] [(.long ((p1.toInt64) * (10 : Int64)))])) (fun t kt => ?_) ?_
          · show Steps p.tables e below (s₁.setTop (mkF m 47 #[.val (.int p1), .val (.int p2), .val (.long ((p1.toInt64) * (10 : Int64))), .second] [])) _
            refine XS.lloadN X0.here hx rfl (hb hby d4_47) rfl ?_
            exact kt
          refine Go.fin X0 (v := some (.long ((p1.toInt64) * (10 : Int64)))) (fun h => by rw [Bd.returns] at h; cases h) Bd.notSynchronized ?_ (Nat.le_trans (Nat.le_refl 0) (by decide)) (Nat.le_trans (Nat.le_refl 0) (by decide)) (fun fs hr => X0.lreturnOut hx Bd.returns (hb hby d4_48) hr)
          · exact ⟨by rw [hf], N0, e0⟩
      · rw [if_neg hc13] at hf
        refine Go.step (T' := s₁) (f' := (mkF m 36 #[.val (.int p1), .val (.int p2), .val (.long (p1.toInt64)), .second] [])) (fun t kt => ?_) ?_
        · show Steps p.tables e below (s₁.setTop (mkF m 27 #[.val (.int p1), .val (.int p2), .val (.long (p1.toInt64)), .second] [(.int (3 : Int32)), (.int p2)])) _
          refine XS.icmpYes X0.here hx rfl (pc0 := 27) (pc' := 36) rfl (hb hby d4_27) rfl (flt hc13).2.1 (by decide) (by decide) ?_
          exact kt
        refine Go.step (T' := s₁) (f' := (mkF m 38 #[.val (.int p1), .val (.int p2), .val (.long (p1.toInt64)), .second] [(.int (2 : Int32)), (.int p2)])) (fun t kt => ?_) ?_
        · show Steps p.tables e below (s₁.setTop (mkF m 36 #[.val (.int p1), .val (.int p2), .val (.long (p1.toInt64)), .second] [])) _
          refine XS.iloadN X0.here hx rfl (hb hby d4_36) rfl ?_
          show Steps p.tables e below (s₁.setTop (mkF m 37 #[.val (.int p1), .val (.int p2), .val (.long (p1.toInt64)), .second] [(.int p2)])) _
          refine XS.iconst X0.here hx rfl (hb hby d4_37) ?_
          exact kt
        by_cases hc15 : p2 < (2 : Int32)
        · rw [if_pos hc15] at hf
          refine Go.step (T' := s₁) (f' := (mkF m 41 #[.val (.int p1), .val (.int p2), .val (.long (p1.toInt64)), .second] [])) (fun t kt => ?_) ?_
          · show Steps p.tables e below (s₁.setTop (mkF m 38 #[.val (.int p1), .val (.int p2), .val (.long (p1.toInt64)), .second] [(.int (2 : Int32)), (.int p2)])) _
            refine XS.icmpNo X0.here hx rfl (hb hby d4_38) rfl (tlt hc15).2.1 ?_
            exact kt
          refine Go.step (T' := s₁) (f' := (mkF m 48 #[.val (.int p1), .val (.int p2), .val (.long ((p1.toInt64) * (10 : Int64))), .second] [(.long ((p1.toInt64) * (10 : Int64)))])) (fun t kt => ?_) ?_
          · show Steps p.tables e below (s₁.setTop (mkF m 41 #[.val (.int p1), .val (.int p2), .val (.long (p1.toInt64)), .second] [])) _
            refine XS.lloadN X0.here hx rfl (hb hby d4_41) rfl ?_
            show Steps p.tables e below (s₁.setTop (mkF m 42 #[.val (.int p1), .val (.int p2), .val (.long (p1.toInt64)), .second] [(.long (p1.toInt64))])) _
            refine X0.ldc2Long hx hown (mvT hZ (hw _ (List.mem_of_getElem? (i := 19) rfl))) (g := (mkF m 42 #[.val (.int p1), .val (.int p2), .val (.long (p1.toInt64)), .second] [(.long (p1.toInt64))])) rfl (hb hby d4_42) _ ?_
            show Steps p.tables e below (s₁.setTop (mkF m 45 #[.val (.int p1), .val (.int p2), .val (.long (p1.toInt64)), .second] [(.long (10 : Int64)), (.long (p1.toInt64))])) _
            refine XS.lmul X0.here hx rfl (hb hby d4_45) rfl ?_
            show Steps p.tables e below (s₁.setTop (mkF m 46 #[.val (.int p1), .val (.int p2), .val (.long (p1.toInt64)), .second] [(.long ((p1.toInt64) * (10 : Int64)))])) _
            refine XS.lstoreN X0.here hx rfl (hb hby d4_46) rfl (l' := #[.val (.int p1), .val (.int p2), .val (.long ((p1.toInt64) * (10 : Int64))), .second]) rfl ?_
            show Steps p.tables e below (s₁.setTop (mkF m 47 #[.val (.int p1), .val (.int p2), .val (.long ((p1.toInt64) * (10 : Int64))), .second] [])) _
            refine XS.lloadN X0.here hx rfl (hb hby d4_47) rfl ?_
            exact kt
          refine Go.fin X0 (v := some (.long ((p1.toInt64) * (10 : Int64)))) (fun h => by rw [Bd.returns] at h; cases h) Bd.notSynchronized ?_ (Nat.le_trans (Nat.le_refl 0) (by decide)) (Nat.le_trans (Nat.le_refl 0) (by decide)) (fun fs hr => X0.lreturnOut hx Bd.returns (hb hby d4_48) hr)
          · exact ⟨by rw [hf], N0, e0⟩
        · rw [if_neg hc15] at hf
          refine Go.step (T' := s₁) (f' := (mkF m 47 #[.val (.int p1), .val (.int p2), .val (.long (p1.toInt64)), .second] [])) (fun t kt => ?_) ?_
          · show Steps p.tables e below (s₁.setTop (mkF m 38 #[.val (.int p1), .val (.int p2), .val (.long (p1.toInt64)), .second] [(.int (2 : Int32)), (.int p2)])) _
            refine XS.icmpYes X0.here hx rfl (pc0 := 38) (pc' := 47) rfl (hb hby d4_38) rfl (flt hc15).2.1 (by decide) (by decide) ?_
            exact kt
          refine Go.step (T' := s₁) (f' := (mkF m 48 #[.val (.int p1), .val (.int p2), .val (.long (p1.toInt64)), .second] [(.long (p1.toInt64))])) (fun t kt => ?_) ?_
          · show Steps p.tables e below (s₁.setTop (mkF m 47 #[.val (.int p1), .val (.int p2), .val (.long (p1.toInt64)), .second] [])) _
            refine XS.lloadN X0.here hx rfl (hb hby d4_47) rfl ?_
            exact kt
          refine Go.fin X0 (v := some (.long (p1.toInt64))) (fun h => by rw [Bd.returns] at h; cases h) Bd.notSynchronized ?_ (Nat.le_trans (Nat.le_refl 0) (by decide)) (Nat.le_trans (Nat.le_refl 0) (by decide)) (fun fs hr => X0.lreturnOut hx Bd.returns (hb hby d4_48) hr)
          · exact ⟨by rw [hf], N0, e0⟩
theorem pd_0 : parseMethodDescriptor "(I)I" = some ⟨[.int], some .int⟩ := by decide +kernel
theorem pd_1 : parseMethodDescriptor "(II)J" = some ⟨[.int, .int], some .long⟩ := by decide +kernel
theorem d2_0 : decode method_5_code 0 = .ok (.iload_n 0, 1) := by decide +kernel
theorem d2_1 : decode method_5_code 1 = .ok (.invokestatic 23, 3) := by decide +kernel
theorem d2_4 : decode method_5_code 4 = .ok (.istore_n 2, 1) := by decide +kernel
theorem d2_5 : decode method_5_code 5 = .ok (.iload_n 1, 1) := by decide +kernel
theorem d2_6 : decode method_5_code 6 = .ok (.invokestatic 23, 3) := by decide +kernel
theorem d2_9 : decode method_5_code 9 = .ok (.istore_n 3, 1) := by decide +kernel
theorem d2_10 : decode method_5_code 10 = .ok (.iload_n 0, 1) := by decide +kernel
theorem d2_11 : decode method_5_code 11 = .ok (.iload_n 2, 1) := by decide +kernel
theorem d2_12 : decode method_5_code 12 = .ok (.invokestatic 27, 3) := by decide +kernel
theorem d2_15 : decode method_5_code 15 = .ok (.lstore 4, 2) := by decide +kernel
theorem d2_17 : decode method_5_code 17 = .ok (.iload_n 1, 1) := by decide +kernel
theorem d2_18 : decode method_5_code 18 = .ok (.iload_n 3, 1) := by decide +kernel
theorem d2_19 : decode method_5_code 19 = .ok (.invokestatic 27, 3) := by decide +kernel
theorem d2_22 : decode method_5_code 22 = .ok (.lstore 6, 2) := by decide +kernel
theorem d2_24 : decode method_5_code 24 = .ok (.lload 4, 2) := by decide +kernel
theorem d2_26 : decode method_5_code 26 = .ok (.lload 6, 2) := by decide +kernel
theorem d2_28 : decode method_5_code 28 = .ok (.lcmp, 1) := by decide +kernel
theorem d2_29 : decode method_5_code 29 = .ok (.ifCond .ge 5, 3) := by decide +kernel
theorem d2_32 : decode method_5_code 32 = .ok (.iconst 1, 1) := by decide +kernel
theorem d2_33 : decode method_5_code 33 = .ok (.ireturn, 1) := by decide +kernel
theorem d2_34 : decode method_5_code 34 = .ok (.lload 4, 2) := by decide +kernel
theorem d2_36 : decode method_5_code 36 = .ok (.lload 6, 2) := by decide +kernel
theorem d2_38 : decode method_5_code 38 = .ok (.lcmp, 1) := by decide +kernel
theorem d2_39 : decode method_5_code 39 = .ok (.ifCond .le 5, 3) := by decide +kernel
theorem d2_42 : decode method_5_code 42 = .ok (.iconst 0, 1) := by decide +kernel
theorem d2_43 : decode method_5_code 43 = .ok (.ireturn, 1) := by decide +kernel
theorem d2_44 : decode method_5_code 44 = .ok (.iload_n 2, 1) := by decide +kernel
theorem d2_45 : decode method_5_code 45 = .ok (.iload_n 3, 1) := by decide +kernel
theorem d2_46 : decode method_5_code 46 = .ok (.if_icmp .ge 7, 3) := by decide +kernel
theorem d2_49 : decode method_5_code 49 = .ok (.iconst 1, 1) := by decide +kernel
theorem d2_50 : decode method_5_code 50 = .ok (.goto 4, 3) := by decide +kernel
theorem d2_53 : decode method_5_code 53 = .ok (.iconst 0, 1) := by decide +kernel
theorem d2_54 : decode method_5_code 54 = .ok (.ireturn, 1) := by decide +kernel
theorem ef_lexF (m : MethodId) (x0 : Int32) (x1 : Int32) : entryFrame m #[(.int x0), (.int x1)] 8 = mkF m 0 #[.val (.int x0), .val (.int x1), .unset, .unset, .unset, .unset, .unset, .unset] [] := by first | (simp [entryFrame, mkF, argsToLocals, Value.category]; done) | rfl
def lexF (p1 : Int32) (p2 : Int32) : Int32 := (if (padF p1 (digF p1)) < (padF p2 (digF p2)) then (1 : Int32) else (if (padF p2 (digF p2)) < (padF p1 (digF p1)) then (0 : Int32) else (if (digF p1) < (digF p2) then (1 : Int32) else (0 : Int32))))
def QlexF (RES : Int32) (h0 : Heap) (n0 : Nat) (v : Option Value) (h : Heap) (L : List Loc) : Prop := v = some (.int RES) ∧ Fr n0 L ∧ h = h0
set_option maxRecDepth 65536 in
set_option maxHeartbeats 40000000 in
theorem rm_lexF (l : Launch) (Z : State) (a0 : Array Value) (hw : ∀ d ∈ tables_1, d.before a0 Z = true) (ws : List Jvm.Cond) (p1 : Int32) (p2 : Int32)  (h0 : Heap) (n0 : Nat) (Z0 : n0 ≤ h0.size) :
    MetFree l (⟨"com/example/gridwake/gridwake/workload/GeneratorInIdOrderPinLaw", "lexLess", "(II)Z"⟩ : MethodName) (head1 (Jvm.Cond.code (⟨"com/example/gridwake/gridwake/workload/GeneratorInIdOrderPinLaw", "lexLess", "(II)Z"⟩ : MethodName) method_5_code 8 (some .boolean) :: ws) ({ frames := 1, cells := 0, slots := 0, locals := 15 } : Room)) (fun A_ U => A_ = #[(.int p1), (.int p2)] ∧ Z.Warmed39 U.vm ∧ U.heap = h0) (fun _ _ _ _ _ => True) (fun _ U o U' => ∃ v L, o = .returned v ∧ QlexF (lexF p1 p2) h0 n0 v U'.heap L ∧ FrameEnd U o U' L ({ frames := 1, cells := 0, slots := 0, locals := 15 } : Room).cells ({ frames := 1, cells := 0, slots := 0, locals := 15 } : Room).slots) := by
  refine MetFree.of_bodySF (plainFor_of_name pn_1) hisR ?_
  intro p e s m args below meth c s₁ Bd hml0 hP hK
  obtain ⟨rfl, hZ, hh⟩ := hP
  have hx := Bd.exec
  have hby := Bd.bytes
  have hml : c.maxLocals = 8 := hml0
  have hown : s.vm.findClass "com/example/gridwake/gridwake/workload/GeneratorInIdOrderPinLaw" = some m.cls := findClass_of_methodNamed Bd.named
  have hnm := (name_of_methodNamed Bd.named Bd.method).1
  have X0 : Stand p l e ({ frames := 1, cells := 0, slots := 0, locals := 15 } : Room) s m #[(.int p1), (.int p2)] below meth c s₁ [] 0 0 := Stand.of_body Bd
  have e0 : s₁.heap = h0 := by rw [← hh, Bd.state]; rfl
  have N0 := Fr.nil n0
  obtain ⟨RES, hf⟩ : ∃ z, z = lexF p1 p2 := ⟨_, rfl⟩
  rw [← hf]
  rw [lexF] at hf
  suffices HGO : Go p e below s (QlexF RES h0 n0) ({ frames := 1, cells := 0, slots := 0, locals := 15 } : Room).cells ({ frames := 1, cells := 0, slots := 0, locals := 15 } : Room).slots s₁ (mkF m 0 #[.val (.int p1), .val (.int p2), .unset, .unset, .unset, .unset, .unset, .unset] []) from Go.cast (ef_lexF m p1 p2) HGO
  obtain ⟨_, _, ⟨T1, L1, k1, n1⟩, -, X1, ⟨Lc1, hQ1, l1, y1, z1⟩, st1⟩ := Jvm.LawKit.callS X0 hx (y := (⟨"com/example/gridwake/gridwake/workload/GeneratorInIdOrderPinLaw", "digits", "(I)I"⟩ : MethodName)) hown (mvT hZ (hw _ (List.mem_of_getElem? (i := 13) rfl))) (mvT hZ (hw _ (List.mem_of_getElem? (i := 14) rfl))) (mvT hZ (hw _ (List.mem_of_getElem? (i := 11) rfl))) (mvT hZ (hw _ (List.mem_of_getElem? (i := 15) rfl))) (by decide) (backOf (W := 0) (rm_digF l Z a0 hw [] p1  h0 n0 Z0 ) hZ (hw _ (List.mem_of_getElem? (i := 15) rfl)) (hw _ (List.mem_of_getElem? (i := 11) rfl)) (by decide) (by decide)) (g := (mkF m 1 #[.val (.int p1), .val (.int p2), .unset, .unset, .unset, .unset, .unset, .unset] [(.int p1)])) rfl (by rw [hml]; rfl) (argsL := [(.int p1)]) (rest := []) (lenOf pd_0 rfl) rfl (by show 2 * 0 + _ ≤ _; exact Nat.le_of_eq rfl) (hb hby d2_1) (fun _ _ => ⟨rfl, e0, (Nat.le_trans (Nat.add_le_add_right (Nat.le_refl 0) 0) (by decide)), (Nat.le_trans (Nat.add_le_add_right (Nat.le_refl 0) 0) (by decide))⟩)
  dsimp only [Pt.U, Pt.locs, Pt.cells, Pt.slots] at X1 l1 y1 z1 st1 hQ1
  subst l1 y1 z1
  obtain ⟨rfl, N1q, e1⟩ := hQ1
  have N1 := Fr.app N0 N1q
  obtain ⟨_, _, ⟨T2, L2, k2, n2⟩, -, X2, ⟨Lc2, hQ2, l2, y2, z2⟩, st2⟩ := Jvm.LawKit.callS X1 hx (y := (⟨"com/example/gridwake/gridwake/workload/GeneratorInIdOrderPinLaw", "digits", "(I)I"⟩ : MethodName)) hown (mvT hZ (hw _ (List.mem_of_getElem? (i := 13) rfl))) (mvT hZ (hw _ (List.mem_of_getElem? (i := 14) rfl))) (mvT hZ (hw _ (List.mem_of_getElem? (i := 11) rfl))) (mvT hZ (hw _ (List.mem_of_getElem? (i := 15) rfl))) (by decide) (backOf (W := 0) (rm_digF l Z a0 hw [] p2  h0 n0 Z0 ) hZ (hw _ (List.mem_of_getElem? (i := 15) rfl)) (hw _ (List.mem_of_getElem? (i := 11) rfl)) (by decide) (by decide)) (g := (mkF m 6 #[.val (.int p1), .val (.int p2), .val (.int (digF p1)), .unset, .unset, .unset, .unset, .unset] [(.int p2)])) rfl (by rw [hml]; rfl) (argsL := [(.int p2)]) (rest := []) (lenOf pd_0 rfl) rfl (by show 2 * 0 + _ ≤ _; exact Nat.le_of_eq rfl) (hb hby d2_6) (fun _ _ => ⟨rfl, e1, (Nat.le_trans (Nat.add_le_add_right (Nat.add_le_add_right (Nat.le_refl 0) 0) 0) (by decide)), (Nat.le_trans (Nat.add_le_add_right (Nat.add_le_add_right (Nat.le_refl 0) 0) 0) (by decide))⟩)
  dsimp only [Pt.U, Pt.locs, Pt.cells, Pt.slots] at X2 l2 y2 z2 st2 hQ2
  subst l2 y2 z2
  obtain ⟨rfl, N2q, e2⟩ := hQ2
  have N2 := Fr.app N1 N2q
  obtain ⟨_, _, ⟨T3, L3, k3, n3⟩, -, X3, ⟨Lc3, hQ3, l3, y3, z3⟩, st3⟩ := Jvm.LawKit.callS X2 hx (y := (⟨"com/example/gridwake/gridwake/workload/GeneratorInIdOrderPinLaw", "padded", "(II)J"⟩ : MethodName)) hown (mvT hZ (hw _ (List.mem_of_getElem? (i := 16) rfl))) (mvT hZ (hw _ (List.mem_of_getElem? (i := 17) rfl))) (mvT hZ (hw _ (List.mem_of_getElem? (i := 11) rfl))) (mvT hZ (hw _ (List.mem_of_getElem? (i := 18) rfl))) (by decide) (backOf (W := 0) (rm_padF l Z a0 hw [] p1 (digF p1)  h0 n0 Z0 ) hZ (hw _ (List.mem_of_getElem? (i := 18) rfl)) (hw _ (List.mem_of_getElem? (i := 11) rfl)) (by decide) (by decide)) (g := (mkF m 12 #[.val (.int p1), .val (.int p2), .val (.int (digF p1)), .val (.int (digF p2)), .unset, .unset, .unset, .unset] [(.int (digF p1)), (.int p1)])) rfl (by rw [hml]; rfl) (argsL := [(.int p1), (.int (digF p1))]) (rest := []) (lenOf pd_1 rfl) rfl (by show 2 * 0 + _ ≤ _; exact Nat.le_of_eq rfl) (hb hby d2_12) (fun _ _ => ⟨rfl, e2, (Nat.le_trans (Nat.add_le_add_right (Nat.add_le_add_right (Nat.add_le_add_right (Nat.le_refl 0) 0) 0) 0) (by decide)), (Nat.le_trans (Nat.add_le_add_right (Nat.add_le_add_right (Nat.add_le_add_right (Nat.le_refl 0) 0) 0) 0) (by decide))⟩)
  dsimp only [Pt.U, Pt.locs, Pt.cells, Pt.slots] at X3 l3 y3 z3 st3 hQ3
  subst l3 y3 z3
  obtain ⟨rfl, N3q, e3⟩ := hQ3
  have N3 := Fr.app N2 N3q
  obtain ⟨_, _, ⟨T4, L4, k4, n4⟩, -, X4, ⟨Lc4, hQ4, l4, y4, z4⟩, st4⟩ := Jvm.LawKit.callS X3 hx (y := (⟨"com/example/gridwake/gridwake/workload/GeneratorInIdOrderPinLaw", "padded", "(II)J"⟩ : MethodName)) hown (mvT hZ (hw _ (List.mem_of_getElem? (i := 16) rfl))) (mvT hZ (hw _ (List.mem_of_getElem? (i := 17) rfl))) (mvT hZ (hw _ (List.mem_of_getElem? (i := 11) rfl))) (mvT hZ (hw _ (List.mem_of_getElem? (i := 18) rfl))) (by decide) (backOf (W := 0) (rm_padF l Z a0 hw [] p2 (digF p2)  h0 n0 Z0 ) hZ (hw _ (List.mem_of_getElem? (i := 18) rfl)) (hw _ (List.mem_of_getElem? (i := 11) rfl)) (by decide) (by decide)) (g := (mkF m 19 #[.val (.int p1), .val (.int p2), .val (.int (digF p1)), .val (.int (digF p2)), .val (.long (padF p1 (digF p1))), .second, .unset, .unset] [(.int (digF p2)), (.int p2)])) rfl (by rw [hml]; rfl) (argsL := [(.int p2), (.int (digF p2))]) (rest := []) (lenOf pd_1 rfl) rfl (by show 2 * 0 + _ ≤ _; exact Nat.le_of_eq rfl) (hb hby d2_19) (fun _ _ => ⟨rfl, e3, (Nat.le_trans (Nat.add_le_add_right (Nat.add_le_add_right (Nat.add_le_add_right (Nat.add_le_add_right (Nat.le_refl 0) 0) 0) 0) 0) (by decide)), (Nat.le_trans (Nat.add_le_add_right (Nat.add_le_add_right (Nat.add_le_add_right (Nat.add_le_add_right (Nat.le_refl 0) 0) 0) 0) 0) (by decide))⟩)
  dsimp only [Pt.U, Pt.locs, Pt.cells, Pt.slots] at X4 l4 y4 z4 st4 hQ4
  subst l4 y4 z4
  obtain ⟨rfl, N4q, e4⟩ := hQ4
  have N4 := Fr.app N3 N4q
  refine Go.step (T' := T4) (f' := (mkF m 29 #[.val (.int p1), .val (.int p2), .val (.int (digF p1)), .val (.int (digF p2)), .val (.long (padF p1 (digF p1))), .second, .val (.long (padF p2 (digF p2))), .second] [(.int (lcmpW (padF p1 (digF p1)) (padF p2 (digF p2))))])) (fun t kt => ?_) ?_
  · show Steps p.tables e below (s₁.setTop (mkF m 0 #[.val (.int p1), .val (.int p2), .unset, .unset, .unset, .unset, .unset, .unset] [])) _
    refine XS.iloadN X0.here hx rfl (hb hby d2_0) rfl ?_
    show Steps p.tables e below (s₁.setTop (mkF m 1 #[.val (.int p1), .val (.int p2), .unset, .unset, .unset, .unset, .unset, .unset] [(.int p1)])) _
    refine st1 _ ?_
    show Steps p.tables e below (T1.setTop (mkF m 4 #[.val (.int p1), .val (.int p2), .unset, .unset, .unset, .unset, .unset, .unset] [(.int (digF p1))])) _
    refine XS.istoreN X1.here hx rfl (hb hby d2_4) rfl (l' := #[.val (.int p1), .val (.int p2), .val (.int (digF p1)), .unset, .unset, .unset, .unset, .unset]) rfl ?_
    show Steps p.tables e below (T1.setTop (mkF m 5 #[.val (.int p1), .val (.int p2), .val (.int (digF p1)), .unset, .unset, .unset, .unset, .unset] [])) _
    refine XS.iloadN X1.here hx rfl (hb hby d2_5) rfl ?_
    show Steps p.tables e below (T1.setTop (mkF m 6 #[.val (.int p1), .val (.int p2), .val (.int (digF p1)), .unset, .unset, .unset, .unset, .unset] [(.int p2)])) _
    refine st2 _ ?_
    show Steps p.tables e below (T2.setTop (mkF m 9 #[.val (.int p1), .val (.int p2), .val (.int (digF p1)), .unset, .unset, .unset, .unset, .unset] [(.int (digF p2))])) _
    refine XS.istoreN X2.here hx rfl (hb hby d2_9) rfl (l' := #[.val (.int p1), .val (.int p2), .val (.int (digF p1)), .val (.int (digF p2)), .unset, .unset, .unset, .unset]) rfl ?_
    show Steps p.tables e below (T2.setTop (mkF m 10 #[.val (.int p1), .val (.int p2), .val (.int (digF p1)), .val (.int (digF p2)), .unset, .unset, .unset, .unset] [])) _
    refine XS.iloadN X2.here hx rfl (hb hby d2_10) rfl ?_
    show Steps p.tables e below (T2.setTop (mkF m 11 #[.val (.int p1), .val (.int p2), .val (.int (digF p1)), .val (.int (digF p2)), .unset, .unset, .unset, .unset] [(.int p1)])) _
    refine XS.iloadN X2.here hx rfl (hb hby d2_11) rfl ?_
    show Steps p.tables e below (T2.setTop (mkF m 12 #[.val (.int p1), .val (.int p2), .val (.int (digF p1)), .val (.int (digF p2)), .unset, .unset, .unset, .unset] [(.int (digF p1)), (.int p1)])) _
    refine st3 _ ?_
    show Steps p.tables e below (T3.setTop (mkF m 15 #[.val (.int p1), .val (.int p2), .val (.int (digF p1)), .val (.int (digF p2)), .unset, .unset, .unset, .unset] [(.long (padF p1 (digF p1)))])) _
    refine XS.lstore X3.here hx rfl (hb hby d2_15) rfl (l' := #[.val (.int p1), .val (.int p2), .val (.int (digF p1)), .val (.int (digF p2)), .val (.long (padF p1 (digF p1))), .second, .unset, .unset]) rfl ?_
    show Steps p.tables e below (T3.setTop (mkF m 17 #[.val (.int p1), .val (.int p2), .val (.int (digF p1)), .val (.int (digF p2)), .val (.long (padF p1 (digF p1))), .second, .unset, .unset] [])) _
    refine XS.iloadN X3.here hx rfl (hb hby d2_17) rfl ?_
    show Steps p.tables e below (T3.setTop (mkF m 18 #[.val (.int p1), .val (.int p2), .val (.int (digF p1)), .val (.int (digF p2)), .val (.long (padF p1 (digF p1))), .second, .unset, .unset] [(.int p2)])) _
    refine XS.iloadN X3.here hx rfl (hb hby d2_18) rfl ?_
    show Steps p.tables e below (T3.setTop (mkF m 19 #[.val (.int p1), .val (.int p2), .val (.int (digF p1)), .val (.int (digF p2)), .val (.long (padF p1 (digF p1))), .second, .unset, .unset] [(.int (digF p2)), (.int p2)])) _
    refine st4 _ ?_
    show Steps p.tables e below (T4.setTop (mkF m 22 #[.val (.int p1), .val (.int p2), .val (.int (digF p1)), .val (.int (digF p2)), .val (.long (padF p1 (digF p1))), .second, .unset, .unset] [(.long (padF p2 (digF p2)))])) _
    refine XS.lstore X4.here hx rfl (hb hby d2_22) rfl (l' := #[.val (.int p1), .val (.int p2), .val (.int (digF p1)), .val (.int (digF p2)), .val (.long (padF p1 (digF p1))), .second, .val (.long (padF p2 (digF p2))), .second]) rfl ?_
    show Steps p.tables e below (T4.setTop (mkF m 24 #[.val (.int p1), .val (.int p2), .val (.int (digF p1)), .val (.int (digF p2)), .val (.long (padF p1 (digF p1))), .second, .val (.long (padF p2 (digF p2))), .second] [])) _
    refine XS.lload X4.here hx rfl (hb hby d2_24) rfl ?_
    show Steps p.tables e below (T4.setTop (mkF m 26 #[.val (.int p1), .val (.int p2), .val (.int (digF p1)), .val (.int (digF p2)), .val (.long (padF p1 (digF p1))), .second, .val (.long (padF p2 (digF p2))), .second] [(.long (padF p1 (digF p1)))])) _
    refine XS.lload X4.here hx rfl (hb hby d2_26) rfl ?_
    show Steps p.tables e below (T4.setTop (mkF m 28 #[.val (.int p1), .val (.int p2), .val (.int (digF p1)), .val (.int (digF p2)), .val (.long (padF p1 (digF p1))), .second, .val (.long (padF p2 (digF p2))), .second] [(.long (padF p2 (digF p2))), (.long (padF p1 (digF p1)))])) _
    refine XS.lcmp X4.here hx rfl (hb hby d2_28) rfl ?_
    exact kt
  by_cases hc5 : (padF p1 (digF p1)) < (padF p2 (digF p2))
  · rw [if_pos hc5] at hf
    refine Go.step (T' := T4) (f' := (mkF m 32 #[.val (.int p1), .val (.int p2), .val (.int (digF p1)), .val (.int (digF p2)), .val (.long (padF p1 (digF p1))), .second, .val (.long (padF p2 (digF p2))), .second] [])) (fun t kt => ?_) ?_
    · show Steps p.tables e below (T4.setTop (mkF m 29 #[.val (.int p1), .val (.int p2), .val (.int (digF p1)), .val (.int (digF p2)), .val (.long (padF p1 (digF p1))), .second, .val (.long (padF p2 (digF p2))), .second] [(.int (lcmpW (padF p1 (digF p1)) (padF p2 (digF p2))))])) _
      refine XS.ifNo X4.here hx rfl (hb hby d2_29) rfl ((if0 _ _).trans (tlt ((lw_lt _ _).mpr hc5)).2.1) ?_
      exact kt
    refine Go.step (T' := T4) (f' := (mkF m 33 #[.val (.int p1), .val (.int p2), .val (.int (digF p1)), .val (.int (digF p2)), .val (.long (padF p1 (digF p1))), .second, .val (.long (padF p2 (digF p2))), .second] [(.int (1 : Int32))])) (fun t kt => ?_) ?_
    · show Steps p.tables e below (T4.setTop (mkF m 32 #[.val (.int p1), .val (.int p2), .val (.int (digF p1)), .val (.int (digF p2)), .val (.long (padF p1 (digF p1))), .second, .val (.long (padF p2 (digF p2))), .second] [])) _
      refine XS.iconst X4.here hx rfl (hb hby d2_32) ?_
      exact kt
    refine Go.fin X4 (v := some (.int (1 : Int32))) (fun h => by rw [Bd.returns] at h; cases h) Bd.notSynchronized ?_ (Nat.le_trans (Nat.add_le_add_right (Nat.add_le_add_right (Nat.add_le_add_right (Nat.add_le_add_right (Nat.le_refl 0) 0) 0) 0) 0) (by decide)) (Nat.le_trans (Nat.add_le_add_right (Nat.add_le_add_right (Nat.add_le_add_right (Nat.add_le_add_right (Nat.le_refl 0) 0) 0) 0) 0) (by decide)) (fun fs hr => retN X4 hx (t := .boolean) Bd.returns (by simp) (hb hby d2_33) hr)
    · exact ⟨by rw [hf], N4, e4⟩
  · rw [if_neg hc5] at hf
    refine Go.step (T' := T4) (f' := (mkF m 34 #[.val (.int p1), .val (.int p2), .val (.int (digF p1)), .val (.int (digF p2)), .val (.long (padF p1 (digF p1))), .second, .val (.long (padF p2 (digF p2))), .second] [])) (fun t kt => ?_) ?_
    · show Steps p.tables e below (T4.setTop (mkF m 29 #[.val (.int p1), .val (.int p2), .val (.int (digF p1)), .val (.int (digF p2)), .val (.long (padF p1 (digF p1))), .second, .val (.long (padF p2 (digF p2))), .second] [(.int (lcmpW (padF p1 (digF p1)) (padF p2 (digF p2))))])) _
      refine XS.ifYes X4.here hx rfl (pc0 := 29) (pc' := 34) rfl (hb hby d2_29) rfl ((if0 _ _).trans (flt (fun q => hc5 ((lw_lt _ _).mp q))).2.1) (by decide) (by decide) ?_
      exact kt
    refine Go.step (T' := T4) (f' := (mkF m 39 #[.val (.int p1), .val (.int p2), .val (.int (digF p1)), .val (.int (digF p2)), .val (.long (padF p1 (digF p1))), .second, .val (.long (padF p2 (digF p2))), .second] [(.int (lcmpW (padF p1 (digF p1)) (padF p2 (digF p2))))])) (fun t kt => ?_) ?_
    · show Steps p.tables e below (T4.setTop (mkF m 34 #[.val (.int p1), .val (.int p2), .val (.int (digF p1)), .val (.int (digF p2)), .val (.long (padF p1 (digF p1))), .second, .val (.long (padF p2 (digF p2))), .second] [])) _
      refine XS.lload X4.here hx rfl (hb hby d2_34) rfl ?_
      show Steps p.tables e below (T4.setTop (mkF m 36 #[.val (.int p1), .val (.int p2), .val (.int (digF p1)), .val (.int (digF p2)), .val (.long (padF p1 (digF p1))), .second, .val (.long (padF p2 (digF p2))), .second] [(.long (padF p1 (digF p1)))])) _
      refine XS.lload X4.here hx rfl (hb hby d2_36) rfl ?_
      show Steps p.tables e below (T4.setTop (mkF m 38 #[.val (.int p1), .val (.int p2), .val (.int (digF p1)), .val (.int (digF p2)), .val (.long (padF p1 (digF p1))), .second, .val (.long (padF p2 (digF p2))), .second] [(.long (padF p2 (digF p2))), (.long (padF p1 (digF p1)))])) _
      refine XS.lcmp X4.here hx rfl (hb hby d2_38) rfl ?_
      exact kt
    by_cases hc6 : (padF p2 (digF p2)) < (padF p1 (digF p1))
    · rw [if_pos hc6] at hf
      refine Go.step (T' := T4) (f' := (mkF m 42 #[.val (.int p1), .val (.int p2), .val (.int (digF p1)), .val (.int (digF p2)), .val (.long (padF p1 (digF p1))), .second, .val (.long (padF p2 (digF p2))), .second] [])) (fun t kt => ?_) ?_
      · show Steps p.tables e below (T4.setTop (mkF m 39 #[.val (.int p1), .val (.int p2), .val (.int (digF p1)), .val (.int (digF p2)), .val (.long (padF p1 (digF p1))), .second, .val (.long (padF p2 (digF p2))), .second] [(.int (lcmpW (padF p1 (digF p1)) (padF p2 (digF p2))))])) _
        refine XS.ifNo X4.here hx rfl (hb hby d2_39) rfl ((if0 _ _).trans (tlt ((lw_gt _ _).mpr hc6)).2.2.2) ?_
        exact kt
      refine Go.step (T' := T4) (f' := (mkF m 43 #[.val (.int p1), .val (.int p2), .val (.int (digF p1)), .val (.int (digF p2)), .val (.long (padF p1 (digF p1))), .second, .val (.long (padF p2 (digF p2))), .second] [(.int (0 : Int32))])) (fun t kt => ?_) ?_
      · show Steps p.tables e below (T4.setTop (mkF m 42 #[.val (.int p1), .val (.int p2), .val (.int (digF p1)), .val (.int (digF p2)), .val (.long (padF p1 (digF p1))), .second, .val (.long (padF p2 (digF p2))), .second] [])) _
        refine XS.iconst X4.here hx rfl (hb hby d2_42) ?_
        exact kt
      refine Go.fin X4 (v := some (.int (0 : Int32))) (fun h => by rw [Bd.returns] at h; cases h) Bd.notSynchronized ?_ (Nat.le_trans (Nat.add_le_add_right (Nat.add_le_add_right (Nat.add_le_add_right (Nat.add_le_add_right (Nat.le_refl 0) 0) 0) 0) 0) (by decide)) (Nat.le_trans (Nat.add_le_add_right (Nat.add_le_add_right (Nat.add_le_add_right (Nat.add_le_add_right (Nat.le_refl 0) 0) 0) 0) 0) (by decide)) (fun fs hr => retN X4 hx (t := .boolean) Bd.returns (by simp) (hb hby d2_43) hr)
      · exact ⟨by rw [hf], N4, e4⟩
    · rw [if_neg hc6] at hf
      refine Go.step (T' := T4) (f' := (mkF m 44 #[.val (.int p1), .val (.int p2), .val (.int (digF p1)), .val (.int (digF p2)), .val (.long (padF p1 (digF p1))), .second, .val (.long (padF p2 (digF p2))), .second] [])) (fun t kt => ?_) ?_
      · show Steps p.tables e below (T4.setTop (mkF m 39 #[.val (.int p1), .val (.int p2), .val (.int (digF p1)), .val (.int (digF p2)), .val (.long (padF p1 (digF p1))), .second, .val (.long (padF p2 (digF p2))), .second] [(.int (lcmpW (padF p1 (digF p1)) (padF p2 (digF p2))))])) _
        refine XS.ifYes X4.here hx rfl (pc0 := 39) (pc' := 44) rfl (hb hby d2_39) rfl ((if0 _ _).trans (flt (fun q => hc6 ((lw_gt _ _).mp q))).2.2.2) (by decide) (by decide) ?_
        exact kt
      refine Go.step (T' := T4) (f' := (mkF m 46 #[.val (.int p1), .val (.int p2), .val (.int (digF p1)), .val (.int (digF p2)), .val (.long (padF p1 (digF p1))), .second, .val (.long (padF p2 (digF p2))), .second] [(.int (digF p2)), (.int (digF p1))])) (fun t kt => ?_) ?_
      · show Steps p.tables e below (T4.setTop (mkF m 44 #[.val (.int p1), .val (.int p2), .val (.int (digF p1)), .val (.int (digF p2)), .val (.long (padF p1 (digF p1))), .second, .val (.long (padF p2 (digF p2))), .second] [])) _
        refine XS.iloadN X4.here hx rfl (hb hby d2_44) rfl ?_
        show Steps p.tables e below (T4.setTop (mkF m 45 #[.val (.int p1), .val (.int p2), .val (.int (digF p1)), .val (.int (digF p2)), .val (.long (padF p1 (digF p1))), .second, .val (.long (padF p2 (digF p2))), .second] [(.int (digF p1))])) _
        refine XS.iloadN X4.here hx rfl (hb hby d2_45) rfl ?_
        exact kt
      by_cases hc7 : (digF p1) < (digF p2)
      · rw [if_pos hc7] at hf
        refine Go.step (T' := T4) (f' := (mkF m 49 #[.val (.int p1), .val (.int p2), .val (.int (digF p1)), .val (.int (digF p2)), .val (.long (padF p1 (digF p1))), .second, .val (.long (padF p2 (digF p2))), .second] [])) (fun t kt => ?_) ?_
        · show Steps p.tables e below (T4.setTop (mkF m 46 #[.val (.int p1), .val (.int p2), .val (.int (digF p1)), .val (.int (digF p2)), .val (.long (padF p1 (digF p1))), .second, .val (.long (padF p2 (digF p2))), .second] [(.int (digF p2)), (.int (digF p1))])) _
          refine XS.icmpNo X4.here hx rfl (hb hby d2_46) rfl (tlt hc7).2.1 ?_
          exact kt
        refine Go.step (T' := T4) (f' := (mkF m 54 #[.val (.int p1), .val (.int p2), .val (.int (digF p1)), .val (.int (digF p2)), .val (.long (padF p1 (digF p1))), .second, .val (.long (padF p2 (digF p2))), .second] [(.int (1 : Int32))])) (fun t kt => ?_) ?_
        · show Steps p.tables e below (T4.setTop (mkF m 49 #[.val (.int p1), .val (.int p2), .val (.int (digF p1)), .val (.int (digF p2)), .val (.long (padF p1 (digF p1))), .second, .val (.long (padF p2 (digF p2))), .second] [])) _
          refine XS.iconst X4.here hx rfl (hb hby d2_49) ?_
          show Steps p.tables e below (T4.setTop (mkF m 50 #[.val (.int p1), .val (.int p2), .val (.int (digF p1)), .val (.int (digF p2)), .val (.long (padF p1 (digF p1))), .second, .val (.long (padF p2 (digF p2))), .second] [(.int (1 : Int32))])) _
          refine XS.goto X4.here hx rfl (pc0 := 50) (pc' := 54) rfl (hb hby d2_50) (by decide) (by decide) ?_
          exact kt
        refine Go.fin X4 (v := some (.int (1 : Int32))) (fun h => by rw [Bd.returns] at h; cases h) Bd.notSynchronized ?_ (Nat.le_trans (Nat.add_le_add_right (Nat.add_le_add_right (Nat.add_le_add_right (Nat.add_le_add_right (Nat.le_refl 0) 0) 0) 0) 0) (by decide)) (Nat.le_trans (Nat.add_le_add_right (Nat.add_le_add_right (Nat.add_le_add_right (Nat.add_le_add_right (Nat.le_refl 0) 0) 0) 0) 0) (by decide)) (fun fs hr => retN X4 hx (t := .boolean) Bd.returns (by simp) (hb hby d2_54) hr)
        · exact ⟨by rw [hf], N4, e4⟩
      · rw [if_neg hc7] at hf
        refine Go.step (T' := T4) (f' := (mkF m 53 #[.val (.int p1), .val (.int p2), .val (.int (digF p1)), .val (.int (digF p2)), .val (.long (padF p1 (digF p1))), .second, .val (.long (padF p2 (digF p2))), .second] [])) (fun t kt => ?_) ?_
        · show Steps p.tables e below (T4.setTop (mkF m 46 #[.val (.int p1), .val (.int p2), .val (.int (digF p1)), .val (.int (digF p2)), .val (.long (padF p1 (digF p1))), .second, .val (.long (padF p2 (digF p2))), .second] [(.int (digF p2)), (.int (digF p1))])) _
          refine XS.icmpYes X4.here hx rfl (pc0 := 46) (pc' := 53) rfl (hb hby d2_46) rfl (flt hc7).2.1 (by decide) (by decide) ?_
          exact kt
        refine Go.step (T' := T4) (f' := (mkF m 54 #[.val (.int p1), .val (.int p2), .val (.int (digF p1)), .val (.int (digF p2)), .val (.long (padF p1 (digF p1))), .second, .val (.long (padF p2 (digF p2))), .second] [(.int (0 : Int32))])) (fun t kt => ?_) ?_
        · show Steps p.tables e below (T4.setTop (mkF m 53 #[.val (.int p1), .val (.int p2), .val (.int (digF p1)), .val (.int (digF p2)), .val (.long (padF p1 (digF p1))), .second, .val (.long (padF p2 (digF p2))), .second] [])) _
          refine XS.iconst X4.here hx rfl (hb hby d2_53) ?_
          exact kt
        refine Go.fin X4 (v := some (.int (0 : Int32))) (fun h => by rw [Bd.returns] at h; cases h) Bd.notSynchronized ?_ (Nat.le_trans (Nat.add_le_add_right (Nat.add_le_add_right (Nat.add_le_add_right (Nat.add_le_add_right (Nat.le_refl 0) 0) 0) 0) 0) (by decide)) (Nat.le_trans (Nat.add_le_add_right (Nat.add_le_add_right (Nat.add_le_add_right (Nat.add_le_add_right (Nat.le_refl 0) 0) 0) 0) 0) (by decide)) (fun fs hr => retN X4 hx (t := .boolean) Bd.returns (by simp) (hb hby d2_54) hr)
        · exact ⟨by rw [hf], N4, e4⟩
theorem own_m10' {y : Int64} {B : Int} (h : 0 ≤ y.toInt ∧ y.toInt ≤ 65535000) : (y * (10 : Int64)).toInt = 10 * y.toInt := by
  have a := c_lmul y 10; have r := rng64 (y * 10)
  have k1 : (10 : Int64).toInt = 10 := rfl
  rw [k1] at a; omega
theorem own_dp {v : Int32} (h : 1 ≤ v.toInt ∧ v.toInt ≤ 65535) : (digF v).toInt = own_D v.toInt ∧ (padF v (digF v)).toInt = own_pd v.toInt := by
  have k10 : (10 : Int32).toInt = 10 := rfl
  have k100 : (100 : Int32).toInt = 100 := rfl
  have k1000 : (1000 : Int32).toInt = 1000 := rfl
  have k10000 : (10000 : Int32).toInt = 10000 := rfl
  have q10 : (10 : Int64).toInt = 10 := rfl
  have c := c_i2l v
  have m1 := c_lmul v.toInt64 10; have r1 := rng64 (v.toInt64 * 10)
  have m2 := c_lmul (v.toInt64 * 10) 10; have r2 := rng64 (v.toInt64 * 10 * 10)
  have m3 := c_lmul (v.toInt64 * 10 * 10) 10; have r3 := rng64 (v.toInt64 * 10 * 10 * 10)
  have m4 := c_lmul (v.toInt64 * 10 * 10 * 10) 10; have r4 := rng64 (v.toInt64 * 10 * 10 * 10 * 10)
  rw [q10] at m1 m2 m3 m4
  have e1 : (v.toInt64 * 10).toInt = 10 * v.toInt := by omega
  have e2 : (v.toInt64 * 10 * 10).toInt = 100 * v.toInt := by omega
  have e3 : (v.toInt64 * 10 * 10 * 10).toInt = 1000 * v.toInt := by omega
  have e4 : (v.toInt64 * 10 * 10 * 10 * 10).toInt = 10000 * v.toInt := by omega
  unfold digF own_D own_pd
  have w1 : v < (10 : Int32) ↔ v.toInt < 10 := by rw [Int32.lt_iff_toInt_lt, k10]
  by_cases g1 : v < (10 : Int32)
  · rw [if_pos g1, if_pos (w1.mp g1), if_pos (w1.mp g1)]
    exact ⟨rfl, e4⟩
  rw [if_neg g1, if_neg (fun z => g1 (w1.mpr z)), if_neg (fun z => g1 (w1.mpr z))]
  have w2 : v < (100 : Int32) ↔ v.toInt < 100 := by rw [Int32.lt_iff_toInt_lt, k100]
  by_cases g2 : v < (100 : Int32)
  · rw [if_pos g2, if_pos (w2.mp g2), if_pos (w2.mp g2)]
    exact ⟨rfl, e3⟩
  rw [if_neg g2, if_neg (fun z => g2 (w2.mpr z)), if_neg (fun z => g2 (w2.mpr z))]
  have w3 : v < (1000 : Int32) ↔ v.toInt < 1000 := by rw [Int32.lt_iff_toInt_lt, k1000]
  by_cases g3 : v < (1000 : Int32)
  · rw [if_pos g3, if_pos (w3.mp g3), if_pos (w3.mp g3)]
    exact ⟨rfl, e2⟩
  rw [if_neg g3, if_neg (fun z => g3 (w3.mpr z)), if_neg (fun z => g3 (w3.mpr z))]
  have w4 : v < (10000 : Int32) ↔ v.toInt < 10000 := by rw [Int32.lt_iff_toInt_lt, k10000]
  by_cases g4 : v < (10000 : Int32)
  · rw [if_pos g4, if_pos (w4.mp g4), if_pos (w4.mp g4)]
    exact ⟨rfl, e1⟩
  rw [if_neg g4, if_neg (fun z => g4 (w4.mpr z)), if_neg (fun z => g4 (w4.mpr z))]
  exact ⟨rfl, c⟩
theorem own_lx {a b : Int32} (ha : 1 ≤ a.toInt ∧ a.toInt ≤ 65535) (hb' : 1 ≤ b.toInt ∧ b.toInt ≤ 65535) (h : own_LT a.toInt b.toInt) : lexF a b = 1 := by
  have ea := own_dp ha
  have eb := own_dp hb'
  unfold own_LT at h
  unfold lexF
  simp only [Int64.lt_iff_toInt_lt, Int32.lt_iff_toInt_lt, ea.1, ea.2, eb.1, eb.2]
  repeat' split
  all_goals first | rfl | (exfalso; omega)
theorem own_n (p : Int32) : 0 ≤ (p &&& (65535 : Int32)).toInt ∧ (p &&& (65535 : Int32)).toInt ≤ 65535 := by
  have h := c_and p 65535 (by decide)
  have k : (65535 : Int32).toInt = 65535 := rfl
  omega
theorem own_y1 {n : Int32} {el : List Int32} (hW : own_W n.toInt el) (h : 0 ≤ n.toInt ∧ n.toInt ≤ 65535) : el.length.toInt32 = n := by
  have := hW.1
  apply Int32.toInt_inj.mp
  rw [len_toInt (by omega)]; exact this
theorem own_y2 {n : Int32} {el : List Int32} (hW : own_W n.toInt el) (h : 0 ≤ n.toInt ∧ n.toInt ≤ 65535) (hz : ¬ n = (0 : Int32)) (k : Int32) : 0 ≤ ((k &&& (2147483647 : Int32)) % n).toInt ∧ ((k &&& (2147483647 : Int32)) % n).toInt < (el.length : Int) := by
  have a := c_and k 2147483647 (by decide)
  have b := own_rem (k &&& 2147483647) n a.1
  have : n.toInt ≠ 0 := fun g => hz (Int32.toInt_inj.mp g)
  rw [b, hW.1]
  exact ⟨Int.emod_nonneg _ this, Int.emod_lt_of_pos _ (by omega)⟩
theorem own_y3 {n i : Int32} {el : List Int32} (hW : own_W n.toInt el) (hi : 0 ≤ i.toInt ∧ i.toInt < (el.length : Int)) : ¬ el.getD i.toNatClampNeg 0 < (0 : Int32) ∧ el.getD i.toNatClampNeg 0 < n := by
  have k0 : (0 : Int32).toInt = 0 := rfl
  have a := hW.2.1 i.toNatClampNeg (by rw [own_nat hi.1]; have := hW.1; omega)
  rw [Int32.lt_iff_toInt_lt, Int32.lt_iff_toInt_lt, k0]
  omega
theorem own_y4 {n i : Int32} {el : List Int32} (hW : own_W n.toInt el) (hn : 0 ≤ n.toInt ∧ n.toInt ≤ 65535) (hi : 0 ≤ i.toInt ∧ i.toInt < (el.length : Int)) (h : ¬ i + (1 : Int32) = n) : 0 ≤ (i + (1 : Int32)).toInt ∧ (i + (1 : Int32)).toInt < (el.length : Int) ∧ (i + (1 : Int32)).toInt = i.toInt + 1 := by
  have k1 : (1 : Int32).toInt = 1 := rfl
  have l1 := hW.1
  have e : (i + (1 : Int32)).toInt = i.toInt + 1 := by rw [own_add (by omega) (by omega), k1]
  have : (i + (1 : Int32)).toInt ≠ n.toInt := fun g => h (Int32.toInt_inj.mp g)
  omega
theorem own_y5 {n i : Int32} {el : List Int32} (hW : own_W n.toInt el) (hn : 0 ≤ n.toInt ∧ n.toInt ≤ 65535) (hi : 0 ≤ i.toInt ∧ i.toInt < (el.length : Int)) (h : ¬ i + (1 : Int32) = n) : lexF (el.getD i.toNatClampNeg 0 + (1 : Int32)) (el.getD (i + (1 : Int32)).toNatClampNeg 0 + (1 : Int32)) = 1 := by
  have k1 : (1 : Int32).toInt = 1 := rfl
  have g := own_y4 hW hn hi h
  have l1 := hW.1
  have n1 := own_nat hi.1
  have n2 := own_nat g.1
  have e : (i + (1 : Int32)).toNatClampNeg = i.toNatClampNeg + 1 := by omega
  have a := hW.2.1 i.toNatClampNeg (by omega)
  have b := hW.2.1 (i + (1 : Int32)).toNatClampNeg (by omega)
  have t := hW.2.2 i.toNatClampNeg (by omega)
  have ea : (el.getD i.toNatClampNeg 0 + (1 : Int32)).toInt = (el.getD i.toNatClampNeg 0).toInt + 1 := by rw [own_add (by omega) (by omega), k1]
  have eb : (el.getD (i + (1 : Int32)).toNatClampNeg 0 + (1 : Int32)).toInt = (el.getD (i + (1 : Int32)).toNatClampNeg 0).toInt + 1 := by rw [own_add (by omega) (by omega), k1]
  apply own_lx
  · rw [ea]; omega
  · rw [eb]; omega
  · rw [ea, eb, e]; exact t
theorem pd_2 : parseMethodDescriptor "(I)[I" = some ⟨[.int], some (.array .int)⟩ := by decide +kernel
theorem pd_3 : parseMethodDescriptor "(II)Z" = some ⟨[.int, .int], some .boolean⟩ := by decide +kernel
theorem ef_0 (m : MethodId) (x0 : Int32) (x1 : Int32) : entryFrame m #[(.int x0), (.int x1)] maxLocals = mkF m 0 #[.val (.int x0), .val (.int x1), .unset, .unset, .unset, .unset, .unset] [] := by first | (simp [entryFrame, mkF, argsToLocals, Value.category, maxLocals]; done) | rfl
def Q0 (Z : State) (p1 : Int32) (p2 : Int32)  (h0 : Heap) (n0 : Nat) (v : Option Value) (h : Heap) (L : List Loc) : Prop := v = some (.int (1 : Int32)) ∧ Fr n0 L
set_option maxRecDepth 65536 in
set_option maxHeartbeats 40000000 in
theorem rm_0 (l : Launch) (Z : State) (a0 : Array Value) (hw : ∀ d ∈ tables_1, d.before a0 Z = true) (ws : List Jvm.Cond) (p1 : Int32) (p2 : Int32)  (h0 : Heap) (n0 : Nat) (Z0 : n0 ≤ h0.size) :
    MetFree l x (head1 (Jvm.Cond.code x code maxLocals ret :: ws) room_1) (fun A_ U => A_ = #[(.int p1), (.int p2)] ∧ Z.Warmed39 U.vm ∧ U.heap = h0) (fun _ _ _ _ _ => True) (fun _ U o U' => ∃ v L, o = .returned v ∧ Q0 Z p1 p2 h0 n0 v U'.heap L ∧ FrameEnd U o U' L 16 131136) := by
  refine MetFree.of_bodySF (plainFor_of_name pn_1) hisR ?_
  intro p e s m args below meth c s₁ Bd hml0 hP hK
  obtain ⟨rfl, hZ, hh⟩ := hP
  have hx := Bd.exec
  have hby := Bd.bytes
  have hml : c.maxLocals = 7 := hml0
  have hown : s.vm.findClass "com/example/gridwake/gridwake/workload/GeneratorInIdOrderPinLaw" = some m.cls := findClass_of_methodNamed Bd.named
  have hnm := (name_of_methodNamed Bd.named Bd.method).1
  have X0 : Stand p l e room_1 s m #[(.int p1), (.int p2)] below meth c s₁ [] 0 0 := Stand.of_body Bd
  have e0 : s₁.heap = h0 := by rw [← hh, Bd.state]; rfl
  have N0 := Fr.nil n0
  suffices HGO : Go p e below s (Q0 Z p1 p2 h0 n0) 16 131136 s₁ (mkF m 0 #[.val (.int p1), .val (.int p2), .unset, .unset, .unset, .unset, .unset] []) from Go.cast (ef_0 m p1 p2) HGO
  obtain ⟨_, _, ⟨T1, L1, k1, n1⟩, -, X1, ⟨Lc1, hQ1, l1, y1, z1⟩, st1⟩ := Jvm.LawKit.callS X0 hx (y := (⟨"com/example/gridwake/gridwake/workload/Generator", "inIdOrder", "(I)[I"⟩ : MethodName)) hown (mvT hZ (hw _ (List.mem_of_getElem? (i := 1) rfl))) (mvT hZ (hw _ (List.mem_of_getElem? (i := 2) rfl))) (mvT hZ (hw _ (List.mem_of_getElem? (i := 3) rfl))) (mvT hZ (hw _ (List.mem_of_getElem? (i := 4) rfl))) (by decide) (backOf (W := 0) (rm_ordK l Z a0 hw [] (p1 &&& (65535 : Int32))  h0 n0 Z0  (own_n p1)) hZ (hw _ (List.mem_of_getElem? (i := 4) rfl)) (hw _ (List.mem_of_getElem? (i := 3) rfl)) (by decide) (by decide)) (g := (mkF m 6 #[.val (.int p1), .val (.int p2), .val (.int (p1 &&& (65535 : Int32))), .unset, .unset, .unset, .unset] [(.int (p1 &&& (65535 : Int32)))])) rfl (by rw [hml]; rfl) (argsL := [(.int (p1 &&& (65535 : Int32)))]) (rest := []) (lenOf pd_2 rfl) rfl (by show 2 * 0 + _ ≤ _; exact Nat.le_of_eq rfl) (hb hby at_6) (fun _ _ => ⟨rfl, e0, (Nat.le_trans (Nat.add_le_add_right (Nat.le_refl 0) 1) (by decide)), (Nat.le_trans (Nat.add_le_add_right (Nat.le_refl 0) 65535) (by decide))⟩)
  dsimp only [Pt.U, Pt.locs, Pt.cells, Pt.slots] at X1 l1 y1 z1 st1 hQ1
  subst l1 y1 z1
  obtain ⟨b_1, el_1, rfl, N1q, Kq1, fz_b_1, pf1_0, ph1_0⟩ := hQ1
  have g_b_1 : n0 ≤ b_1 := Nat.le_trans Z0 fz_b_1
  have sz_b_1 : h0.size ≤ b_1 := Nat.le_trans (Keep.refl h0 []).1 fz_b_1
  have K1 : Keep h0 T1.heap [] := Keep.trans (Keep.refl h0 []) Kq1 all0
  have Z1 : n0 ≤ T1.heap.size := Nat.le_trans Z0 K1.1
  have N1 := Fr.app N0 N1q
  have hW := ph1_0
  have ln2 : ((el_1.map Value.int).length : Int) = ((el_1.length.toInt32)).toInt := (by have q := pf1_0.len; rw [List.length_map] at q; rw [len_toInt q, List.length_map])
  refine Go.step (T' := T1) (f' := (mkF m 13 #[.val (.int p1), .val (.int p2), .val (.int (p1 &&& (65535 : Int32))), .val (.ref b_1), .unset, .unset, .unset] [(.int (p1 &&& (65535 : Int32))), (.int (el_1.length.toInt32))])) (fun t kt => ?_) ?_
  · show Steps p.tables e below (s₁.setTop (mkF m 0 #[.val (.int p1), .val (.int p2), .unset, .unset, .unset, .unset, .unset] [])) _
    refine XS.iloadN X0.here hx rfl (hb hby at_0) rfl ?_
    show Steps p.tables e below (s₁.setTop (mkF m 1 #[.val (.int p1), .val (.int p2), .unset, .unset, .unset, .unset, .unset] [(.int p1)])) _
    refine X0.ldcInt hx hown (mvT hZ (hw _ (List.mem_of_getElem? (i := 0) rfl))) (g := (mkF m 1 #[.val (.int p1), .val (.int p2), .unset, .unset, .unset, .unset, .unset] [(.int p1)])) rfl (hb hby at_1) _ ?_
    show Steps p.tables e below (s₁.setTop (mkF m 3 #[.val (.int p1), .val (.int p2), .unset, .unset, .unset, .unset, .unset] [(.int (65535 : Int32)), (.int p1)])) _
    refine XS.iand X0.here hx rfl (hb hby at_3) rfl ?_
    show Steps p.tables e below (s₁.setTop (mkF m 4 #[.val (.int p1), .val (.int p2), .unset, .unset, .unset, .unset, .unset] [(.int (p1 &&& (65535 : Int32)))])) _
    refine XS.istoreN X0.here hx rfl (hb hby at_4) rfl (l' := #[.val (.int p1), .val (.int p2), .val (.int (p1 &&& (65535 : Int32))), .unset, .unset, .unset, .unset]) rfl ?_
    show Steps p.tables e below (s₁.setTop (mkF m 5 #[.val (.int p1), .val (.int p2), .val (.int (p1 &&& (65535 : Int32))), .unset, .unset, .unset, .unset] [])) _
    refine XS.iloadN X0.here hx rfl (hb hby at_5) rfl ?_
    show Steps p.tables e below (s₁.setTop (mkF m 6 #[.val (.int p1), .val (.int p2), .val (.int (p1 &&& (65535 : Int32))), .unset, .unset, .unset, .unset] [(.int (p1 &&& (65535 : Int32)))])) _
    refine st1 _ ?_
    show Steps p.tables e below (T1.setTop (mkF m 9 #[.val (.int p1), .val (.int p2), .val (.int (p1 &&& (65535 : Int32))), .unset, .unset, .unset, .unset] [(.ref b_1)])) _
    refine XS.astoreN X1.here hx rfl (hb hby at_9) rfl rfl (l' := #[.val (.int p1), .val (.int p2), .val (.int (p1 &&& (65535 : Int32))), .val (.ref b_1), .unset, .unset, .unset]) rfl ?_
    show Steps p.tables e below (T1.setTop (mkF m 10 #[.val (.int p1), .val (.int p2), .val (.int (p1 &&& (65535 : Int32))), .val (.ref b_1), .unset, .unset, .unset] [])) _
    refine XS.aloadN X1.here hx rfl (hb hby at_10) rfl rfl ?_
    show Steps p.tables e below (T1.setTop (mkF m 11 #[.val (.int p1), .val (.int p2), .val (.int (p1 &&& (65535 : Int32))), .val (.ref b_1), .unset, .unset, .unset] [(.ref b_1)])) _
    refine lenA X1 hx hZ rfl pf1_0 (n := (el_1.length.toInt32)) ln2 (g := (mkF m 11 #[.val (.int p1), .val (.int p2), .val (.int (p1 &&& (65535 : Int32))), .val (.ref b_1), .unset, .unset, .unset] [(.ref b_1)])) rfl rfl (hb hby at_11) _ ?_
    show Steps p.tables e below (T1.setTop (mkF m 12 #[.val (.int p1), .val (.int p2), .val (.int (p1 &&& (65535 : Int32))), .val (.ref b_1), .unset, .unset, .unset] [(.int (el_1.length.toInt32))])) _
    refine XS.iloadN X1.here hx rfl (hb hby at_12) rfl ?_
    exact kt
  have hd3 : (el_1.length.toInt32) = (p1 &&& (65535 : Int32)) := own_y1 hW (own_n p1)
  refine Go.step (T' := T1) (f' := (mkF m 19 #[.val (.int p1), .val (.int p2), .val (.int (p1 &&& (65535 : Int32))), .val (.ref b_1), .unset, .unset, .unset] [(.int (p1 &&& (65535 : Int32)))])) (fun t kt => ?_) ?_
  · show Steps p.tables e below (T1.setTop (mkF m 13 #[.val (.int p1), .val (.int p2), .val (.int (p1 &&& (65535 : Int32))), .val (.ref b_1), .unset, .unset, .unset] [(.int (p1 &&& (65535 : Int32))), (.int (el_1.length.toInt32))])) _
    refine XS.icmpYes X1.here hx rfl (pc0 := 13) (pc' := 18) rfl (hb hby at_13) rfl (teq hd3).1 (by decide) (by decide) ?_
    show Steps p.tables e below (T1.setTop (mkF m 18 #[.val (.int p1), .val (.int p2), .val (.int (p1 &&& (65535 : Int32))), .val (.ref b_1), .unset, .unset, .unset] [])) _
    refine XS.iloadN X1.here hx rfl (hb hby at_18) rfl ?_
    exact kt
  by_cases hc4 : (p1 &&& (65535 : Int32)) = (0 : Int32)
  · have _ := hc4
    refine Go.step (T' := T1) (f' := (mkF m 22 #[.val (.int p1), .val (.int p2), .val (.int (p1 &&& (65535 : Int32))), .val (.ref b_1), .unset, .unset, .unset] [])) (fun t kt => ?_) ?_
    · show Steps p.tables e below (T1.setTop (mkF m 19 #[.val (.int p1), .val (.int p2), .val (.int (p1 &&& (65535 : Int32))), .val (.ref b_1), .unset, .unset, .unset] [(.int (p1 &&& (65535 : Int32)))])) _
      refine XS.ifNo X1.here hx rfl (hb hby at_19) rfl ((if0 _ _).trans (teq hc4).2) ?_
      exact kt
    refine Go.step (T' := T1) (f' := (mkF m 23 #[.val (.int p1), .val (.int p2), .val (.int (p1 &&& (65535 : Int32))), .val (.ref b_1), .unset, .unset, .unset] [(.int (1 : Int32))])) (fun t kt => ?_) ?_
    · show Steps p.tables e below (T1.setTop (mkF m 22 #[.val (.int p1), .val (.int p2), .val (.int (p1 &&& (65535 : Int32))), .val (.ref b_1), .unset, .unset, .unset] [])) _
      refine XS.iconst X1.here hx rfl (hb hby at_22) ?_
      exact kt
    refine Go.fin X1 (v := some (.int (1 : Int32))) (fun h => by rw [Bd.returns] at h; cases h) Bd.notSynchronized ?_ (Nat.le_trans (Nat.add_le_add_right (Nat.le_refl 0) 1) (by decide)) (Nat.le_trans (Nat.add_le_add_right (Nat.le_refl 0) 65535) (by decide)) (fun fs hr => retN X1 hx (t := .boolean) Bd.returns (by simp) (hb hby at_23) hr)
    · show Q0 Z p1 p2 h0 n0 _ T1.heap _
      exact ⟨rfl, N1⟩
  · have _ := hc4
    refine Go.step (T' := T1) (f' := (mkF m 24 #[.val (.int p1), .val (.int p2), .val (.int (p1 &&& (65535 : Int32))), .val (.ref b_1), .unset, .unset, .unset] [])) (fun t kt => ?_) ?_
    · show Steps p.tables e below (T1.setTop (mkF m 19 #[.val (.int p1), .val (.int p2), .val (.int (p1 &&& (65535 : Int32))), .val (.ref b_1), .unset, .unset, .unset] [(.int (p1 &&& (65535 : Int32)))])) _
      refine XS.ifYes X1.here hx rfl (pc0 := 19) (pc' := 24) rfl (hb hby at_19) rfl ((if0 _ _).trans (feq hc4).2) (by decide) (by decide) ?_
      exact kt
    refine Go.step (T' := T1) (f' := (mkF m 29 #[.val (.int p1), .val (.int p2), .val (.int (p1 &&& (65535 : Int32))), .val (.ref b_1), .unset, .unset, .unset] [(.int (p1 &&& (65535 : Int32))), (.int (p2 &&& (2147483647 : Int32)))])) (fun t kt => ?_) ?_
    · show Steps p.tables e below (T1.setTop (mkF m 24 #[.val (.int p1), .val (.int p2), .val (.int (p1 &&& (65535 : Int32))), .val (.ref b_1), .unset, .unset, .unset] [])) _
      refine XS.iloadN X1.here hx rfl (hb hby at_24) rfl ?_
      show Steps p.tables e below (T1.setTop (mkF m 25 #[.val (.int p1), .val (.int p2), .val (.int (p1 &&& (65535 : Int32))), .val (.ref b_1), .unset, .unset, .unset] [(.int p2)])) _
      refine X1.ldcInt hx hown (mvT hZ (hw _ (List.mem_of_getElem? (i := 8) rfl))) (g := (mkF m 25 #[.val (.int p1), .val (.int p2), .val (.int (p1 &&& (65535 : Int32))), .val (.ref b_1), .unset, .unset, .unset] [(.int p2)])) rfl (hb hby at_25) _ ?_
      show Steps p.tables e below (T1.setTop (mkF m 27 #[.val (.int p1), .val (.int p2), .val (.int (p1 &&& (65535 : Int32))), .val (.ref b_1), .unset, .unset, .unset] [(.int (2147483647 : Int32)), (.int p2)])) _
      refine XS.iand X1.here hx rfl (hb hby at_27) rfl ?_
      show Steps p.tables e below (T1.setTop (mkF m 28 #[.val (.int p1), .val (.int p2), .val (.int (p1 &&& (65535 : Int32))), .val (.ref b_1), .unset, .unset, .unset] [(.int (p2 &&& (2147483647 : Int32)))])) _
      refine XS.iloadN X1.here hx rfl (hb hby at_28) rfl ?_
      exact kt
    have hnz29 : ¬ ((p1 &&& (65535 : Int32)) = (0 : Int32)) := by assumption
    have ix5 : 0 ≤ (((p2 &&& (2147483647 : Int32)) % (p1 &&& (65535 : Int32)))).toInt ∧ (((p2 &&& (2147483647 : Int32)) % (p1 &&& (65535 : Int32)))).toInt < ((el_1).length : Int) := own_y2 hW (own_n p1) (by assumption) p2
    refine Go.step (T' := T1) (f' := (mkF m 40 #[.val (.int p1), .val (.int p2), .val (.int (p1 &&& (65535 : Int32))), .val (.ref b_1), .val (.int ((p2 &&& (2147483647 : Int32)) % (p1 &&& (65535 : Int32)))), .val (.int (el_1.getD ((p2 &&& (2147483647 : Int32)) % (p1 &&& (65535 : Int32))).toNatClampNeg (0 : Int32))), .unset] [(.int (el_1.getD ((p2 &&& (2147483647 : Int32)) % (p1 &&& (65535 : Int32))).toNatClampNeg (0 : Int32)))])) (fun t kt => ?_) ?_
    · show Steps p.tables e below (T1.setTop (mkF m 29 #[.val (.int p1), .val (.int p2), .val (.int (p1 &&& (65535 : Int32))), .val (.ref b_1), .unset, .unset, .unset] [(.int (p1 &&& (65535 : Int32))), (.int (p2 &&& (2147483647 : Int32)))])) _
      refine XS.irem X1.here hx rfl (hb hby at_29) rfl hnz29 ?_
      show Steps p.tables e below (T1.setTop (mkF m 30 #[.val (.int p1), .val (.int p2), .val (.int (p1 &&& (65535 : Int32))), .val (.ref b_1), .unset, .unset, .unset] [(.int ((p2 &&& (2147483647 : Int32)) - ((p2 &&& (2147483647 : Int32)) / (p1 &&& (65535 : Int32))) * (p1 &&& (65535 : Int32))))])) _
      rw [own_irem ((p2 &&& (2147483647 : Int32))) ((p1 &&& (65535 : Int32)))]
      show Steps p.tables e below (T1.setTop (mkF m 30 #[.val (.int p1), .val (.int p2), .val (.int (p1 &&& (65535 : Int32))), .val (.ref b_1), .unset, .unset, .unset] [(.int ((p2 &&& (2147483647 : Int32)) % (p1 &&& (65535 : Int32))))])) _
      refine XS.istore X1.here hx rfl (hb hby at_30) rfl (l' := #[.val (.int p1), .val (.int p2), .val (.int (p1 &&& (65535 : Int32))), .val (.ref b_1), .val (.int ((p2 &&& (2147483647 : Int32)) % (p1 &&& (65535 : Int32)))), .unset, .unset]) rfl ?_
      show Steps p.tables e below (T1.setTop (mkF m 32 #[.val (.int p1), .val (.int p2), .val (.int (p1 &&& (65535 : Int32))), .val (.ref b_1), .val (.int ((p2 &&& (2147483647 : Int32)) % (p1 &&& (65535 : Int32)))), .unset, .unset] [])) _
      refine XS.aloadN X1.here hx rfl (hb hby at_32) rfl rfl ?_
      show Steps p.tables e below (T1.setTop (mkF m 33 #[.val (.int p1), .val (.int p2), .val (.int (p1 &&& (65535 : Int32))), .val (.ref b_1), .val (.int ((p2 &&& (2147483647 : Int32)) % (p1 &&& (65535 : Int32)))), .unset, .unset] [(.ref b_1)])) _
      refine XS.iload X1.here hx rfl (hb hby at_33) rfl ?_
      show Steps p.tables e below (T1.setTop (mkF m 35 #[.val (.int p1), .val (.int p2), .val (.int (p1 &&& (65535 : Int32))), .val (.ref b_1), .val (.int ((p2 &&& (2147483647 : Int32)) % (p1 &&& (65535 : Int32)))), .unset, .unset] [(.int ((p2 &&& (2147483647 : Int32)) % (p1 &&& (65535 : Int32)))), (.ref b_1)])) _
      refine ldI X1 hx hZ rfl pf1_0 ix5.1 ix5.2 (g := (mkF m 35 #[.val (.int p1), .val (.int p2), .val (.int (p1 &&& (65535 : Int32))), .val (.ref b_1), .val (.int ((p2 &&& (2147483647 : Int32)) % (p1 &&& (65535 : Int32)))), .unset, .unset] [(.int ((p2 &&& (2147483647 : Int32)) % (p1 &&& (65535 : Int32)))), (.ref b_1)])) rfl rfl (hb hby at_35) _ ?_
      show Steps p.tables e below (T1.setTop (mkF m 36 #[.val (.int p1), .val (.int p2), .val (.int (p1 &&& (65535 : Int32))), .val (.ref b_1), .val (.int ((p2 &&& (2147483647 : Int32)) % (p1 &&& (65535 : Int32)))), .unset, .unset] [(.int (el_1.getD ((p2 &&& (2147483647 : Int32)) % (p1 &&& (65535 : Int32))).toNatClampNeg (0 : Int32)))])) _
      refine XS.istore X1.here hx rfl (hb hby at_36) rfl (l' := #[.val (.int p1), .val (.int p2), .val (.int (p1 &&& (65535 : Int32))), .val (.ref b_1), .val (.int ((p2 &&& (2147483647 : Int32)) % (p1 &&& (65535 : Int32)))), .val (.int (el_1.getD ((p2 &&& (2147483647 : Int32)) % (p1 &&& (65535 : Int32))).toNatClampNeg (0 : Int32))), .unset]) rfl ?_
      show Steps p.tables e below (T1.setTop (mkF m 38 #[.val (.int p1), .val (.int p2), .val (.int (p1 &&& (65535 : Int32))), .val (.ref b_1), .val (.int ((p2 &&& (2147483647 : Int32)) % (p1 &&& (65535 : Int32)))), .val (.int (el_1.getD ((p2 &&& (2147483647 : Int32)) % (p1 &&& (65535 : Int32))).toNatClampNeg (0 : Int32))), .unset] [])) _
      refine XS.iload X1.here hx rfl (hb hby at_38) rfl ?_
      exact kt
    have hd6 : ¬ ((el_1.getD ((p2 &&& (2147483647 : Int32)) % (p1 &&& (65535 : Int32))).toNatClampNeg (0 : Int32)) < (0 : Int32)) := (own_y3 hW (own_y2 hW (own_n p1) (by assumption) p2)).1
    refine Go.step (T' := T1) (f' := (mkF m 46 #[.val (.int p1), .val (.int p2), .val (.int (p1 &&& (65535 : Int32))), .val (.ref b_1), .val (.int ((p2 &&& (2147483647 : Int32)) % (p1 &&& (65535 : Int32)))), .val (.int (el_1.getD ((p2 &&& (2147483647 : Int32)) % (p1 &&& (65535 : Int32))).toNatClampNeg (0 : Int32))), .unset] [(.int (p1 &&& (65535 : Int32))), (.int (el_1.getD ((p2 &&& (2147483647 : Int32)) % (p1 &&& (65535 : Int32))).toNatClampNeg (0 : Int32)))])) (fun t kt => ?_) ?_
    · show Steps p.tables e below (T1.setTop (mkF m 40 #[.val (.int p1), .val (.int p2), .val (.int (p1 &&& (65535 : Int32))), .val (.ref b_1), .val (.int ((p2 &&& (2147483647 : Int32)) % (p1 &&& (65535 : Int32)))), .val (.int (el_1.getD ((p2 &&& (2147483647 : Int32)) % (p1 &&& (65535 : Int32))).toNatClampNeg (0 : Int32))), .unset] [(.int (el_1.getD ((p2 &&& (2147483647 : Int32)) % (p1 &&& (65535 : Int32))).toNatClampNeg (0 : Int32)))])) _
      refine XS.ifNo X1.here hx rfl (hb hby at_40) rfl ((if0 _ _).trans (flt hd6).1) ?_
      show Steps p.tables e below (T1.setTop (mkF m 43 #[.val (.int p1), .val (.int p2), .val (.int (p1 &&& (65535 : Int32))), .val (.ref b_1), .val (.int ((p2 &&& (2147483647 : Int32)) % (p1 &&& (65535 : Int32)))), .val (.int (el_1.getD ((p2 &&& (2147483647 : Int32)) % (p1 &&& (65535 : Int32))).toNatClampNeg (0 : Int32))), .unset] [])) _
      refine XS.iload X1.here hx rfl (hb hby at_43) rfl ?_
      show Steps p.tables e below (T1.setTop (mkF m 45 #[.val (.int p1), .val (.int p2), .val (.int (p1 &&& (65535 : Int32))), .val (.ref b_1), .val (.int ((p2 &&& (2147483647 : Int32)) % (p1 &&& (65535 : Int32)))), .val (.int (el_1.getD ((p2 &&& (2147483647 : Int32)) % (p1 &&& (65535 : Int32))).toNatClampNeg (0 : Int32))), .unset] [(.int (el_1.getD ((p2 &&& (2147483647 : Int32)) % (p1 &&& (65535 : Int32))).toNatClampNeg (0 : Int32)))])) _
      refine XS.iloadN X1.here hx rfl (hb hby at_45) rfl ?_
      exact kt
    have hd7 : (el_1.getD ((p2 &&& (2147483647 : Int32)) % (p1 &&& (65535 : Int32))).toNatClampNeg (0 : Int32)) < (p1 &&& (65535 : Int32)) := (own_y3 hW (own_y2 hW (own_n p1) (by assumption) p2)).2
    refine Go.step (T' := T1) (f' := (mkF m 56 #[.val (.int p1), .val (.int p2), .val (.int (p1 &&& (65535 : Int32))), .val (.ref b_1), .val (.int ((p2 &&& (2147483647 : Int32)) % (p1 &&& (65535 : Int32)))), .val (.int (el_1.getD ((p2 &&& (2147483647 : Int32)) % (p1 &&& (65535 : Int32))).toNatClampNeg (0 : Int32))), .unset] [(.int (p1 &&& (65535 : Int32))), (.int (((p2 &&& (2147483647 : Int32)) % (p1 &&& (65535 : Int32))) + (1 : Int32)))])) (fun t kt => ?_) ?_
    · show Steps p.tables e below (T1.setTop (mkF m 46 #[.val (.int p1), .val (.int p2), .val (.int (p1 &&& (65535 : Int32))), .val (.ref b_1), .val (.int ((p2 &&& (2147483647 : Int32)) % (p1 &&& (65535 : Int32)))), .val (.int (el_1.getD ((p2 &&& (2147483647 : Int32)) % (p1 &&& (65535 : Int32))).toNatClampNeg (0 : Int32))), .unset] [(.int (p1 &&& (65535 : Int32))), (.int (el_1.getD ((p2 &&& (2147483647 : Int32)) % (p1 &&& (65535 : Int32))).toNatClampNeg (0 : Int32)))])) _
      refine XS.icmpYes X1.here hx rfl (pc0 := 46) (pc' := 51) rfl (hb hby at_46) rfl (tlt hd7).1 (by decide) (by decide) ?_
      show Steps p.tables e below (T1.setTop (mkF m 51 #[.val (.int p1), .val (.int p2), .val (.int (p1 &&& (65535 : Int32))), .val (.ref b_1), .val (.int ((p2 &&& (2147483647 : Int32)) % (p1 &&& (65535 : Int32)))), .val (.int (el_1.getD ((p2 &&& (2147483647 : Int32)) % (p1 &&& (65535 : Int32))).toNatClampNeg (0 : Int32))), .unset] [])) _
      refine XS.iload X1.here hx rfl (hb hby at_51) rfl ?_
      show Steps p.tables e below (T1.setTop (mkF m 53 #[.val (.int p1), .val (.int p2), .val (.int (p1 &&& (65535 : Int32))), .val (.ref b_1), .val (.int ((p2 &&& (2147483647 : Int32)) % (p1 &&& (65535 : Int32)))), .val (.int (el_1.getD ((p2 &&& (2147483647 : Int32)) % (p1 &&& (65535 : Int32))).toNatClampNeg (0 : Int32))), .unset] [(.int ((p2 &&& (2147483647 : Int32)) % (p1 &&& (65535 : Int32))))])) _
      refine XS.iconst X1.here hx rfl (hb hby at_53) ?_
      show Steps p.tables e below (T1.setTop (mkF m 54 #[.val (.int p1), .val (.int p2), .val (.int (p1 &&& (65535 : Int32))), .val (.ref b_1), .val (.int ((p2 &&& (2147483647 : Int32)) % (p1 &&& (65535 : Int32)))), .val (.int (el_1.getD ((p2 &&& (2147483647 : Int32)) % (p1 &&& (65535 : Int32))).toNatClampNeg (0 : Int32))), .unset] [(.int (1 : Int32)), (.int ((p2 &&& (2147483647 : Int32)) % (p1 &&& (65535 : Int32))))])) _
      refine XS.iadd X1.here hx rfl (hb hby at_54) rfl ?_
      show Steps p.tables e below (T1.setTop (mkF m 55 #[.val (.int p1), .val (.int p2), .val (.int (p1 &&& (65535 : Int32))), .val (.ref b_1), .val (.int ((p2 &&& (2147483647 : Int32)) % (p1 &&& (65535 : Int32)))), .val (.int (el_1.getD ((p2 &&& (2147483647 : Int32)) % (p1 &&& (65535 : Int32))).toNatClampNeg (0 : Int32))), .unset] [(.int (((p2 &&& (2147483647 : Int32)) % (p1 &&& (65535 : Int32))) + (1 : Int32)))])) _
      refine XS.iloadN X1.here hx rfl (hb hby at_55) rfl ?_
      exact kt
    by_cases hc8 : (((p2 &&& (2147483647 : Int32)) % (p1 &&& (65535 : Int32))) + (1 : Int32)) = (p1 &&& (65535 : Int32))
    · have _ := hc8
      refine Go.step (T' := T1) (f' := (mkF m 59 #[.val (.int p1), .val (.int p2), .val (.int (p1 &&& (65535 : Int32))), .val (.ref b_1), .val (.int ((p2 &&& (2147483647 : Int32)) % (p1 &&& (65535 : Int32)))), .val (.int (el_1.getD ((p2 &&& (2147483647 : Int32)) % (p1 &&& (65535 : Int32))).toNatClampNeg (0 : Int32))), .unset] [])) (fun t kt => ?_) ?_
      · show Steps p.tables e below (T1.setTop (mkF m 56 #[.val (.int p1), .val (.int p2), .val (.int (p1 &&& (65535 : Int32))), .val (.ref b_1), .val (.int ((p2 &&& (2147483647 : Int32)) % (p1 &&& (65535 : Int32)))), .val (.int (el_1.getD ((p2 &&& (2147483647 : Int32)) % (p1 &&& (65535 : Int32))).toNatClampNeg (0 : Int32))), .unset] [(.int (p1 &&& (65535 : Int32))), (.int (((p2 &&& (2147483647 : Int32)) % (p1 &&& (65535 : Int32))) + (1 : Int32)))])) _
        refine XS.icmpNo X1.here hx rfl (hb hby at_56) rfl (teq hc8).2 ?_
        exact kt
      refine Go.step (T' := T1) (f' := (mkF m 60 #[.val (.int p1), .val (.int p2), .val (.int (p1 &&& (65535 : Int32))), .val (.ref b_1), .val (.int ((p2 &&& (2147483647 : Int32)) % (p1 &&& (65535 : Int32)))), .val (.int (el_1.getD ((p2 &&& (2147483647 : Int32)) % (p1 &&& (65535 : Int32))).toNatClampNeg (0 : Int32))), .unset] [(.int (1 : Int32))])) (fun t kt => ?_) ?_
      · show Steps p.tables e below (T1.setTop (mkF m 59 #[.val (.int p1), .val (.int p2), .val (.int (p1 &&& (65535 : Int32))), .val (.ref b_1), .val (.int ((p2 &&& (2147483647 : Int32)) % (p1 &&& (65535 : Int32)))), .val (.int (el_1.getD ((p2 &&& (2147483647 : Int32)) % (p1 &&& (65535 : Int32))).toNatClampNeg (0 : Int32))), .unset] [])) _
        refine XS.iconst X1.here hx rfl (hb hby at_59) ?_
        exact kt
      refine Go.fin X1 (v := some (.int (1 : Int32))) (fun h => by rw [Bd.returns] at h; cases h) Bd.notSynchronized ?_ (Nat.le_trans (Nat.add_le_add_right (Nat.le_refl 0) 1) (by decide)) (Nat.le_trans (Nat.add_le_add_right (Nat.le_refl 0) 65535) (by decide)) (fun fs hr => retN X1 hx (t := .boolean) Bd.returns (by simp) (hb hby at_60) hr)
      · show Q0 Z p1 p2 h0 n0 _ T1.heap _
        exact ⟨rfl, N1⟩
    · have _ := hc8
      refine Go.step (T' := T1) (f' := (mkF m 61 #[.val (.int p1), .val (.int p2), .val (.int (p1 &&& (65535 : Int32))), .val (.ref b_1), .val (.int ((p2 &&& (2147483647 : Int32)) % (p1 &&& (65535 : Int32)))), .val (.int (el_1.getD ((p2 &&& (2147483647 : Int32)) % (p1 &&& (65535 : Int32))).toNatClampNeg (0 : Int32))), .unset] [])) (fun t kt => ?_) ?_
      · show Steps p.tables e below (T1.setTop (mkF m 56 #[.val (.int p1), .val (.int p2), .val (.int (p1 &&& (65535 : Int32))), .val (.ref b_1), .val (.int ((p2 &&& (2147483647 : Int32)) % (p1 &&& (65535 : Int32)))), .val (.int (el_1.getD ((p2 &&& (2147483647 : Int32)) % (p1 &&& (65535 : Int32))).toNatClampNeg (0 : Int32))), .unset] [(.int (p1 &&& (65535 : Int32))), (.int (((p2 &&& (2147483647 : Int32)) % (p1 &&& (65535 : Int32))) + (1 : Int32)))])) _
        refine XS.icmpYes X1.here hx rfl (pc0 := 56) (pc' := 61) rfl (hb hby at_56) rfl (feq hc8).2 (by decide) (by decide) ?_
        exact kt
      have ix9 : 0 ≤ ((((p2 &&& (2147483647 : Int32)) % (p1 &&& (65535 : Int32))) + (1 : Int32))).toInt ∧ ((((p2 &&& (2147483647 : Int32)) % (p1 &&& (65535 : Int32))) + (1 : Int32))).toInt < ((el_1).length : Int) := (have g := own_y4 hW (own_n p1) (own_y2 hW (own_n p1) (by assumption) p2) (by assumption); ⟨g.1, g.2.1⟩)
      refine Go.step (T' := T1) (f' := (mkF m 71 #[.val (.int p1), .val (.int p2), .val (.int (p1 &&& (65535 : Int32))), .val (.ref b_1), .val (.int ((p2 &&& (2147483647 : Int32)) % (p1 &&& (65535 : Int32)))), .val (.int (el_1.getD ((p2 &&& (2147483647 : Int32)) % (p1 &&& (65535 : Int32))).toNatClampNeg (0 : Int32))), .val (.int (el_1.getD (((p2 &&& (2147483647 : Int32)) % (p1 &&& (65535 : Int32))) + (1 : Int32)).toNatClampNeg (0 : Int32)))] [(.int (el_1.getD (((p2 &&& (2147483647 : Int32)) % (p1 &&& (65535 : Int32))) + (1 : Int32)).toNatClampNeg (0 : Int32)))])) (fun t kt => ?_) ?_
      · show Steps p.tables e below (T1.setTop (mkF m 61 #[.val (.int p1), .val (.int p2), .val (.int (p1 &&& (65535 : Int32))), .val (.ref b_1), .val (.int ((p2 &&& (2147483647 : Int32)) % (p1 &&& (65535 : Int32)))), .val (.int (el_1.getD ((p2 &&& (2147483647 : Int32)) % (p1 &&& (65535 : Int32))).toNatClampNeg (0 : Int32))), .unset] [])) _
        refine XS.aloadN X1.here hx rfl (hb hby at_61) rfl rfl ?_
        show Steps p.tables e below (T1.setTop (mkF m 62 #[.val (.int p1), .val (.int p2), .val (.int (p1 &&& (65535 : Int32))), .val (.ref b_1), .val (.int ((p2 &&& (2147483647 : Int32)) % (p1 &&& (65535 : Int32)))), .val (.int (el_1.getD ((p2 &&& (2147483647 : Int32)) % (p1 &&& (65535 : Int32))).toNatClampNeg (0 : Int32))), .unset] [(.ref b_1)])) _
        refine XS.iload X1.here hx rfl (hb hby at_62) rfl ?_
        show Steps p.tables e below (T1.setTop (mkF m 64 #[.val (.int p1), .val (.int p2), .val (.int (p1 &&& (65535 : Int32))), .val (.ref b_1), .val (.int ((p2 &&& (2147483647 : Int32)) % (p1 &&& (65535 : Int32)))), .val (.int (el_1.getD ((p2 &&& (2147483647 : Int32)) % (p1 &&& (65535 : Int32))).toNatClampNeg (0 : Int32))), .unset] [(.int ((p2 &&& (2147483647 : Int32)) % (p1 &&& (65535 : Int32)))), (.ref b_1)])) _
        refine XS.iconst X1.here hx rfl (hb hby at_64) ?_
        show Steps p.tables e below (T1.setTop (mkF m 65 #[.val (.int p1), .val (.int p2), .val (.int (p1 &&& (65535 : Int32))), .val (.ref b_1), .val (.int ((p2 &&& (2147483647 : Int32)) % (p1 &&& (65535 : Int32)))), .val (.int (el_1.getD ((p2 &&& (2147483647 : Int32)) % (p1 &&& (65535 : Int32))).toNatClampNeg (0 : Int32))), .unset] [(.int (1 : Int32)), (.int ((p2 &&& (2147483647 : Int32)) % (p1 &&& (65535 : Int32)))), (.ref b_1)])) _
        refine XS.iadd X1.here hx rfl (hb hby at_65) rfl ?_
        show Steps p.tables e below (T1.setTop (mkF m 66 #[.val (.int p1), .val (.int p2), .val (.int (p1 &&& (65535 : Int32))), .val (.ref b_1), .val (.int ((p2 &&& (2147483647 : Int32)) % (p1 &&& (65535 : Int32)))), .val (.int (el_1.getD ((p2 &&& (2147483647 : Int32)) % (p1 &&& (65535 : Int32))).toNatClampNeg (0 : Int32))), .unset] [(.int (((p2 &&& (2147483647 : Int32)) % (p1 &&& (65535 : Int32))) + (1 : Int32))), (.ref b_1)])) _
        refine ldI X1 hx hZ rfl pf1_0 ix9.1 ix9.2 (g := (mkF m 66 #[.val (.int p1), .val (.int p2), .val (.int (p1 &&& (65535 : Int32))), .val (.ref b_1), .val (.int ((p2 &&& (2147483647 : Int32)) % (p1 &&& (65535 : Int32)))), .val (.int (el_1.getD ((p2 &&& (2147483647 : Int32)) % (p1 &&& (65535 : Int32))).toNatClampNeg (0 : Int32))), .unset] [(.int (((p2 &&& (2147483647 : Int32)) % (p1 &&& (65535 : Int32))) + (1 : Int32))), (.ref b_1)])) rfl rfl (hb hby at_66) _ ?_
        show Steps p.tables e below (T1.setTop (mkF m 67 #[.val (.int p1), .val (.int p2), .val (.int (p1 &&& (65535 : Int32))), .val (.ref b_1), .val (.int ((p2 &&& (2147483647 : Int32)) % (p1 &&& (65535 : Int32)))), .val (.int (el_1.getD ((p2 &&& (2147483647 : Int32)) % (p1 &&& (65535 : Int32))).toNatClampNeg (0 : Int32))), .unset] [(.int (el_1.getD (((p2 &&& (2147483647 : Int32)) % (p1 &&& (65535 : Int32))) + (1 : Int32)).toNatClampNeg (0 : Int32)))])) _
        refine XS.istore X1.here hx rfl (hb hby at_67) rfl (l' := #[.val (.int p1), .val (.int p2), .val (.int (p1 &&& (65535 : Int32))), .val (.ref b_1), .val (.int ((p2 &&& (2147483647 : Int32)) % (p1 &&& (65535 : Int32)))), .val (.int (el_1.getD ((p2 &&& (2147483647 : Int32)) % (p1 &&& (65535 : Int32))).toNatClampNeg (0 : Int32))), .val (.int (el_1.getD (((p2 &&& (2147483647 : Int32)) % (p1 &&& (65535 : Int32))) + (1 : Int32)).toNatClampNeg (0 : Int32)))]) rfl ?_
        show Steps p.tables e below (T1.setTop (mkF m 69 #[.val (.int p1), .val (.int p2), .val (.int (p1 &&& (65535 : Int32))), .val (.ref b_1), .val (.int ((p2 &&& (2147483647 : Int32)) % (p1 &&& (65535 : Int32)))), .val (.int (el_1.getD ((p2 &&& (2147483647 : Int32)) % (p1 &&& (65535 : Int32))).toNatClampNeg (0 : Int32))), .val (.int (el_1.getD (((p2 &&& (2147483647 : Int32)) % (p1 &&& (65535 : Int32))) + (1 : Int32)).toNatClampNeg (0 : Int32)))] [])) _
        refine XS.iload X1.here hx rfl (hb hby at_69) rfl ?_
        exact kt
      have hd10 : ¬ ((el_1.getD (((p2 &&& (2147483647 : Int32)) % (p1 &&& (65535 : Int32))) + (1 : Int32)).toNatClampNeg (0 : Int32)) < (0 : Int32)) := (own_y3 hW (have g := own_y4 hW (own_n p1) (own_y2 hW (own_n p1) (by assumption) p2) (by assumption); ⟨g.1, g.2.1⟩)).1
      refine Go.step (T' := T1) (f' := (mkF m 77 #[.val (.int p1), .val (.int p2), .val (.int (p1 &&& (65535 : Int32))), .val (.ref b_1), .val (.int ((p2 &&& (2147483647 : Int32)) % (p1 &&& (65535 : Int32)))), .val (.int (el_1.getD ((p2 &&& (2147483647 : Int32)) % (p1 &&& (65535 : Int32))).toNatClampNeg (0 : Int32))), .val (.int (el_1.getD (((p2 &&& (2147483647 : Int32)) % (p1 &&& (65535 : Int32))) + (1 : Int32)).toNatClampNeg (0 : Int32)))] [(.int (p1 &&& (65535 : Int32))), (.int (el_1.getD (((p2 &&& (2147483647 : Int32)) % (p1 &&& (65535 : Int32))) + (1 : Int32)).toNatClampNeg (0 : Int32)))])) (fun t kt => ?_) ?_
      · show Steps p.tables e below (T1.setTop (mkF m 71 #[.val (.int p1), .val (.int p2), .val (.int (p1 &&& (65535 : Int32))), .val (.ref b_1), .val (.int ((p2 &&& (2147483647 : Int32)) % (p1 &&& (65535 : Int32)))), .val (.int (el_1.getD ((p2 &&& (2147483647 : Int32)) % (p1 &&& (65535 : Int32))).toNatClampNeg (0 : Int32))), .val (.int (el_1.getD (((p2 &&& (2147483647 : Int32)) % (p1 &&& (65535 : Int32))) + (1 : Int32)).toNatClampNeg (0 : Int32)))] [(.int (el_1.getD (((p2 &&& (2147483647 : Int32)) % (p1 &&& (65535 : Int32))) + (1 : Int32)).toNatClampNeg (0 : Int32)))])) _
        refine XS.ifNo X1.here hx rfl (hb hby at_71) rfl ((if0 _ _).trans (flt hd10).1) ?_
        show Steps p.tables e below (T1.setTop (mkF m 74 #[.val (.int p1), .val (.int p2), .val (.int (p1 &&& (65535 : Int32))), .val (.ref b_1), .val (.int ((p2 &&& (2147483647 : Int32)) % (p1 &&& (65535 : Int32)))), .val (.int (el_1.getD ((p2 &&& (2147483647 : Int32)) % (p1 &&& (65535 : Int32))).toNatClampNeg (0 : Int32))), .val (.int (el_1.getD (((p2 &&& (2147483647 : Int32)) % (p1 &&& (65535 : Int32))) + (1 : Int32)).toNatClampNeg (0 : Int32)))] [])) _
        refine XS.iload X1.here hx rfl (hb hby at_74) rfl ?_
        show Steps p.tables e below (T1.setTop (mkF m 76 #[.val (.int p1), .val (.int p2), .val (.int (p1 &&& (65535 : Int32))), .val (.ref b_1), .val (.int ((p2 &&& (2147483647 : Int32)) % (p1 &&& (65535 : Int32)))), .val (.int (el_1.getD ((p2 &&& (2147483647 : Int32)) % (p1 &&& (65535 : Int32))).toNatClampNeg (0 : Int32))), .val (.int (el_1.getD (((p2 &&& (2147483647 : Int32)) % (p1 &&& (65535 : Int32))) + (1 : Int32)).toNatClampNeg (0 : Int32)))] [(.int (el_1.getD (((p2 &&& (2147483647 : Int32)) % (p1 &&& (65535 : Int32))) + (1 : Int32)).toNatClampNeg (0 : Int32)))])) _
        refine XS.iloadN X1.here hx rfl (hb hby at_76) rfl ?_
        exact kt
      have hd11 : (el_1.getD (((p2 &&& (2147483647 : Int32)) % (p1 &&& (65535 : Int32))) + (1 : Int32)).toNatClampNeg (0 : Int32)) < (p1 &&& (65535 : Int32)) := (own_y3 hW (have g := own_y4 hW (own_n p1) (own_y2 hW (own_n p1) (by assumption) p2) (by assumption); ⟨g.1, g.2.1⟩)).2
      obtain ⟨_, _, ⟨T12, L12, k12, n12⟩, -, X12, ⟨Lc12, hQ12, l12, y12, z12⟩, st12⟩ := Jvm.LawKit.callS X1 hx (y := (⟨"com/example/gridwake/gridwake/workload/GeneratorInIdOrderPinLaw", "lexLess", "(II)Z"⟩ : MethodName)) hown (mvT hZ (hw _ (List.mem_of_getElem? (i := 9) rfl))) (mvT hZ (hw _ (List.mem_of_getElem? (i := 10) rfl))) (mvT hZ (hw _ (List.mem_of_getElem? (i := 11) rfl))) (mvT hZ (hw _ (List.mem_of_getElem? (i := 12) rfl))) (by decide) (backOf (W := 0) (rm_lexF l Z a0 hw [] ((el_1.getD ((p2 &&& (2147483647 : Int32)) % (p1 &&& (65535 : Int32))).toNatClampNeg (0 : Int32)) + (1 : Int32)) ((el_1.getD (((p2 &&& (2147483647 : Int32)) % (p1 &&& (65535 : Int32))) + (1 : Int32)).toNatClampNeg (0 : Int32)) + (1 : Int32))  T1.heap n0 Z1 ) hZ (hw _ (List.mem_of_getElem? (i := 12) rfl)) (hw _ (List.mem_of_getElem? (i := 11) rfl)) (by decide) (by decide)) (g := (mkF m 90 #[.val (.int p1), .val (.int p2), .val (.int (p1 &&& (65535 : Int32))), .val (.ref b_1), .val (.int ((p2 &&& (2147483647 : Int32)) % (p1 &&& (65535 : Int32)))), .val (.int (el_1.getD ((p2 &&& (2147483647 : Int32)) % (p1 &&& (65535 : Int32))).toNatClampNeg (0 : Int32))), .val (.int (el_1.getD (((p2 &&& (2147483647 : Int32)) % (p1 &&& (65535 : Int32))) + (1 : Int32)).toNatClampNeg (0 : Int32)))] [(.int ((el_1.getD (((p2 &&& (2147483647 : Int32)) % (p1 &&& (65535 : Int32))) + (1 : Int32)).toNatClampNeg (0 : Int32)) + (1 : Int32))), (.int ((el_1.getD ((p2 &&& (2147483647 : Int32)) % (p1 &&& (65535 : Int32))).toNatClampNeg (0 : Int32)) + (1 : Int32)))])) rfl (by rw [hml]; rfl) (argsL := [(.int ((el_1.getD ((p2 &&& (2147483647 : Int32)) % (p1 &&& (65535 : Int32))).toNatClampNeg (0 : Int32)) + (1 : Int32))), (.int ((el_1.getD (((p2 &&& (2147483647 : Int32)) % (p1 &&& (65535 : Int32))) + (1 : Int32)).toNatClampNeg (0 : Int32)) + (1 : Int32)))]) (rest := []) (lenOf pd_3 rfl) rfl (by show 2 * 0 + _ ≤ _; exact Nat.le_of_eq rfl) (hb hby at_90) (fun _ _ => ⟨rfl, rfl, (Nat.le_trans (Nat.add_le_add_right (Nat.add_le_add_right (Nat.le_refl 0) 1) 0) (by decide)), (Nat.le_trans (Nat.add_le_add_right (Nat.add_le_add_right (Nat.le_refl 0) 65535) 0) (by decide))⟩)
      dsimp only [Pt.U, Pt.locs, Pt.cells, Pt.slots] at X12 l12 y12 z12 st12 hQ12
      subst l12 y12 z12
      obtain ⟨rfl, N12q, e12⟩ := hQ12
      have N12 := Fr.app N1 N12q
      refine Go.step (T' := T12) (f' := (mkF m 93 #[.val (.int p1), .val (.int p2), .val (.int (p1 &&& (65535 : Int32))), .val (.ref b_1), .val (.int ((p2 &&& (2147483647 : Int32)) % (p1 &&& (65535 : Int32)))), .val (.int (el_1.getD ((p2 &&& (2147483647 : Int32)) % (p1 &&& (65535 : Int32))).toNatClampNeg (0 : Int32))), .val (.int (el_1.getD (((p2 &&& (2147483647 : Int32)) % (p1 &&& (65535 : Int32))) + (1 : Int32)).toNatClampNeg (0 : Int32)))] [(.int (lexF ((el_1.getD ((p2 &&& (2147483647 : Int32)) % (p1 &&& (65535 : Int32))).toNatClampNeg (0 : Int32)) + (1 : Int32)) ((el_1.getD (((p2 &&& (2147483647 : Int32)) % (p1 &&& (65535 : Int32))) + (1 : Int32)).toNatClampNeg (0 : Int32)) + (1 : Int32))))])) (fun t kt => ?_) ?_
      · show Steps p.tables e below (T1.setTop (mkF m 77 #[.val (.int p1), .val (.int p2), .val (.int (p1 &&& (65535 : Int32))), .val (.ref b_1), .val (.int ((p2 &&& (2147483647 : Int32)) % (p1 &&& (65535 : Int32)))), .val (.int (el_1.getD ((p2 &&& (2147483647 : Int32)) % (p1 &&& (65535 : Int32))).toNatClampNeg (0 : Int32))), .val (.int (el_1.getD (((p2 &&& (2147483647 : Int32)) % (p1 &&& (65535 : Int32))) + (1 : Int32)).toNatClampNeg (0 : Int32)))] [(.int (p1 &&& (65535 : Int32))), (.int (el_1.getD (((p2 &&& (2147483647 : Int32)) % (p1 &&& (65535 : Int32))) + (1 : Int32)).toNatClampNeg (0 : Int32)))])) _
        refine XS.icmpYes X1.here hx rfl (pc0 := 77) (pc' := 82) rfl (hb hby at_77) rfl (tlt hd11).1 (by decide) (by decide) ?_
        show Steps p.tables e below (T1.setTop (mkF m 82 #[.val (.int p1), .val (.int p2), .val (.int (p1 &&& (65535 : Int32))), .val (.ref b_1), .val (.int ((p2 &&& (2147483647 : Int32)) % (p1 &&& (65535 : Int32)))), .val (.int (el_1.getD ((p2 &&& (2147483647 : Int32)) % (p1 &&& (65535 : Int32))).toNatClampNeg (0 : Int32))), .val (.int (el_1.getD (((p2 &&& (2147483647 : Int32)) % (p1 &&& (65535 : Int32))) + (1 : Int32)).toNatClampNeg (0 : Int32)))] [])) _
        refine XS.iload X1.here hx rfl (hb hby at_82) rfl ?_
        show Steps p.tables e below (T1.setTop (mkF m 84 #[.val (.int p1), .val (.int p2), .val (.int (p1 &&& (65535 : Int32))), .val (.ref b_1), .val (.int ((p2 &&& (2147483647 : Int32)) % (p1 &&& (65535 : Int32)))), .val (.int (el_1.getD ((p2 &&& (2147483647 : Int32)) % (p1 &&& (65535 : Int32))).toNatClampNeg (0 : Int32))), .val (.int (el_1.getD (((p2 &&& (2147483647 : Int32)) % (p1 &&& (65535 : Int32))) + (1 : Int32)).toNatClampNeg (0 : Int32)))] [(.int (el_1.getD ((p2 &&& (2147483647 : Int32)) % (p1 &&& (65535 : Int32))).toNatClampNeg (0 : Int32)))])) _
        refine XS.iconst X1.here hx rfl (hb hby at_84) ?_
        show Steps p.tables e below (T1.setTop (mkF m 85 #[.val (.int p1), .val (.int p2), .val (.int (p1 &&& (65535 : Int32))), .val (.ref b_1), .val (.int ((p2 &&& (2147483647 : Int32)) % (p1 &&& (65535 : Int32)))), .val (.int (el_1.getD ((p2 &&& (2147483647 : Int32)) % (p1 &&& (65535 : Int32))).toNatClampNeg (0 : Int32))), .val (.int (el_1.getD (((p2 &&& (2147483647 : Int32)) % (p1 &&& (65535 : Int32))) + (1 : Int32)).toNatClampNeg (0 : Int32)))] [(.int (1 : Int32)), (.int (el_1.getD ((p2 &&& (2147483647 : Int32)) % (p1 &&& (65535 : Int32))).toNatClampNeg (0 : Int32)))])) _
        refine XS.iadd X1.here hx rfl (hb hby at_85) rfl ?_
        show Steps p.tables e below (T1.setTop (mkF m 86 #[.val (.int p1), .val (.int p2), .val (.int (p1 &&& (65535 : Int32))), .val (.ref b_1), .val (.int ((p2 &&& (2147483647 : Int32)) % (p1 &&& (65535 : Int32)))), .val (.int (el_1.getD ((p2 &&& (2147483647 : Int32)) % (p1 &&& (65535 : Int32))).toNatClampNeg (0 : Int32))), .val (.int (el_1.getD (((p2 &&& (2147483647 : Int32)) % (p1 &&& (65535 : Int32))) + (1 : Int32)).toNatClampNeg (0 : Int32)))] [(.int ((el_1.getD ((p2 &&& (2147483647 : Int32)) % (p1 &&& (65535 : Int32))).toNatClampNeg (0 : Int32)) + (1 : Int32)))])) _
        refine XS.iload X1.here hx rfl (hb hby at_86) rfl ?_
        show Steps p.tables e below (T1.setTop (mkF m 88 #[.val (.int p1), .val (.int p2), .val (.int (p1 &&& (65535 : Int32))), .val (.ref b_1), .val (.int ((p2 &&& (2147483647 : Int32)) % (p1 &&& (65535 : Int32)))), .val (.int (el_1.getD ((p2 &&& (2147483647 : Int32)) % (p1 &&& (65535 : Int32))).toNatClampNeg (0 : Int32))), .val (.int (el_1.getD (((p2 &&& (2147483647 : Int32)) % (p1 &&& (65535 : Int32))) + (1 : Int32)).toNatClampNeg (0 : Int32)))] [(.int (el_1.getD (((p2 &&& (2147483647 : Int32)) % (p1 &&& (65535 : Int32))) + (1 : Int32)).toNatClampNeg (0 : Int32))), (.int ((el_1.getD ((p2 &&& (2147483647 : Int32)) % (p1 &&& (65535 : Int32))).toNatClampNeg (0 : Int32)) + (1 : Int32)))])) _
        refine XS.iconst X1.here hx rfl (hb hby at_88) ?_
        show Steps p.tables e below (T1.setTop (mkF m 89 #[.val (.int p1), .val (.int p2), .val (.int (p1 &&& (65535 : Int32))), .val (.ref b_1), .val (.int ((p2 &&& (2147483647 : Int32)) % (p1 &&& (65535 : Int32)))), .val (.int (el_1.getD ((p2 &&& (2147483647 : Int32)) % (p1 &&& (65535 : Int32))).toNatClampNeg (0 : Int32))), .val (.int (el_1.getD (((p2 &&& (2147483647 : Int32)) % (p1 &&& (65535 : Int32))) + (1 : Int32)).toNatClampNeg (0 : Int32)))] [(.int (1 : Int32)), (.int (el_1.getD (((p2 &&& (2147483647 : Int32)) % (p1 &&& (65535 : Int32))) + (1 : Int32)).toNatClampNeg (0 : Int32))), (.int ((el_1.getD ((p2 &&& (2147483647 : Int32)) % (p1 &&& (65535 : Int32))).toNatClampNeg (0 : Int32)) + (1 : Int32)))])) _
        refine XS.iadd X1.here hx rfl (hb hby at_89) rfl ?_
        show Steps p.tables e below (T1.setTop (mkF m 90 #[.val (.int p1), .val (.int p2), .val (.int (p1 &&& (65535 : Int32))), .val (.ref b_1), .val (.int ((p2 &&& (2147483647 : Int32)) % (p1 &&& (65535 : Int32)))), .val (.int (el_1.getD ((p2 &&& (2147483647 : Int32)) % (p1 &&& (65535 : Int32))).toNatClampNeg (0 : Int32))), .val (.int (el_1.getD (((p2 &&& (2147483647 : Int32)) % (p1 &&& (65535 : Int32))) + (1 : Int32)).toNatClampNeg (0 : Int32)))] [(.int ((el_1.getD (((p2 &&& (2147483647 : Int32)) % (p1 &&& (65535 : Int32))) + (1 : Int32)).toNatClampNeg (0 : Int32)) + (1 : Int32))), (.int ((el_1.getD ((p2 &&& (2147483647 : Int32)) % (p1 &&& (65535 : Int32))).toNatClampNeg (0 : Int32)) + (1 : Int32)))])) _
        refine st12 _ ?_
        exact kt
      refine Go.fin X12 (v := some (.int (nar .boolean (lexF ((el_1.getD ((p2 &&& (2147483647 : Int32)) % (p1 &&& (65535 : Int32))).toNatClampNeg (0 : Int32)) + (1 : Int32)) ((el_1.getD (((p2 &&& (2147483647 : Int32)) % (p1 &&& (65535 : Int32))) + (1 : Int32)).toNatClampNeg (0 : Int32)) + (1 : Int32)))))) (fun h => by rw [Bd.returns] at h; cases h) Bd.notSynchronized ?_ (Nat.le_trans (Nat.add_le_add_right (Nat.add_le_add_right (Nat.le_refl 0) 1) 0) (by decide)) (Nat.le_trans (Nat.add_le_add_right (Nat.add_le_add_right (Nat.le_refl 0) 65535) 0) (by decide)) (fun fs hr => retN X12 hx (t := .boolean) Bd.returns (by simp) (hb hby at_93) hr)
      · show Q0 Z p1 p2 h0 n0 _ T12.heap _
        exact ⟨by rw [own_y5 hW (own_n p1) (own_y2 hW (own_n p1) (by assumption) p2) (by assumption)]; rfl, N12⟩
set_option maxRecDepth 65536 in
set_option maxHeartbeats 40000000 in
theorem comes_1 {Post : Tables → Env → Array Value → State → Outcome → State → Prop} (hpost : ∀ tb e args s v u, (limb_1_1.after args s (.returned v) u = true ∧ limb_1_2.after args s (.returned v) u = true ∧ True) → FrameEnd s (.returned v) u (Jvm.fieldLocs frame_1_writes args s ++ Jvm.arrayLocs frame_1_arrays args s ++ Jvm.staticLocs frame_1_statics s) 16 131136 → Post tb e args s (.returned v) u) :
    ArmFor flags0 classFile x code maxLocals ret World_1 tables_1 room_1 Calls_1 rest_1 Pre_1 Post := by
  intro l hfl _ _ p e ha hc hk s m args below hf hA hF happ hP
  obtain ⟨hcalls, hrest, hpre⟩ := hP
  obtain ⟨-, -, -, hnamed, -, -, -, hat⟩ := (Spec.applies_iff hf).mp happ
  obtain ⟨hg, hn⟩ := and_e (Cond.before_iff.mp (show (Jvm.Cond.and given_1 narrow_1).before args s = true from hpre))
  obtain ⟨g1, g2⟩ := and_e hg
  obtain ⟨g3, g4⟩ := and_e g2
  obtain ⟨w0, w1, rfl⟩ : ∃ w0 w1 : Value, args = #[w0, w1] := by
    have hs : args.size = 2 := by simpa [Cond.value, given_1] using g1
    obtain ⟨L⟩ := args
    match L, hs with
    | [w0, w1], _ => exact ⟨w0, w1, rfl⟩
  have hw := fun d (hd : d ∈ tables_1) => atoms_spec (ws := Jvm.Cond.code x code maxLocals ret :: tables_1) hat d (List.mem_cons_of_mem _ hd)
  obtain ⟨i0, ei0⟩ := is_v g3
  obtain rfl : w0 = (.int i0) := Option.some.inj ei0
  obtain ⟨i1, ei1⟩ := is_v g4
  obtain rfl : w1 = (.int i1) := Option.some.inj ei1
  obtain ⟨n, o, h1, h2, h3, _, L, rfl, ⟨hv, N⟩, hq⟩ := rm_0 l s _ hw tables_1 i0 i1  s.heap s.heap.size (Nat.le_refl _)  p e ha hc hk s m _ below hf ((Spec.applies_iff_loose hf).mp happ).1 ⟨rfl, State.Warmed39.refl s, rfl⟩ trivial
  subst hv
  refine ⟨n, _, h1, h2, h3, hpost _ _ _ _ _ _ ⟨Cond.after_iff.mpr rfl, Cond.after_iff.mpr (eq_i res_at (Term.int_eval (1)) rfl), trivial⟩ ⟨hq.1, hq.2.1, (hq.2.2.sift fun y hy => Or.inr (N y hy)).mono (by decide) (by decide)⟩⟩
theorem main_1_1 : Claimed_1_1 := comes_1 fun _ _ _ _ _ _ h hF => ⟨h.1, hF⟩
theorem main_1_2 : Claimed_1_2 := comes_1 fun _ _ _ _ _ _ h hF => ⟨h.2.1, hF⟩
end Jvm.Pilot.@@N@@
namespace Jvm.Pilot.@@N@@
open Jvm Jvm.ClassFile Sem Op Lib Jvm.Free Jvm.Stand Jvm.Pilot.@@N@@.Jvm.D
/-! MADE BY PROGRAM (witnessworld.py) out of the Statement's table words and the real class files: 9 classes; the members and pool entries that the words name. The judged class is class 1, her method 1. -/
namespace start1
open Jvm.ClassFile
def u (s : String) : CpInfo := .utf8 (stringToUtf16 s)
/-- a pool by its gaps: so many unusable entries, then the entry; so many at the end -/
def gap : Nat → List CpInfo → List CpInfo
  | 0, r => r
  | n + 1, r => .unusable :: gap n r
def poolList (es : List (Nat × CpInfo)) (last : Nat) : List CpInfo := es.foldr (fun e r => gap e.1 (e.2 :: r)) (gap last [])
def pool (es : List (Nat × CpInfo)) (last : Nat) : Array CpInfo := ⟨poolList es last⟩
def fileOf (pool : Array CpInfo) (this : Nat) (attrs : Array Attribute := #[]) (ms : Array MethodInfo := #[]) (fl : Nat := 33) (sup : Nat := 0) (ifs : Array Nat := #[]) (fds : Array FieldInfo := #[]) : ClassFile where
  minorVersion := 0
  majorVersion := 65
  constantPool := pool
  accessFlags := fl
  thisClass := this
  superClass := sup
  interfaces := ifs
  fields := fds
  methods := ms
  attributes := attrs
def plain (name : String) (sup : Option ClassId) : Class where
  name := name
  kind := .ordinary
  loader := none
  accessFlags := 33
  super := sup
  interfaces := #[]
  cf := none
  fields := #[]
  methods := #[]
  instanceTypes := #[]
  staticTypes := #[]
  resolved := #[]
  callSites := []
  init := .initialized
  statics := none
  mirror := none

def pool0 : Array CpInfo := pool [(5, u "<init>"), (0, u "()V"), (1, .class_ 10), (1, u "java/lang/Object")] 113

def k0m0 : Method := { name := "<init>", desc := "()V", sig := { parameters := [], returnType := none }, accessFlags := 1, code := none }
/-- java/lang/Object -/
def k0 : Class := { plain "java/lang/Object" none with
  accessFlags := 33
  interfaces := #[]
  cf := some (fileOf pool0 8 #[] #[{ accessFlags := 1, nameIndex := 5, descriptorIndex := 6, attributes := #[] }] 33 0 #[] #[])
  fields := #[]
  methods := #[k0m0]
  instanceTypes := #[]
  staticTypes := #[]
  resolved := Array.replicate 124 none
  statics := none }

def pool1 : Array CpInfo := pool [(2, .class_ 4), (1, u "java/lang/Object"), (0, u "<init>"), (0, u "()V"), (0, .integer 65535), (0, .methodref 9 10), (0, .class_ 11), (0, .nameAndType 12 13), (0, u "com/example/gridwake/gridwake/workload/Generator"), (0, u "inIdOrder"), (0, u "(I)[I"), (0, .integer 2147483647), (0, .methodref 16 17), (0, .class_ 18), (0, .nameAndType 19 20), (0, u "com/example/gridwake/gridwake/workload/GeneratorInIdOrderPinLaw"), (0, u "lexLess"), (0, u "(II)Z"), (0, .long 10), (1, .methodref 16 24), (0, .nameAndType 25 26), (0, u "digits"), (0, u "(I)I"), (0, .methodref 16 28), (0, .nameAndType 29 30), (0, u "padded"), (0, u "(II)J"), (2, u "law")] 5

def k1m0 : Method := { name := "<init>", desc := "()V", sig := { parameters := [], returnType := none }, accessFlags := 1, code := none }
def k1c1 : Code := { maxStack := 3, maxLocals := 7, code := code, exceptionTable := #[], attributes := #[] }
def k1m1 : Method := { name := "law", desc := "(II)Z", sig := { parameters := [.int, .int], returnType := some .boolean }, accessFlags := 9, code := some k1c1 }
def k1c2 : Code := { maxStack := 2, maxLocals := 1, code := method_3_code, exceptionTable := #[], attributes := #[] }
def k1m2 : Method := { name := "digits", desc := "(I)I", sig := { parameters := [.int], returnType := some .int }, accessFlags := 10, code := some k1c2 }
def k1c3 : Code := { maxStack := 4, maxLocals := 4, code := method_4_code, exceptionTable := #[], attributes := #[] }
def k1m3 : Method := { name := "padded", desc := "(II)J", sig := { parameters := [.int, .int], returnType := some .long }, accessFlags := 10, code := some k1c3 }
def k1c4 : Code := { maxStack := 4, maxLocals := 8, code := method_5_code, exceptionTable := #[], attributes := #[] }
def k1m4 : Method := { name := "lexLess", desc := "(II)Z", sig := { parameters := [.int, .int], returnType := some .boolean }, accessFlags := 10, code := some k1c4 }
/-- com/example/gridwake/gridwake/workload/GeneratorInIdOrderPinLaw -/
def k1 : Class := { plain "com/example/gridwake/gridwake/workload/GeneratorInIdOrderPinLaw" (some 0) with
  accessFlags := 49
  interfaces := #[]
  cf := some (fileOf pool1 16 #[] #[{ accessFlags := 1, nameIndex := 5, descriptorIndex := 6, attributes := #[] }, { accessFlags := 9, nameIndex := 33, descriptorIndex := 20, attributes := #[] }, { accessFlags := 10, nameIndex := 25, descriptorIndex := 26, attributes := #[] }, { accessFlags := 10, nameIndex := 29, descriptorIndex := 30, attributes := #[] }, { accessFlags := 10, nameIndex := 19, descriptorIndex := 20, attributes := #[] }] 49 2 #[] #[])
  fields := #[]
  methods := #[k1m0, k1m1, k1m2, k1m3, k1m4]
  instanceTypes := #[]
  staticTypes := #[]
  resolved := Array.replicate 39 none
  statics := none }

def pool2 : Array CpInfo := pool [(2, .class_ 4), (1, u "java/lang/Object"), (14, .class_ 21), (1, u "com/example/gridwake/gridwake/workload/Generator"), (0, u "m_plan"), (0, u "Lcom/example/gridwake/gridwake/workload/FleetPlan;"), (2, u "m_queries"), (0, u "Lcom/example/gridwake/gridwake/workload/QueryPlan;"), (10, u "m_fleet"), (0, u "Lcom/example/gridwake/gridwake/workload/Fleet;"), (2, u "m_asking"), (0, u "Ljava/util/Random;"), (26, u "m_halfBox"), (0, u "Ljava/math/BigDecimal;"), (38, u "inIdOrder"), (0, u "(I)[I"), (80, .class_ 194), (1, u "com/example/gridwake/gridwake/workload/Generator$1"), (45, .long 10), (1, .long 9)] 32

def k2c0 : Code := { maxStack := 6, maxLocals := 5, code := prog_147_method_6_code, exceptionTable := #[], attributes := #[] }
def k2m0 : Method := { name := "inIdOrder", desc := "(I)[I", sig := { parameters := [.int], returnType := some (.array .int) }, accessFlags := 8, code := some k2c0 }
/-- com/example/gridwake/gridwake/workload/Generator -/
def k2 : Class := { plain "com/example/gridwake/gridwake/workload/Generator" (some 0) with
  accessFlags := 49
  interfaces := #[]
  cf := some (fileOf pool2 19 #[.nestMembers #[192]] #[{ accessFlags := 8, nameIndex := 110, descriptorIndex := 111, attributes := #[] }] 49 2 #[] #[{ accessFlags := 18, nameIndex := 22, descriptorIndex := 23, attributes := #[] }, { accessFlags := 18, nameIndex := 26, descriptorIndex := 27, attributes := #[] }, { accessFlags := 18, nameIndex := 38, descriptorIndex := 39, attributes := #[] }, { accessFlags := 18, nameIndex := 42, descriptorIndex := 43, attributes := #[] }, { accessFlags := 18, nameIndex := 70, descriptorIndex := 71, attributes := #[] }])
  fields := #[{ name := "m_plan", type := (.object "com/example/gridwake/gridwake/workload/FleetPlan"), accessFlags := 18, slot := 0, constantValue := 0 }, { name := "m_queries", type := (.object "com/example/gridwake/gridwake/workload/QueryPlan"), accessFlags := 18, slot := 1, constantValue := 0 }, { name := "m_fleet", type := (.object "com/example/gridwake/gridwake/workload/Fleet"), accessFlags := 18, slot := 2, constantValue := 0 }, { name := "m_asking", type := (.object "java/util/Random"), accessFlags := 18, slot := 3, constantValue := 0 }, { name := "m_halfBox", type := (.object "java/math/BigDecimal"), accessFlags := 18, slot := 4, constantValue := 0 }]
  methods := #[k2m0]
  instanceTypes := #[(.object "com/example/gridwake/gridwake/workload/FleetPlan"), (.object "com/example/gridwake/gridwake/workload/QueryPlan"), (.object "com/example/gridwake/gridwake/workload/Fleet"), (.object "java/util/Random"), (.object "java/math/BigDecimal")]
  staticTypes := #[]
  resolved := Array.replicate 275 none
  statics := none }

def pool3 : Array CpInfo := pool [(1, u "java/lang/Cloneable"), (0, .class_ 1), (0, u "java/lang/Object"), (0, .class_ 3)] 3

/-- java/lang/Cloneable -/
def k3 : Class := { plain "java/lang/Cloneable" (some 0) with
  accessFlags := 1537
  interfaces := #[]
  cf := some (fileOf pool3 2 #[] #[] 1537 4 #[] #[])
  fields := #[]
  methods := #[]
  instanceTypes := #[]
  staticTypes := #[]
  resolved := Array.replicate 8 none
  statics := none }

def pool4 : Array CpInfo := pool [(1, u "java/io/Serializable"), (0, .class_ 1), (0, u "java/lang/Object"), (0, .class_ 3)] 3

/-- java/io/Serializable -/
def k4 : Class := { plain "java/io/Serializable" (some 0) with
  accessFlags := 1537
  interfaces := #[]
  cf := some (fileOf pool4 2 #[] #[] 1537 4 #[] #[])
  fields := #[]
  methods := #[]
  instanceTypes := #[]
  staticTypes := #[]
  resolved := Array.replicate 8 none
  statics := none }

/-- the primitive byte -/
def k5 : Class := { plain "byte" none with kind := .primitive 'B', accessFlags := 0x411 }
/-- [B -/
def k6 : Class := { plain "[B" (some 0) with kind := .array 5 .byte, interfaces := #[3, 4], accessFlags := 1041 }

/-- the primitive int -/
def k7 : Class := { plain "int" none with kind := .primitive 'I', accessFlags := 0x411 }
/-- [I -/
def k8 : Class := { plain "[I" (some 0) with kind := .array 7 .int, interfaces := #[3, 4], accessFlags := 1041 }

def heap : Heap := #[]
def classes : Array Class := #[k0, k1, k2, k3, k4, k5, k6, k7, k8]
def interned : List (Array UInt16 × Addr) := []
def slotsUsed : Nat := 0
def theMethod : MethodId := ⟨1, 1⟩
def args0 : Array Value := #[.int 13, .int 7]
def aboutOver (below : List Frame) : State where
  vm := { classes := classes, interned := interned.toArray }
  heap := heap
  slotsUsed := slotsUsed
  threads := #[{ frames := .invoking theMethod args0 :: below }]
def below0 : List Frame := [.native { method := ⟨0, 0⟩, args := #[] }]
def about1 : State := aboutOver below0
def p0 : Program := .bare "" "" ""
def e0 : Env := launch0.env 0 0 0
theorem w_frames : about1.frames = Frame.invoking theMethod args0 :: below0 := rfl
set_option maxRecDepth 65536 in
theorem w_args : argsFit about1.vm theMethod args0 = true := by decide +kernel
set_option maxRecDepth 65536 in
theorem w_heap : heapFits about1 = true := by decide +kernel
set_option maxRecDepth 65536 in
theorem w_runnable : about1.curStatus? = some .runnable := by decide +kernel
set_option maxRecDepth 65536 in
theorem w_alone : about1.alone = true := by decide +kernel
set_option maxRecDepth 65536 in
theorem w_named : about1.methodNamed? x = some theMethod := by decide +kernel
set_option maxRecDepth 65536 in
theorem w_hears : about1.hears theMethod below0 = true := by decide +kernel
set_option maxRecDepth 65536 in
theorem w_ripe : about1.ripe theMethod args0 below0 = true := by decide +kernel
theorem w_running : about1.status = .running := rfl
set_option maxRecDepth 65536 in
theorem w_room : about1.hasRoom e0.platform room_1 = true :=
  launch0.hasRoom_least _ room_1 (by decide +kernel) (by decide +kernel) (by decide +kernel) (by decide +kernel) (by decide +kernel) (by decide +kernel)
theorem allAtoms_all (ts : List Jvm.Cond) (a : Array Jvm.Value) (st : Jvm.State) : (allAtoms ts).before a st = ts.all (fun c => c.before a st) := by
  induction ts with
  | nil => rfl
  | cons c t ih =>
    show (Jvm.Cond.and c (allAtoms t)).before a st = _
    rw [Jvm.Cond.before_and, ih, List.all_cons]
def words1 : List Jvm.Cond := Jvm.Cond.code x code maxLocals ret :: tables_1
/-- a 'code' word, met by the world's own term for the bytes: nothing is compared byte by byte -/
theorem code_word {y : MethodName} {bytes : ByteArray} {mx : Nat} {rt : Option FieldType} {a : Array Value} {s : State} {m : MethodId} {meth : Method} {c : Code} (h1 : s.methodNamed? y = some m) (h2 : s.vm.method? m = some meth) (h3 : meth.code = some c) (h4 : c.code = bytes)
    (h5 : (c.maxLocals == mx && c.exceptionTable.isEmpty && decide (c.maxStack ≤ mostOperands) && decide (meth.sig.returnType = rt) && !meth.locks && decide (parseMethodDescriptor y.desc = some meth.sig)) = true) : (Jvm.Cond.code y bytes mx rt).before a s = true := by
  simp only [Bool.and_eq_true, beq_iff_eq, Bool.not_eq_true', decide_eq_true_eq] at h5
  obtain ⟨⟨⟨⟨⟨g1, g2⟩, g3⟩, g4⟩, g5⟩, g6⟩ := h5
  simp [Cond.before, Cond.holds, Cond.value, h1, h2, h3, h4, g1, g2, g3, g4, g5, g6]
def isCode : Jvm.Cond → Bool
  | .code _ _ _ _ => true
  | _ => false
theorem all_split {L : List Jvm.Cond} {P : Jvm.Cond → Bool} (h1 : L.all (fun c => isCode c || P c) = true) (h2 : ∀ c ∈ L.filter isCode, P c = true) : L.all P = true := by
  refine List.all_eq_true.mpr fun c hc => ?_
  have h := List.all_eq_true.mp h1 c hc
  rcases Bool.eq_false_or_eq_true (isCode c) with hi | hi
  · exact h2 c (List.mem_filter.mpr ⟨hc, hi⟩)
  · simpa [hi] using h
set_option maxRecDepth 65536 in
theorem w_c0 : (Jvm.Cond.code x code maxLocals ret).before args0 about1 = true := code_word (m := ⟨1, 1⟩) (meth := k1m1) (c := k1c1) (by decide +kernel) rfl rfl rfl (by decide +kernel)
set_option maxRecDepth 65536 in
theorem w_c1 : (Jvm.Cond.code ({ cls := "com/example/gridwake/gridwake/workload/Generator", name := "inIdOrder", desc := "(I)[I" } : Jvm.MethodName) prog_147_method_6_code (5 : Nat) (Option.some (Jvm.ClassFile.FieldType.array Jvm.ClassFile.FieldType.int))).before args0 about1 = true := code_word (m := ⟨2, 0⟩) (meth := k2m0) (c := k2c0) (by decide +kernel) rfl rfl rfl (by decide +kernel)
set_option maxRecDepth 65536 in
theorem w_c2 : (Jvm.Cond.code ({ cls := "com/example/gridwake/gridwake/workload/GeneratorInIdOrderPinLaw", name := "lexLess", desc := "(II)Z" } : Jvm.MethodName) method_5_code (8 : Nat) (Option.some Jvm.ClassFile.FieldType.boolean)).before args0 about1 = true := code_word (m := ⟨1, 4⟩) (meth := k1m4) (c := k1c4) (by decide +kernel) rfl rfl rfl (by decide +kernel)
set_option maxRecDepth 65536 in
theorem w_c3 : (Jvm.Cond.code ({ cls := "com/example/gridwake/gridwake/workload/GeneratorInIdOrderPinLaw", name := "digits", desc := "(I)I" } : Jvm.MethodName) method_3_code (1 : Nat) (Option.some Jvm.ClassFile.FieldType.int)).before args0 about1 = true := code_word (m := ⟨1, 2⟩) (meth := k1m2) (c := k1c2) (by decide +kernel) rfl rfl rfl (by decide +kernel)
set_option maxRecDepth 65536 in
theorem w_c4 : (Jvm.Cond.code ({ cls := "com/example/gridwake/gridwake/workload/GeneratorInIdOrderPinLaw", name := "padded", desc := "(II)J" } : Jvm.MethodName) method_4_code (4 : Nat) (Option.some Jvm.ClassFile.FieldType.long)).before args0 about1 = true := code_word (m := ⟨1, 3⟩) (meth := k1m3) (c := k1c3) (by decide +kernel) rfl rfl rfl (by decide +kernel)
def codes1 : List Jvm.Cond := [Jvm.Cond.code x code maxLocals ret, Jvm.Cond.code ({ cls := "com/example/gridwake/gridwake/workload/Generator", name := "inIdOrder", desc := "(I)[I" } : Jvm.MethodName) prog_147_method_6_code (5 : Nat) (Option.some (Jvm.ClassFile.FieldType.array Jvm.ClassFile.FieldType.int)), Jvm.Cond.code ({ cls := "com/example/gridwake/gridwake/workload/GeneratorInIdOrderPinLaw", name := "lexLess", desc := "(II)Z" } : Jvm.MethodName) method_5_code (8 : Nat) (Option.some Jvm.ClassFile.FieldType.boolean), Jvm.Cond.code ({ cls := "com/example/gridwake/gridwake/workload/GeneratorInIdOrderPinLaw", name := "digits", desc := "(I)I" } : Jvm.MethodName) method_3_code (1 : Nat) (Option.some Jvm.ClassFile.FieldType.int), Jvm.Cond.code ({ cls := "com/example/gridwake/gridwake/workload/GeneratorInIdOrderPinLaw", name := "padded", desc := "(II)J" } : Jvm.MethodName) method_4_code (4 : Nat) (Option.some Jvm.ClassFile.FieldType.long)]
set_option maxRecDepth 65536 in
theorem codes_eq : words1.filter isCode = codes1 := rfl
theorem w_codes : ∀ c ∈ words1.filter isCode, c.before args0 about1 = true := by
  rw [codes_eq]
  intro c hc
  simp only [codes1, List.mem_cons, List.not_mem_nil, or_false] at hc
  rcases hc with rfl | rfl | rfl | rfl | rfl
  · exact w_c0
  · exact w_c1
  · exact w_c2
  · exact w_c3
  · exact w_c4
set_option maxRecDepth 65536 in
theorem w_t1 : words1.all (fun c => isCode c || c.before args0 about1) = true := by decide +kernel
theorem w_tables : (allAtoms (Jvm.Cond.code x code maxLocals ret :: tables_1)).before args0 about1 = true := by
  rw [allAtoms_all]
  show words1.all (fun c => c.before args0 about1) = true
  refine all_split ?_ w_codes
  rw [w_t1]
set_option maxRecDepth 65536 in
theorem w_case : (Jvm.Cond.and given_1 narrow_1).before args0 about1 = true := by decide +kernel
theorem w_applies : (headSpec (Jvm.Cond.code x code maxLocals ret :: tables_1) room_1).applies x e0.platform about1 = true :=
  (Spec.applies_iff w_frames).mpr ⟨w_running, w_runnable, w_alone, w_named, w_hears, w_ripe, w_room, w_tables⟩
theorem atStart : AtStart classFile x code maxLocals ret World_1 tables_1 room_1 Calls_1 rest_1 Pre_1 launch0 p0 e0 about1 theMethod args0 below0 :=
  ⟨lists_1, trivial, launch0.admits_env _ _ _, launch0.least_env, fairChoices_fair.cas, fairChoices_fair.clock, w_frames, w_args, w_heap, w_applies, trivial, trivial, w_case⟩
end start1
theorem witness_1 : WitnessClaimed_1 := ⟨start1.p0, start1.e0, start1.about1, start1.theMethod, start1.args0, start1.below0, start1.atStart⟩
end Jvm.Pilot.@@N@@
