import JvmDerived
import JvmDerived.Pilot.@@N@@Statement
import JvmDerived.Pilot.@@N@@Code
set_option linter.unusedVariables false
set_option linter.unusedSimpArgs false
namespace Jvm.RoadKit
open Sem ClassFile Op Lib Jvm.Stand Jvm.Free Jvm.LawKit
section New
variable {p : Program} {l : Launch} {e : Env} {R : Room} {s : State} {m : MethodId} {args : Array Value} {below : List Frame} {meth : Method} {c : Code} {T : State} {locs : List Loc} {cells slots : Nat}
theorem retI (X : Stand p l e R s m args below meth c T locs cells slots) (hx : p.tables.exec = Jvm.exec) {pc : Nat} {Ls : Array Slot} {z : Int32} {rest : List Value} (hret : meth.sig.returnType = some .int) (hd : decode c.code pc = .ok (.ireturn, 1)) {fs : List Frame}
    (hl : ∀ (f : JFrame) (acts : List Action), f.method = m → f.locked = none → f.entered = [] → (doReturn e (T.setTop f) acts (some (.int z))).1 = T.setFrames fs) : Steps p.tables e below (T.setTop (mkF m pc Ls (.int z :: rest))) (T.setFrames fs) := by
  have hm' : T.vm.method? m = some meth := X.method'
  have hn : narrow .int (.int z) = .int z := rfl
  show Steps p.tables e below (T.setTop { method := m, pc := pc, locals := Ls, stack := _ :: rest, locked := none }) _
  jvm_step X.here [X.here.top, hx, hd, hm', hret, hn]
  first | (intro acts; rw [hl _ acts rfl rfl rfl]) | rw [hl _ _ rfl rfl rfl]
  exact Steps.refl _
/-- from here the walk comes to a good end -/
def Go (p : Program) (e : Env) (below : List Frame) (s : State) (Q : Option Value → Heap → List Loc → Prop) (C S : Nat) (T : State) (f : JFrame) : Prop :=
  ∃ s₂ o, Steps p.tables e below (T.setTop f) s₂ ∧ s₂.status = .running ∧ Ended s₂ below o ∧ ∃ v L, o = .returned v ∧ Q v s₂.heap L ∧ FrameEnd s o s₂ L C S
theorem Go.step {Q : Option Value → Heap → List Loc → Prop} {C S : Nat} {T' : State} {f f' : JFrame} (k : ∀ t, Steps p.tables e below (T'.setTop f') t → Steps p.tables e below (T.setTop f) t) (h : Go p e below s Q C S T' f') : Go p e below s Q C S T f := by
  obtain ⟨s₂, o, h1, h2⟩ := h
  exact ⟨s₂, o, k _ h1, h2⟩
theorem Go.cast {Q : Option Value → Heap → List Loc → Prop} {C S : Nat} {f f' : JFrame} (q : f = f') (h : Go p e below s Q C S T f') : Go p e below s Q C S T f := q ▸ h
theorem Go.fin (X : Stand p l e R s m args below meth c T locs cells slots) {Q : Option Value → Heap → List Loc → Prop} {C S : Nat} {f : JFrame} {v : Option Value} (hv : meth.sig.returnType = none → v = none) (hl : meth.locks = false) (hQ : Q v T.heap locs) (hc : cells ≤ C) (hs : slots ≤ S)
    (k : ∀ fs, (∀ (f : JFrame) (acts : List Action), f.method = m → f.locked = none → f.entered = [] → (doReturn e (T.setTop f) acts v).1 = T.setFrames fs) → Steps p.tables e below (T.setTop f) (T.setFrames fs)) : Go p e below s Q C S T f := by
  obtain ⟨fs, hr, hrun, hended, hW, hsame⟩ := X.leave (v := v) hv hl
  exact ⟨_, _, k fs hr, hrun, hended, v, locs, rfl, hQ, ⟨_, rfl⟩, hW, hsame.mono hc hs⟩
theorem own_lrem (x y : Int64) : x - (x / y) * y = x % y := lrem_mod x y
theorem own_irem (x y : Int32) : x - (x / y) * y = x % y := by
  apply Int32.toInt_inj.mp
  have h1 := Int32.le_toInt (x % y)
  have h2 := Int32.toInt_lt (x % y)
  rw [Int32.toInt_sub, Int32.toInt_mul, Int32.toInt_div, Int.bmod_mul_bmod, Int.sub_bmod_bmod, Int.mul_comm (x.toInt.tdiv y.toInt), ← Int.tmod_def, ← Int32.toInt_mod]
  exact Int.bmod_eq_of_le_mul_two (by omega) (by omega)
theorem own_fin {x : Int32} {n : Nat} (h0 : 0 ≤ x.toInt) (h1 : x.toInt < n) (h2 : n ≤ 2147483648) : ∃ k : Fin n, x = Int32.ofNat k.val := by
  refine ⟨⟨x.toInt.toNat, by omega⟩, Int32.toInt_inj.mp ?_⟩
  have q : (x.toInt.toNat).toInt32.toInt = x.toInt.toNat := len_toInt (by omega)
  show x.toInt = (x.toInt.toNat).toInt32.toInt
  rw [q]; omega
theorem own_i2c {x : Int32} (h0 : 0 ≤ x.toInt) (h1 : x.toInt < 65536) : x.toUInt32.toUInt16.toUInt32.toInt32 = x := Int32.toInt_inj.mp (by have := c_i2c x; omega)
theorem own_rem (x y : Int32) (h0 : 0 ≤ x.toInt) : (x % y).toInt = x.toInt % y.toInt := by rw [Int32.toInt_mod, (tr _ _).1 h0]
theorem own_remL (x y : Int64) (h0 : 0 ≤ x.toInt) : (x % y).toInt = x.toInt % y.toInt := by rw [Int64.toInt_mod, (tr _ _).1 h0]
theorem own_div (x y : Int32) (h0 : 0 ≤ x.toInt) (h1 : 0 < y.toInt) : (x / y).toInt = x.toInt / y.toInt := (c_idiv x y _ rfl (fun q => by rw [q] at h1; exact absurd h1 (by decide))).1 h0
theorem own_add {x y : Int32} (h0 : -2147483648 ≤ x.toInt + y.toInt) (h1 : x.toInt + y.toInt < 2147483648) : (x + y).toInt = x.toInt + y.toInt := by have := c_iadd x y; have := rng32 (x + y); omega
theorem own_sub {x y : Int32} (h0 : -2147483648 ≤ x.toInt - y.toInt) (h1 : x.toInt - y.toInt < 2147483648) : (x - y).toInt = x.toInt - y.toInt := by have := c_isub x y; have := rng32 (x - y); omega
theorem own_mul {x y : Int32} (h0 : -2147483648 ≤ x.toInt * y.toInt) (h1 : x.toInt * y.toInt < 2147483648) : (x * y).toInt = x.toInt * y.toInt := by have := c_imul x y; have := rng32 (x * y); omega
theorem own_nat {j : Int32} (h0 : 0 ≤ j.toInt) : (j.toNatClampNeg : Int) = j.toInt := by simp only [Int32.toNatClampNeg]; omega
section Heaps
variable {Z : State} {h h' : Heap} {a b : Addr} {ty : FieldType} {vs : List Value} {sl : Nat} {v : Value} {ws : List Addr}
/-- an array and all that lies in it -/
def VA (Z : State) (h : Heap) (a : Addr) (ty : FieldType) (vs : List Value) : Prop := ∃ c : Cell, Arr Z h a c ty ∧ c.slots.toList = vs ∧ vs.length < 2 ^ 31
theorem VA.lt (F : VA Z h a ty vs) : a < h.size := by obtain ⟨c, A, -⟩ := F; exact A.lt
theorem VA.len (F : VA Z h a ty vs) : vs.length < 2 ^ 31 := by obtain ⟨c, A, -, r⟩ := F; exact r
theorem VA.ext (F : VA Z h a ty vs) (E : Ext h h') : VA Z h' a ty vs := by obtain ⟨c, A, r⟩ := F; exact ⟨c, A.ext E, r⟩
theorem VA.other (F : VA Z h b ty vs) (W : Wr h h' a sl v) (q : b ≠ a) : VA Z h' b ty vs := by obtain ⟨c, A, r⟩ := F; exact ⟨c, A.other W q, r⟩
theorem VA.keep (F : VA Z h a ty vs) (K : Keep h h' ws) (q : a ∉ ws) : VA Z h' a ty vs := by obtain ⟨c, A, r⟩ := F; exact ⟨c, ⟨K.2.1 a c A.1 q, A.2⟩, r⟩
theorem VA.new {k : ClassId} {n : Int32} (A : Arr Z h a (newA k ty n) ty) (q : ¬ n < 0) : VA Z h a ty (List.replicate n.toNatClampNeg (defaultValue ty)) :=
  ⟨_, A, by simp [newA], by rw [List.length_replicate]; exact (back32 q).2⟩
theorem VA.inb (F : VA Z h a ty vs) {j : Int32} (h0 : 0 ≤ j.toInt) (h1 : j.toInt < vs.length) : ∃ c : Cell, Arr Z h a c ty ∧ ¬ (j < 0 ∨ c.slots.size ≤ j.toNatClampNeg) ∧ c.slots[j.toNatClampNeg]? = vs[j.toNatClampNeg]? ∧ ∀ h' v, Wr h h' a j.toNatClampNeg v → VA Z h' a ty (vs.set j.toNatClampNeg v) := by
  obtain ⟨c, A, rfl, r⟩ := F
  have hj := own_nat h0
  rw [Array.length_toList] at h1
  refine ⟨c, A, ?_, (Array.getElem?_toList ..).symm, fun h' v W => ⟨_, A.same W, ?_, ?_⟩⟩
  · rw [Int32.lt_iff_toInt_lt]
    have k0 : (0 : Int32).toInt = 0 := rfl
    omega
  · simp [Cell.setSlot]
  · rw [List.length_set]; exact r
theorem VA.ne_exa {C : String} {a0 : Array Value} {k : Nat} (F : VA Z h b ty vs) (G : Exa Z h a C) (wi : (Cond.instantiable C k).before a0 Z = true) : a ≠ b := by obtain ⟨c, A, -⟩ := F; exact ne_arr G wi A
end Heaps
theorem own_cat1 {v : Value} (h : v.isRef = true) : v.category = 1 := by cases v <;> simp_all [Value.isRef, Value.category]
theorem own_psel {y : MethodName} {n : Nat} (wi : (Cond.instantiable y.cls n).before args s = true) (hpriv : s.PrivateAt y) (hinst : (Cond.instanceMethod y).before args s = true) (hy : y.cls ≠ "java/lang/invoke/MethodHandle" ∧ y.cls ≠ "java/lang/invoke/VarHandle") : (Cond.selects y.cls y y).before args s = true := by
  obtain ⟨c, k, h1, h2, -, h4, -, -⟩ := Cond.instantiable_spec wi
  exact selects_self_of_private h1 h2 (by cases q : k.isInterface; rfl; rw [q] at h4; simp at h4) hpriv hinst hy
section Steps2
variable {Z : State} {h : Heap} {a : Addr} {a0 : Array Value}
theorem ldI (X : Stand p l e R s m args below meth c T locs cells slots) (hx : p.tables.exec = Jvm.exec) (hZ : Z.Warmed39 s.vm) (eT : T.heap = h) {vs : List Int32} (F : VA Z h a .int (vs.map Value.int)) {j : Int32} (h0 : 0 ≤ j.toInt) (h1 : j.toInt < vs.length)
    {g : JFrame} (hg : g.method = m) {rest : List Value} (hs : g.stack = .int j :: .ref a :: rest) (hd : decode c.code g.pc = .ok (.iaload, 1)) (target : State)
    (k : Steps p.tables e below (T.setTop { g with pc := g.pc + 1, stack := .int (vs.getD j.toNatClampNeg 0) :: rest }) target) : Steps p.tables e below (T.setTop g) target := by
  obtain ⟨cl, A, q1, q2, -⟩ := F.inb h0 (by rw [List.length_map]; exact h1)
  have hj := own_nat h0
  refine X.iaload hx (j := j) (v := .int (vs.getD j.toNatClampNeg 0)) (by rw [eT]; exact A.1) (State.isArrayOf_alike hZ.alike A.2.1) A.2.2 q1 ?_ hg hs hd target k
  rw [q2, List.getElem?_map, List.getD_eq_getElem?_getD, List.getElem?_eq_getElem (by omega)]; rfl
theorem ldJ (X : Stand p l e R s m args below meth c T locs cells slots) (hx : p.tables.exec = Jvm.exec) (hZ : Z.Warmed39 s.vm) (eT : T.heap = h) {vs : List Int64} (F : VA Z h a .long (vs.map Value.long)) {j : Int32} (h0 : 0 ≤ j.toInt) (h1 : j.toInt < vs.length)
    {g : JFrame} (hg : g.method = m) {rest : List Value} (hs : g.stack = .int j :: .ref a :: rest) (hd : decode c.code g.pc = .ok (.laload, 1)) (target : State)
    (k : Steps p.tables e below (T.setTop { g with pc := g.pc + 1, stack := .long (vs.getD j.toNatClampNeg 0) :: rest }) target) : Steps p.tables e below (T.setTop g) target := by
  obtain ⟨cl, A, q1, q2, -⟩ := F.inb h0 (by rw [List.length_map]; exact h1)
  have hj := own_nat h0
  refine X.laload hx (j := j) (v := .long (vs.getD j.toNatClampNeg 0)) (by rw [eT]; exact A.1) (State.isArrayOf_alike hZ.alike A.2.1) A.2.2 q1 ?_ hg hs hd target k
  rw [q2, List.getElem?_map, List.getD_eq_getElem?_getD, List.getElem?_eq_getElem (by omega)]; rfl
theorem ldB (X : Stand p l e R s m args below meth c T locs cells slots) (hx : p.tables.exec = Jvm.exec) (hZ : Z.Warmed39 s.vm) (eT : T.heap = h) {vs : List Int32} (F : VA Z h a .byte (vs.map Value.int)) {j : Int32} (h0 : 0 ≤ j.toInt) (h1 : j.toInt < vs.length)
    {g : JFrame} (hg : g.method = m) {rest : List Value} (hs : g.stack = .int j :: .ref a :: rest) (hd : decode c.code g.pc = .ok (.baload, 1)) (target : State)
    (k : Steps p.tables e below (T.setTop { g with pc := g.pc + 1, stack := .int (vs.getD j.toNatClampNeg 0) :: rest }) target) : Steps p.tables e below (T.setTop g) target := by
  obtain ⟨cl, A, q1, q2, -⟩ := F.inb h0 (by rw [List.length_map]; exact h1)
  have hj := own_nat h0
  refine X.baloadBytes hx (j := j) (v := .int (vs.getD j.toNatClampNeg 0)) (by rw [eT]; exact A.1) (State.isArrayOf_alike hZ.alike A.2.1) A.2.2 q1 ?_ hg hs hd target k
  rw [q2, List.getElem?_map, List.getD_eq_getElem?_getD, List.getElem?_eq_getElem (by omega)]; rfl
theorem ldR (X : Stand p l e R s m args below meth c T locs cells slots) (hx : p.tables.exec = Jvm.exec) (hZ : Z.Warmed39 s.vm) (eT : T.heap = h) {ty : FieldType} {vs : List Addr} (F : VA Z h a ty (vs.map Value.ref)) (hty : ty.isReference = true) {j : Int32} (h0 : 0 ≤ j.toInt) (h1 : j.toInt < vs.length)
    {g : JFrame} (hg : g.method = m) {rest : List Value} (hs : g.stack = .int j :: .ref a :: rest) (hd : decode c.code g.pc = .ok (.aaload, 1)) (target : State)
    (k : Steps p.tables e below (T.setTop { g with pc := g.pc + 1, stack := .ref (vs.getD j.toNatClampNeg 0) :: rest }) target) : Steps p.tables e below (T.setTop g) target := by
  obtain ⟨cl, A, q1, q2, -⟩ := F.inb h0 (by rw [List.length_map]; exact h1)
  have hj := own_nat h0
  refine X.aaload hx (j := j) (v := .ref (vs.getD j.toNatClampNeg 0)) (by rw [eT]; exact A.1) (State.isArrayOf_alike hZ.alike A.2.1) hty A.2.2 q1 ?_ hg hs hd target k
  rw [q2, List.getElem?_map, List.getD_eq_getElem?_getD, List.getElem?_eq_getElem (by omega)]; rfl
theorem lenA (X : Stand p l e R s m args below meth c T locs cells slots) (hx : p.tables.exec = Jvm.exec) (hZ : Z.Warmed39 s.vm) (eT : T.heap = h) {ty : FieldType} {vs : List Value} (F : VA Z h a ty vs) {n : Int32} (hn : (vs.length : Int) = n.toInt)
    {g : JFrame} (hg : g.method = m) {rest : List Value} (hs : g.stack = .ref a :: rest) (hd : decode c.code g.pc = .ok (.arraylength, 1)) (target : State)
    (k : Steps p.tables e below (T.setTop { g with pc := g.pc + 1, stack := .int n :: rest }) target) : Steps p.tables e below (T.setTop g) target := by
  obtain ⟨cl, A, rfl, r⟩ := F
  refine X.arraylength hx (by rw [eT]; exact A.1) (State.isArrayOf_alike hZ.alike A.2.1) hg hs hd target ?_
  have e : cl.slots.size.toInt32 = n := Int32.toInt_inj.mp (by rw [len_toInt (by rw [← Array.length_toList]; exact r), ← hn, Array.length_toList])
  rw [e]; exact k
theorem putI (X : Stand p l e R s m args below meth c T locs cells slots) (hx : p.tables.exec = Jvm.exec) (hZ : Z.Warmed39 s.vm) (eT : T.heap = h) {vs : List Int32} (F : VA Z h a .int (vs.map Value.int)) {j x : Int32} (h0 : 0 ≤ j.toInt) (h1 : j.toInt < vs.length)
    {g : JFrame} (hg : g.method = m) {rest : List Value} (hs : g.stack = .int x :: .int j :: .ref a :: rest) (hd : decode c.code g.pc = .ok (.iastore, 1)) :
    ∃ T' h', Stand p l e R s m args below meth c T' (locs ++ [⟨a, j.toNatClampNeg⟩]) cells slots ∧ T'.heap = h' ∧ Wr h h' a j.toNatClampNeg (.int x) ∧ VA Z h' a .int ((vs.set j.toNatClampNeg x).map Value.int) ∧ ∀ target, Steps p.tables e below (T'.setTop { g with pc := g.pc + 1, stack := rest }) target → Steps p.tables e below (T.setTop g) target := by
  obtain ⟨cl, A, q1, q2, q3⟩ := F.inb h0 (by rw [List.length_map]; exact h1)
  obtain ⟨T', h', X', e', W, st⟩ := stI X hx hZ eT A q1 hg hs hd
  exact ⟨T', h', X', e', W, by rw [List.map_set]; exact q3 _ _ W, st⟩
theorem putJ (X : Stand p l e R s m args below meth c T locs cells slots) (hx : p.tables.exec = Jvm.exec) (hZ : Z.Warmed39 s.vm) (eT : T.heap = h) {vs : List Int64} (F : VA Z h a .long (vs.map Value.long)) {j : Int32} {x : Int64} (h0 : 0 ≤ j.toInt) (h1 : j.toInt < vs.length)
    {g : JFrame} (hg : g.method = m) {rest : List Value} (hs : g.stack = .long x :: .int j :: .ref a :: rest) (hd : decode c.code g.pc = .ok (.lastore, 1)) :
    ∃ T' h', Stand p l e R s m args below meth c T' (locs ++ [⟨a, j.toNatClampNeg⟩]) cells slots ∧ T'.heap = h' ∧ Wr h h' a j.toNatClampNeg (.long x) ∧ VA Z h' a .long ((vs.set j.toNatClampNeg x).map Value.long) ∧ ∀ target, Steps p.tables e below (T'.setTop { g with pc := g.pc + 1, stack := rest }) target → Steps p.tables e below (T.setTop g) target := by
  obtain ⟨cl, A, q1, q2, q3⟩ := F.inb h0 (by rw [List.length_map]; exact h1)
  obtain ⟨T', h', X', e', W, st⟩ := stJ X hx hZ eT A q1 hg hs hd
  exact ⟨T', h', X', e', W, by rw [List.map_set]; exact q3 _ _ W, st⟩
theorem putB (X : Stand p l e R s m args below meth c T locs cells slots) (hx : p.tables.exec = Jvm.exec) (hZ : Z.Warmed39 s.vm) (eT : T.heap = h) {vs : List Int32} (F : VA Z h a .byte (vs.map Value.int)) {j x : Int32} (h0 : 0 ≤ j.toInt) (h1 : j.toInt < vs.length)
    {g : JFrame} (hg : g.method = m) {rest : List Value} (hs : g.stack = .int x :: .int j :: .ref a :: rest) (hd : decode c.code g.pc = .ok (.bastore, 1)) :
    ∃ T' h', Stand p l e R s m args below meth c T' (locs ++ [⟨a, j.toNatClampNeg⟩]) cells slots ∧ T'.heap = h' ∧ Wr h h' a j.toNatClampNeg (.int (nar .byte x)) ∧ VA Z h' a .byte ((vs.set j.toNatClampNeg (nar .byte x)).map Value.int) ∧ ∀ target, Steps p.tables e below (T'.setTop { g with pc := g.pc + 1, stack := rest }) target → Steps p.tables e below (T.setTop g) target := by
  obtain ⟨cl, A, q1, q2, q3⟩ := F.inb h0 (by rw [List.length_map]; exact h1)
  obtain ⟨T', h', X', e', W, st⟩ := stB X hx hZ eT A q1 hg hs hd
  exact ⟨T', h', X', e', W, by rw [List.map_set]; exact q3 _ _ W, st⟩
theorem newI (X : Stand p l e R s m args below meth c T locs cells slots) (hx : p.tables.exec = Jvm.exec) (hZ : Z.Warmed39 s.vm) (w : (Cond.arrayClass .int).before a0 Z = true) (eT : T.heap = h) {g : JFrame} (hg : g.method = m) (hd : decode c.code g.pc = .ok (.newarray .int, 2)) {n : Int32} {rest : List Value} (hs : g.stack = .int n :: rest)
    (hn : 0 ≤ n.toInt) {cap : Nat} (hcap : n.toInt ≤ cap) (hb : cap * 8 ≤ 536870912) (hc : cells + 1 ≤ R.cells) (hl : slots + cap ≤ R.slots) :
    ∃ T' h', Stand p l e R s m args below meth c T' locs (cells + 1) (slots + cap) ∧ T'.heap = h' ∧ Ext h h' ∧ VA Z h' h.size .int ((List.replicate n.toInt.toNat (0 : Int32)).map Value.int) ∧
      ∀ target, Steps p.tables e below (T'.setTop { g with pc := g.pc + 2, stack := .ref h.size :: rest }) target → Steps p.tables e below (T.setTop g) target := by
  have q : ¬ n < 0 := by rw [Int32.lt_iff_toInt_lt]; have k0 : (0 : Int32).toInt = 0 := rfl; omega
  have en : n.toNatClampNeg = n.toInt.toNat := rfl
  obtain ⟨T', h', cA, X', e', E, A, st⟩ := newP X hx hZ (aty := .int) w eT hg hd hs q (cap := cap) (by rw [en]; omega) hb hc hl
  have V1 : VA Z h' h.size .int (List.replicate n.toNatClampNeg (Value.int (0 : Int32))) := VA.new A q
  rw [en] at V1
  refine ⟨T', h', X', e', E, ?_, st⟩
  rw [List.map_replicate]
  exact V1
theorem newJ (X : Stand p l e R s m args below meth c T locs cells slots) (hx : p.tables.exec = Jvm.exec) (hZ : Z.Warmed39 s.vm) (w : (Cond.arrayClass .long).before a0 Z = true) (eT : T.heap = h) {g : JFrame} (hg : g.method = m) (hd : decode c.code g.pc = .ok (.newarray .long, 2)) {n : Int32} {rest : List Value} (hs : g.stack = .int n :: rest)
    (hn : 0 ≤ n.toInt) {cap : Nat} (hcap : n.toInt ≤ cap) (hb : cap * 8 ≤ 536870912) (hc : cells + 1 ≤ R.cells) (hl : slots + cap ≤ R.slots) :
    ∃ T' h', Stand p l e R s m args below meth c T' locs (cells + 1) (slots + cap) ∧ T'.heap = h' ∧ Ext h h' ∧ VA Z h' h.size .long ((List.replicate n.toInt.toNat (0 : Int64)).map Value.long) ∧
      ∀ target, Steps p.tables e below (T'.setTop { g with pc := g.pc + 2, stack := .ref h.size :: rest }) target → Steps p.tables e below (T.setTop g) target := by
  have q : ¬ n < 0 := by rw [Int32.lt_iff_toInt_lt]; have k0 : (0 : Int32).toInt = 0 := rfl; omega
  have en : n.toNatClampNeg = n.toInt.toNat := rfl
  obtain ⟨T', h', cA, X', e', E, A, st⟩ := newP X hx hZ (aty := .long) w eT hg hd hs q (cap := cap) (by rw [en]; omega) hb hc hl
  have V1 : VA Z h' h.size .long (List.replicate n.toNatClampNeg (Value.long (0 : Int64))) := VA.new A q
  rw [en] at V1
  refine ⟨T', h', X', e', E, ?_, st⟩
  rw [List.map_replicate]
  exact V1
theorem newB (X : Stand p l e R s m args below meth c T locs cells slots) (hx : p.tables.exec = Jvm.exec) (hZ : Z.Warmed39 s.vm) (w : (Cond.arrayClass .byte).before a0 Z = true) (eT : T.heap = h) {g : JFrame} (hg : g.method = m) (hd : decode c.code g.pc = .ok (.newarray .byte, 2)) {n : Int32} {rest : List Value} (hs : g.stack = .int n :: rest)
    (hn : 0 ≤ n.toInt) {cap : Nat} (hcap : n.toInt ≤ cap) (hb : cap * 8 ≤ 536870912) (hc : cells + 1 ≤ R.cells) (hl : slots + cap ≤ R.slots) :
    ∃ T' h', Stand p l e R s m args below meth c T' locs (cells + 1) (slots + cap) ∧ T'.heap = h' ∧ Ext h h' ∧ VA Z h' h.size .byte ((List.replicate n.toInt.toNat (0 : Int32)).map Value.int) ∧
      ∀ target, Steps p.tables e below (T'.setTop { g with pc := g.pc + 2, stack := .ref h.size :: rest }) target → Steps p.tables e below (T.setTop g) target := by
  have q : ¬ n < 0 := by rw [Int32.lt_iff_toInt_lt]; have k0 : (0 : Int32).toInt = 0 := rfl; omega
  have en : n.toNatClampNeg = n.toInt.toNat := rfl
  obtain ⟨T', h', cA, X', e', E, A, st⟩ := newP X hx hZ (aty := .byte) w eT hg hd hs q (cap := cap) (by rw [en]; omega) hb hc hl
  have V1 : VA Z h' h.size .byte (List.replicate n.toNatClampNeg (Value.int (0 : Int32))) := VA.new A q
  rw [en] at V1
  refine ⟨T', h', X', e', E, ?_, st⟩
  rw [List.map_replicate]
  exact V1
theorem ldZ (X : Stand p l e R s m args below meth c T locs cells slots) (hx : p.tables.exec = Jvm.exec) (hZ : Z.Warmed39 s.vm) (eT : T.heap = h) {vs : List Int32} (F : VA Z h a .boolean (vs.map Value.int)) {j : Int32} (h0 : 0 ≤ j.toInt) (h1 : j.toInt < vs.length)
    {g : JFrame} (hg : g.method = m) {rest : List Value} (hs : g.stack = .int j :: .ref a :: rest) (hd : decode c.code g.pc = .ok (.baload, 1)) (target : State)
    (k : Steps p.tables e below (T.setTop { g with pc := g.pc + 1, stack := .int (vs.getD j.toNatClampNeg 0) :: rest }) target) : Steps p.tables e below (T.setTop g) target := by
  obtain ⟨cl, A, q1, q2, -⟩ := F.inb h0 (by rw [List.length_map]; exact h1)
  have hj := own_nat h0
  refine X.baloadBooleans hx (j := j) (v := .int (vs.getD j.toNatClampNeg 0)) (by rw [eT]; exact A.1) (State.isArrayOf_alike hZ.alike A.2.1) A.2.2 q1 ?_ hg hs hd target k
  rw [q2, List.getElem?_map, List.getD_eq_getElem?_getD, List.getElem?_eq_getElem (by omega)]; rfl
theorem putZ (X : Stand p l e R s m args below meth c T locs cells slots) (hx : p.tables.exec = Jvm.exec) (hZ : Z.Warmed39 s.vm) (eT : T.heap = h) {vs : List Int32} (F : VA Z h a .boolean (vs.map Value.int)) {j x : Int32} (h0 : 0 ≤ j.toInt) (h1 : j.toInt < vs.length)
    {g : JFrame} (hg : g.method = m) {rest : List Value} (hs : g.stack = .int x :: .int j :: .ref a :: rest) (hd : decode c.code g.pc = .ok (.bastore, 1)) :
    ∃ T' h', Stand p l e R s m args below meth c T' (locs ++ [⟨a, j.toNatClampNeg⟩]) cells slots ∧ T'.heap = h' ∧ Wr h h' a j.toNatClampNeg (.int (nar .boolean x)) ∧ VA Z h' a .boolean ((vs.set j.toNatClampNeg (nar .boolean x)).map Value.int) ∧ ∀ target, Steps p.tables e below (T'.setTop { g with pc := g.pc + 1, stack := rest }) target → Steps p.tables e below (T.setTop g) target := by
  obtain ⟨cl, A, q1, q2, q3⟩ := F.inb h0 (by rw [List.length_map]; exact h1)
  obtain ⟨T', h', X', e', W, st⟩ := stZ X hx hZ eT A q1 hg hs hd
  exact ⟨T', h', X', e', W, by rw [List.map_set]; exact q3 _ _ W, st⟩
theorem newZ (X : Stand p l e R s m args below meth c T locs cells slots) (hx : p.tables.exec = Jvm.exec) (hZ : Z.Warmed39 s.vm) (w : (Cond.arrayClass .boolean).before a0 Z = true) (eT : T.heap = h) {g : JFrame} (hg : g.method = m) (hd : decode c.code g.pc = .ok (.newarray .boolean, 2)) {n : Int32} {rest : List Value} (hs : g.stack = .int n :: rest)
    (hn : 0 ≤ n.toInt) {cap : Nat} (hcap : n.toInt ≤ cap) (hb : cap * 8 ≤ 536870912) (hc : cells + 1 ≤ R.cells) (hl : slots + cap ≤ R.slots) :
    ∃ T' h', Stand p l e R s m args below meth c T' locs (cells + 1) (slots + cap) ∧ T'.heap = h' ∧ Ext h h' ∧ VA Z h' h.size .boolean ((List.replicate n.toInt.toNat (0 : Int32)).map Value.int) ∧
      ∀ target, Steps p.tables e below (T'.setTop { g with pc := g.pc + 2, stack := .ref h.size :: rest }) target → Steps p.tables e below (T.setTop g) target := by
  have q : ¬ n < 0 := by rw [Int32.lt_iff_toInt_lt]; have k0 : (0 : Int32).toInt = 0 := rfl; omega
  have en : n.toNatClampNeg = n.toInt.toNat := rfl
  obtain ⟨T', h', cA, X', e', E, A, st⟩ := newP X hx hZ (aty := .boolean) w eT hg hd hs q (cap := cap) (by rw [en]; omega) hb hc hl
  have V1 : VA Z h' h.size .boolean (List.replicate n.toNatClampNeg (Value.int (0 : Int32))) := VA.new A q
  rw [en] at V1
  refine ⟨T', h', X', e', E, ?_, st⟩
  rw [List.map_replicate]
  exact V1
end Steps2
end New
end Jvm.RoadKit
namespace Jvm.Pilot.@@N@@
open Jvm Jvm.ClassFile Sem Op Lib Jvm.Free Jvm.Stand Jvm.LawKit Jvm.RoadKit Bundle Jvm.Pilot.@@N@@.Jvm.D
theorem d3_0 : decode prog_19_method_7_code 0 = .ok (.lload_n 0, 1) := by decide +kernel
theorem d3_1 : decode prog_19_method_7_code 1 = .ok (.lconst 0, 1) := by decide +kernel
theorem d3_2 : decode prog_19_method_7_code 2 = .ok (.lcmp, 1) := by decide +kernel
theorem d3_3 : decode prog_19_method_7_code 3 = .ok (.ifCond .ge 17, 3) := by decide +kernel
theorem d3_20 : decode prog_19_method_7_code 20 = .ok (.return_, 1) := by decide +kernel
theorem pn_0 : plainName "com/example/preamble/preamble/varint/Varint" = true := by first | (simp [plainName, overriddenIn]; done) | decide +kernel
theorem ef_reqU (m : MethodId) (x0 : Int64) : entryFrame m #[(.long x0)] 2 = mkF m 0 #[.val (.long x0), .second] [] := by first | (simp [entryFrame, mkF, argsToLocals, Value.category]; done) | rfl
def QreqU (Z : State) (p1 : Int64)  (h0 : Heap) (n0 : Nat) (v : Option Value) (h : Heap) (L : List Loc) : Prop := v = none ∧ Fr n0 L ∧ h = h0
set_option maxRecDepth 65536 in
set_option maxHeartbeats 40000000 in
theorem rm_reqU (l : Launch) (Z : State) (a0 : Array Value) (hw : ∀ d ∈ tables_1, d.before a0 Z = true) (ws : List Jvm.Cond) (p1 : Int64)  (h0 : Heap) (n0 : Nat) (Z0 : n0 ≤ h0.size) (hp : ¬ (p1 < (0 : Int64))) :
    MetFree l (⟨"com/example/preamble/preamble/varint/Varint", "requireUnsigned", "(J)V"⟩ : MethodName) (head1 (Jvm.Cond.code (⟨"com/example/preamble/preamble/varint/Varint", "requireUnsigned", "(J)V"⟩ : MethodName) prog_19_method_7_code 2 none :: ws) ({ frames := 0, cells := 0, slots := 0, locals := 0 } : Room)) (fun A_ U => A_ = #[(.long p1)] ∧ Z.Warmed39 U.vm ∧ U.heap = h0) (fun _ _ _ _ _ => True) (fun _ U o U' => ∃ v L, o = .returned v ∧ QreqU Z p1 h0 n0 v U'.heap L ∧ FrameEnd U o U' L ({ frames := 0, cells := 0, slots := 0, locals := 0 } : Room).cells ({ frames := 0, cells := 0, slots := 0, locals := 0 } : Room).slots) := by
  refine MetFree.of_bodySF (plainFor_of_name pn_0) hisR ?_
  intro p e s m args below meth c s₁ Bd hml0 hP hK
  obtain ⟨rfl, hZ, hh⟩ := hP
  have hx := Bd.exec
  have hby := Bd.bytes
  have hml : c.maxLocals = 2 := hml0
  have hown : s.vm.findClass "com/example/preamble/preamble/varint/Varint" = some m.cls := findClass_of_methodNamed Bd.named
  have hnm := (name_of_methodNamed Bd.named Bd.method).1
  have X0 : Stand p l e ({ frames := 0, cells := 0, slots := 0, locals := 0 } : Room) s m #[(.long p1)] below meth c s₁ [] 0 0 := Stand.of_body Bd
  have e0 : s₁.heap = h0 := by rw [← hh, Bd.state]; rfl
  have N0 := Fr.nil n0
  suffices HGO : Go p e below s (QreqU Z p1 h0 n0) ({ frames := 0, cells := 0, slots := 0, locals := 0 } : Room).cells ({ frames := 0, cells := 0, slots := 0, locals := 0 } : Room).slots s₁ (mkF m 0 #[.val (.long p1), .second] []) from Go.cast (ef_reqU m p1) HGO
  refine Go.step (T' := s₁) (f' := (mkF m 3 #[.val (.long p1), .second] [(.int (lcmpW p1 (0 : Int64)))])) (fun t kt => ?_) ?_
  · show Steps p.tables e below (s₁.setTop (mkF m 0 #[.val (.long p1), .second] [])) _
    refine XS.lloadN X0.here hx rfl (hb hby d3_0) rfl ?_
    show Steps p.tables e below (s₁.setTop (mkF m 1 #[.val (.long p1), .second] [(.long p1)])) _
    refine XS.lconst X0.here hx rfl (hb hby d3_1) ?_
    show Steps p.tables e below (s₁.setTop (mkF m 2 #[.val (.long p1), .second] [(.long (0 : Int64)), (.long p1)])) _
    refine XS.lcmp X0.here hx rfl (hb hby d3_2) rfl ?_
    exact kt
  have hd1 : ¬ (p1 < (0 : Int64)) := hp
  refine Go.step (T' := s₁) (f' := (mkF m 20 #[.val (.long p1), .second] [])) (fun t kt => ?_) ?_
  · show Steps p.tables e below (s₁.setTop (mkF m 3 #[.val (.long p1), .second] [(.int (lcmpW p1 (0 : Int64)))])) _
    refine XS.ifYes X0.here hx rfl (pc0 := 3) (pc' := 20) rfl (hb hby d3_3) rfl ((if0 _ _).trans (flt (fun q => hd1 ((lw_lt _ _).mp q))).2.1) (by decide) (by decide) ?_
    exact kt
  refine Go.fin X0 (v := none) (fun _ => rfl) Bd.notSynchronized ?_ (Nat.le_trans (Nat.le_refl 0) (by decide)) (Nat.le_trans (Nat.le_refl 0) (by decide)) (fun fs hr => X0.returnOut hx Bd.returns (hb hby d3_20) hr)
  · show QreqU Z p1 h0 n0 _ s₁.heap _
    exact ⟨rfl, N0, e0⟩
theorem d4_0 : decode method_2_code 0 = .ok (.lload_n 0, 1) := by decide +kernel
theorem d4_1 : decode method_2_code 1 = .ok (.ldc2_w 7, 3) := by decide +kernel
theorem d4_4 : decode method_2_code 4 = .ok (.lcmp, 1) := by decide +kernel
theorem d4_5 : decode method_2_code 5 = .ok (.ifCond .ge 5, 3) := by decide +kernel
theorem d4_8 : decode method_2_code 8 = .ok (.iconst 1, 1) := by decide +kernel
theorem d4_9 : decode method_2_code 9 = .ok (.ireturn, 1) := by decide +kernel
theorem d4_10 : decode method_2_code 10 = .ok (.lload_n 0, 1) := by decide +kernel
theorem d4_11 : decode method_2_code 11 = .ok (.ldc2_w 9, 3) := by decide +kernel
theorem d4_14 : decode method_2_code 14 = .ok (.lcmp, 1) := by decide +kernel
theorem d4_15 : decode method_2_code 15 = .ok (.ifCond .ge 5, 3) := by decide +kernel
theorem d4_18 : decode method_2_code 18 = .ok (.iconst 2, 1) := by decide +kernel
theorem d4_19 : decode method_2_code 19 = .ok (.ireturn, 1) := by decide +kernel
theorem d4_20 : decode method_2_code 20 = .ok (.lload_n 0, 1) := by decide +kernel
theorem d4_21 : decode method_2_code 21 = .ok (.ldc2_w 11, 3) := by decide +kernel
theorem d4_24 : decode method_2_code 24 = .ok (.lcmp, 1) := by decide +kernel
theorem d4_25 : decode method_2_code 25 = .ok (.ifCond .ge 5, 3) := by decide +kernel
theorem d4_28 : decode method_2_code 28 = .ok (.iconst 3, 1) := by decide +kernel
theorem d4_29 : decode method_2_code 29 = .ok (.ireturn, 1) := by decide +kernel
theorem d4_30 : decode method_2_code 30 = .ok (.lload_n 0, 1) := by decide +kernel
theorem d4_31 : decode method_2_code 31 = .ok (.ldc2_w 13, 3) := by decide +kernel
theorem d4_34 : decode method_2_code 34 = .ok (.lcmp, 1) := by decide +kernel
theorem d4_35 : decode method_2_code 35 = .ok (.ifCond .ge 5, 3) := by decide +kernel
theorem d4_38 : decode method_2_code 38 = .ok (.iconst 4, 1) := by decide +kernel
theorem d4_39 : decode method_2_code 39 = .ok (.ireturn, 1) := by decide +kernel
theorem d4_40 : decode method_2_code 40 = .ok (.lload_n 0, 1) := by decide +kernel
theorem d4_41 : decode method_2_code 41 = .ok (.ldc2_w 15, 3) := by decide +kernel
theorem d4_44 : decode method_2_code 44 = .ok (.lcmp, 1) := by decide +kernel
theorem d4_45 : decode method_2_code 45 = .ok (.ifCond .ge 5, 3) := by decide +kernel
theorem d4_48 : decode method_2_code 48 = .ok (.iconst 5, 1) := by decide +kernel
theorem d4_49 : decode method_2_code 49 = .ok (.ireturn, 1) := by decide +kernel
theorem d4_50 : decode method_2_code 50 = .ok (.lload_n 0, 1) := by decide +kernel
theorem d4_51 : decode method_2_code 51 = .ok (.ldc2_w 17, 3) := by decide +kernel
theorem d4_54 : decode method_2_code 54 = .ok (.lcmp, 1) := by decide +kernel
theorem d4_55 : decode method_2_code 55 = .ok (.ifCond .ge 6, 3) := by decide +kernel
theorem d4_58 : decode method_2_code 58 = .ok (.bipush 6, 2) := by decide +kernel
theorem d4_60 : decode method_2_code 60 = .ok (.ireturn, 1) := by decide +kernel
theorem d4_61 : decode method_2_code 61 = .ok (.lload_n 0, 1) := by decide +kernel
theorem d4_62 : decode method_2_code 62 = .ok (.ldc2_w 19, 3) := by decide +kernel
theorem d4_65 : decode method_2_code 65 = .ok (.lcmp, 1) := by decide +kernel
theorem d4_66 : decode method_2_code 66 = .ok (.ifCond .ge 6, 3) := by decide +kernel
theorem d4_69 : decode method_2_code 69 = .ok (.bipush 7, 2) := by decide +kernel
theorem d4_71 : decode method_2_code 71 = .ok (.ireturn, 1) := by decide +kernel
theorem d4_72 : decode method_2_code 72 = .ok (.lload_n 0, 1) := by decide +kernel
theorem d4_73 : decode method_2_code 73 = .ok (.ldc2_w 21, 3) := by decide +kernel
theorem d4_76 : decode method_2_code 76 = .ok (.lcmp, 1) := by decide +kernel
theorem d4_77 : decode method_2_code 77 = .ok (.ifCond .ge 6, 3) := by decide +kernel
theorem d4_80 : decode method_2_code 80 = .ok (.bipush 8, 2) := by decide +kernel
theorem d4_82 : decode method_2_code 82 = .ok (.ireturn, 1) := by decide +kernel
theorem d4_83 : decode method_2_code 83 = .ok (.bipush 9, 2) := by decide +kernel
theorem d4_85 : decode method_2_code 85 = .ok (.ireturn, 1) := by decide +kernel
theorem pn_1 : plainName "com/example/preamble/preamble/varint/VarintEncodePinLaw" = true := by first | (simp [plainName, overriddenIn]; done) | decide +kernel
theorem ef_refL (m : MethodId) (x0 : Int64) : entryFrame m #[(.long x0)] 2 = mkF m 0 #[.val (.long x0), .second] [] := by first | (simp [entryFrame, mkF, argsToLocals, Value.category]; done) | rfl
def refL (p1 : Int64) : Int32 := (if p1 < (128 : Int64) then (1 : Int32) else (if p1 < (16384 : Int64) then (2 : Int32) else (if p1 < (2097152 : Int64) then (3 : Int32) else (if p1 < (268435456 : Int64) then (4 : Int32) else (if p1 < (34359738368 : Int64) then (5 : Int32) else (if p1 < (4398046511104 : Int64) then (6 : Int32) else (if p1 < (562949953421312 : Int64) then (7 : Int32) else (if p1 < (72057594037927936 : Int64) then (8 : Int32) else (9 : Int32)))))))))
def QrefL (RES : Int32) (h0 : Heap) (n0 : Nat) (v : Option Value) (h : Heap) (L : List Loc) : Prop := v = some (.int RES) ∧ Fr n0 L ∧ h = h0
set_option maxRecDepth 65536 in
set_option maxHeartbeats 40000000 in
theorem rm_refL (l : Launch) (Z : State) (a0 : Array Value) (hw : ∀ d ∈ tables_1, d.before a0 Z = true) (ws : List Jvm.Cond) (p1 : Int64)  (h0 : Heap) (n0 : Nat) (Z0 : n0 ≤ h0.size) :
    MetFree l (⟨"com/example/preamble/preamble/varint/VarintEncodePinLaw", "expectedLength", "(J)I"⟩ : MethodName) (head1 (Jvm.Cond.code (⟨"com/example/preamble/preamble/varint/VarintEncodePinLaw", "expectedLength", "(J)I"⟩ : MethodName) method_2_code 2 (some .int) :: ws) ({ frames := 0, cells := 0, slots := 0, locals := 0 } : Room)) (fun A_ U => A_ = #[(.long p1)] ∧ Z.Warmed39 U.vm ∧ U.heap = h0) (fun _ _ _ _ _ => True) (fun _ U o U' => ∃ v L, o = .returned v ∧ QrefL (refL p1) h0 n0 v U'.heap L ∧ FrameEnd U o U' L ({ frames := 0, cells := 0, slots := 0, locals := 0 } : Room).cells ({ frames := 0, cells := 0, slots := 0, locals := 0 } : Room).slots) := by
  refine MetFree.of_bodySF (plainFor_of_name pn_1) hisR ?_
  intro p e s m args below meth c s₁ Bd hml0 hP hK
  obtain ⟨rfl, hZ, hh⟩ := hP
  have hx := Bd.exec
  have hby := Bd.bytes
  have hml : c.maxLocals = 2 := hml0
  have hown : s.vm.findClass "com/example/preamble/preamble/varint/VarintEncodePinLaw" = some m.cls := findClass_of_methodNamed Bd.named
  have hnm := (name_of_methodNamed Bd.named Bd.method).1
  have X0 : Stand p l e ({ frames := 0, cells := 0, slots := 0, locals := 0 } : Room) s m #[(.long p1)] below meth c s₁ [] 0 0 := Stand.of_body Bd
  have e0 : s₁.heap = h0 := by rw [← hh, Bd.state]; rfl
  have N0 := Fr.nil n0
  obtain ⟨RES, hf⟩ : ∃ z, z = refL p1 := ⟨_, rfl⟩
  rw [← hf]
  rw [refL] at hf
  suffices HGO : Go p e below s (QrefL RES h0 n0) ({ frames := 0, cells := 0, slots := 0, locals := 0 } : Room).cells ({ frames := 0, cells := 0, slots := 0, locals := 0 } : Room).slots s₁ (mkF m 0 #[.val (.long p1), .second] []) from Go.cast (ef_refL m p1) HGO
  refine Go.step (T' := s₁) (f' := (mkF m 5 #[.val (.long p1), .second] [(.int (lcmpW p1 (128 : Int64)))])) (fun t kt => ?_) ?_
  · show Steps p.tables e below (s₁.setTop (mkF m 0 #[.val (.long p1), .second] [])) _
    refine XS.lloadN X0.here hx rfl (hb hby d4_0) rfl ?_
    show Steps p.tables e below (s₁.setTop (mkF m 1 #[.val (.long p1), .second] [(.long p1)])) _
    refine X0.ldc2Long hx hown (mvT hZ (hw _ (List.mem_of_getElem? (i := 17) rfl))) (g := (mkF m 1 #[.val (.long p1), .second] [(.long p1)])) rfl (hb hby d4_1) _ ?_
    show Steps p.tables e below (s₁.setTop (mkF m 4 #[.val (.long p1), .second] [(.long (128 : Int64)), (.long p1)])) _
    refine XS.lcmp X0.here hx rfl (hb hby d4_4) rfl ?_
    exact kt
  by_cases hc1 : p1 < (128 : Int64)
  · rw [if_pos hc1] at hf
    refine Go.step (T' := s₁) (f' := (mkF m 8 #[.val (.long p1), .second] [])) (fun t kt => ?_) ?_
    · show Steps p.tables e below (s₁.setTop (mkF m 5 #[.val (.long p1), .second] [(.int (lcmpW p1 (128 : Int64)))])) _
      refine XS.ifNo X0.here hx rfl (hb hby d4_5) rfl ((if0 _ _).trans (tlt ((lw_lt _ _).mpr hc1)).2.1) ?_
      exact kt
    refine Go.step (T' := s₁) (f' := (mkF m 9 #[.val (.long p1), .second] [(.int (1 : Int32))])) (fun t kt => ?_) ?_
    · show Steps p.tables e below (s₁.setTop (mkF m 8 #[.val (.long p1), .second] [])) _
      refine XS.iconst X0.here hx rfl (hb hby d4_8) ?_
      exact kt
    refine Go.fin X0 (v := some (.int (1 : Int32))) (fun h => by rw [Bd.returns] at h; cases h) Bd.notSynchronized ?_ (Nat.le_trans (Nat.le_refl 0) (by decide)) (Nat.le_trans (Nat.le_refl 0) (by decide)) (fun fs hr => retI X0 hx Bd.returns (hb hby d4_9) hr)
    · exact ⟨by rw [hf], N0, e0⟩
  · rw [if_neg hc1] at hf
    refine Go.step (T' := s₁) (f' := (mkF m 10 #[.val (.long p1), .second] [])) (fun t kt => ?_) ?_
    · show Steps p.tables e below (s₁.setTop (mkF m 5 #[.val (.long p1), .second] [(.int (lcmpW p1 (128 : Int64)))])) _
      refine XS.ifYes X0.here hx rfl (pc0 := 5) (pc' := 10) rfl (hb hby d4_5) rfl ((if0 _ _).trans (flt (fun q => hc1 ((lw_lt _ _).mp q))).2.1) (by decide) (by decide) ?_
      exact kt
    refine Go.step (T' := s₁) (f' := (mkF m 15 #[.val (.long p1), .second] [(.int (lcmpW p1 (16384 : Int64)))])) (fun t kt => ?_) ?_
    · show Steps p.tables e below (s₁.setTop (mkF m 10 #[.val (.long p1), .second] [])) _
      refine XS.lloadN X0.here hx rfl (hb hby d4_10) rfl ?_
      show Steps p.tables e below (s₁.setTop (mkF m 11 #[.val (.long p1), .second] [(.long p1)])) _
      refine X0.ldc2Long hx hown (mvT hZ (hw _ (List.mem_of_getElem? (i := 23) rfl))) (g := (mkF m 11 #[.val (.long p1), .second] [(.long p1)])) rfl (hb hby d4_11) _ ?_
      show Steps p.tables e below (s₁.setTop (mkF m 14 #[.val (.long p1), .second] [(.long (16384 : Int64)), (.long p1)])) _
      refine XS.lcmp X0.here hx rfl (hb hby d4_14) rfl ?_
      exact kt
    by_cases hc2 : p1 < (16384 : Int64)
    · rw [if_pos hc2] at hf
      refine Go.step (T' := s₁) (f' := (mkF m 18 #[.val (.long p1), .second] [])) (fun t kt => ?_) ?_
      · show Steps p.tables e below (s₁.setTop (mkF m 15 #[.val (.long p1), .second] [(.int (lcmpW p1 (16384 : Int64)))])) _
        refine XS.ifNo X0.here hx rfl (hb hby d4_15) rfl ((if0 _ _).trans (tlt ((lw_lt _ _).mpr hc2)).2.1) ?_
        exact kt
      refine Go.step (T' := s₁) (f' := (mkF m 19 #[.val (.long p1), .second] [(.int (2 : Int32))])) (fun t kt => ?_) ?_
      · show Steps p.tables e below (s₁.setTop (mkF m 18 #[.val (.long p1), .second] [])) _
        refine XS.iconst X0.here hx rfl (hb hby d4_18) ?_
        exact kt
      refine Go.fin X0 (v := some (.int (2 : Int32))) (fun h => by rw [Bd.returns] at h; cases h) Bd.notSynchronized ?_ (Nat.le_trans (Nat.le_refl 0) (by decide)) (Nat.le_trans (Nat.le_refl 0) (by decide)) (fun fs hr => retI X0 hx Bd.returns (hb hby d4_19) hr)
      · exact ⟨by rw [hf], N0, e0⟩
    · rw [if_neg hc2] at hf
      refine Go.step (T' := s₁) (f' := (mkF m 20 #[.val (.long p1), .second] [])) (fun t kt => ?_) ?_
      · show Steps p.tables e below (s₁.setTop (mkF m 15 #[.val (.long p1), .second] [(.int (lcmpW p1 (16384 : Int64)))])) _
        refine XS.ifYes X0.here hx rfl (pc0 := 15) (pc' := 20) rfl (hb hby d4_15) rfl ((if0 _ _).trans (flt (fun q => hc2 ((lw_lt _ _).mp q))).2.1) (by decide) (by decide) ?_
        exact kt
      refine Go.step (T' := s₁) (f' := (mkF m 25 #[.val (.long p1), .second] [(.int (lcmpW p1 (2097152 : Int64)))])) (fun t kt => ?_) ?_
      · show Steps p.tables e below (s₁.setTop (mkF m 20 #[.val (.long p1), .second] [])) _
        refine XS.lloadN X0.here hx rfl (hb hby d4_20) rfl ?_
        show Steps p.tables e below (s₁.setTop (mkF m 21 #[.val (.long p1), .second] [(.long p1)])) _
        refine X0.ldc2Long hx hown (mvT hZ (hw _ (List.mem_of_getElem? (i := 24) rfl))) (g := (mkF m 21 #[.val (.long p1), .second] [(.long p1)])) rfl (hb hby d4_21) _ ?_
        show Steps p.tables e below (s₁.setTop (mkF m 24 #[.val (.long p1), .second] [(.long (2097152 : Int64)), (.long p1)])) _
        refine XS.lcmp X0.here hx rfl (hb hby d4_24) rfl ?_
        exact kt
      by_cases hc3 : p1 < (2097152 : Int64)
      · rw [if_pos hc3] at hf
        refine Go.step (T' := s₁) (f' := (mkF m 28 #[.val (.long p1), .second] [])) (fun t kt => ?_) ?_
        · show Steps p.tables e below (s₁.setTop (mkF m 25 #[.val (.long p1), .second] [(.int (lcmpW p1 (2097152 : Int64)))])) _
          refine XS.ifNo X0.here hx rfl (hb hby d4_25) rfl ((if0 _ _).trans (tlt ((lw_lt _ _).mpr hc3)).2.1) ?_
          exact kt
        refine Go.step (T' := s₁) (f' := (mkF m 29 #[.val (.long p1), .second] [(.int (3 : Int32))])) (fun t kt => ?_) ?_
        · show Steps p.tables e below (s₁.setTop (mkF m 28 #[.val (.long p1), .second] [])) _
          refine XS.iconst X0.here hx rfl (hb hby d4_28) ?_
          exact kt
        refine Go.fin X0 (v := some (.int (3 : Int32))) (fun h => by rw [Bd.returns] at h; cases h) Bd.notSynchronized ?_ (Nat.le_trans (Nat.le_refl 0) (by decide)) (Nat.le_trans (Nat.le_refl 0) (by decide)) (fun fs hr => retI X0 hx Bd.returns (hb hby d4_29) hr)
        · exact ⟨by rw [hf], N0, e0⟩
      · rw [if_neg hc3] at hf
        refine Go.step (T' := s₁) (f' := (mkF m 30 #[.val (.long p1), .second] [])) (fun t kt => ?_) ?_
        · show Steps p.tables e below (s₁.setTop (mkF m 25 #[.val (.long p1), .second] [(.int (lcmpW p1 (2097152 : Int64)))])) _
          refine XS.ifYes X0.here hx rfl (pc0 := 25) (pc' := 30) rfl (hb hby d4_25) rfl ((if0 _ _).trans (flt (fun q => hc3 ((lw_lt _ _).mp q))).2.1) (by decide) (by decide) ?_
          exact kt
        refine Go.step (T' := s₁) (f' := (mkF m 35 #[.val (.long p1), .second] [(.int (lcmpW p1 (268435456 : Int64)))])) (fun t kt => ?_) ?_
        · show Steps p.tables e below (s₁.setTop (mkF m 30 #[.val (.long p1), .second] [])) _
          refine XS.lloadN X0.here hx rfl (hb hby d4_30) rfl ?_
          show Steps p.tables e below (s₁.setTop (mkF m 31 #[.val (.long p1), .second] [(.long p1)])) _
          refine X0.ldc2Long hx hown (mvT hZ (hw _ (List.mem_of_getElem? (i := 25) rfl))) (g := (mkF m 31 #[.val (.long p1), .second] [(.long p1)])) rfl (hb hby d4_31) _ ?_
          show Steps p.tables e below (s₁.setTop (mkF m 34 #[.val (.long p1), .second] [(.long (268435456 : Int64)), (.long p1)])) _
          refine XS.lcmp X0.here hx rfl (hb hby d4_34) rfl ?_
          exact kt
        by_cases hc4 : p1 < (268435456 : Int64)
        · rw [if_pos hc4] at hf
          refine Go.step (T' := s₁) (f' := (mkF m 38 #[.val (.long p1), .second] [])) (fun t kt => ?_) ?_
          · show Steps p.tables e below (s₁.setTop (mkF m 35 #[.val (.long p1), .second] [(.int (lcmpW p1 (268435456 : Int64)))])) _
            refine XS.ifNo X0.here hx rfl (hb hby d4_35) rfl ((if0 _ _).trans (tlt ((lw_lt _ _).mpr hc4)).2.1) ?_
            exact kt
          refine Go.step (T' := s₁) (f' := (mkF m 39 #[.val (.long p1), .second] [(.int (4 : Int32))])) (fun t kt => ?_) ?_
          · show Steps p.tables e below (s₁.setTop (mkF m 38 #[.val (.long p1), .second] [])) _
            refine XS.iconst X0.here hx rfl (hb hby d4_38) ?_
            exact kt
          refine Go.fin X0 (v := some (.int (4 : Int32))) (fun h => by rw [Bd.returns] at h; cases h) Bd.notSynchronized ?_ (Nat.le_trans (Nat.le_refl 0) (by decide)) (Nat.le_trans (Nat.le_refl 0) (by decide)) (fun fs hr => retI X0 hx Bd.returns (hb hby d4_39) hr)
          · exact ⟨by rw [hf], N0, e0⟩
        · rw [if_neg hc4] at hf
          refine Go.step (T' := s₁) (f' := (mkF m 40 #[.val (.long p1), .second] [])) (fun t kt => ?_) ?_
          · show Steps p.tables e below (s₁.setTop (mkF m 35 #[.val (.long p1), .second] [(.int (lcmpW p1 (268435456 : Int64)))])) _
            refine XS.ifYes X0.here hx rfl (pc0 := 35) (pc' := 40) rfl (hb hby d4_35) rfl ((if0 _ _).trans (flt (fun q => hc4 ((lw_lt _ _).mp q))).2.1) (by decide) (by decide) ?_
            exact kt
          refine Go.step (T' := s₁) (f' := (mkF m 45 #[.val (.long p1), .second] [(.int (lcmpW p1 (34359738368 : Int64)))])) (fun t kt => ?_) ?_
          · show Steps p.tables e below (s₁.setTop (mkF m 40 #[.val (.long p1), .second] [])) _
            refine XS.lloadN X0.here hx rfl (hb hby d4_40) rfl ?_
            show Steps p.tables e below (s₁.setTop (mkF m 41 #[.val (.long p1), .second] [(.long p1)])) _
            refine X0.ldc2Long hx hown (mvT hZ (hw _ (List.mem_of_getElem? (i := 26) rfl))) (g := (mkF m 41 #[.val (.long p1), .second] [(.long p1)])) rfl (hb hby d4_41) _ ?_
            show Steps p.tables e below (s₁.setTop (mkF m 44 #[.val (.long p1), .second] [(.long (34359738368 : Int64)), (.long p1)])) _
            refine XS.lcmp X0.here hx rfl (hb hby d4_44) rfl ?_
            exact kt
          by_cases hc5 : p1 < (34359738368 : Int64)
          · rw [if_pos hc5] at hf
            refine Go.step (T' := s₁) (f' := (mkF m 48 #[.val (.long p1), .second] [])) (fun t kt => ?_) ?_
            · show Steps p.tables e below (s₁.setTop (mkF m 45 #[.val (.long p1), .second] [(.int (lcmpW p1 (34359738368 : Int64)))])) _
              refine XS.ifNo X0.here hx rfl (hb hby d4_45) rfl ((if0 _ _).trans (tlt ((lw_lt _ _).mpr hc5)).2.1) ?_
              exact kt
            refine Go.step (T' := s₁) (f' := (mkF m 49 #[.val (.long p1), .second] [(.int (5 : Int32))])) (fun t kt => ?_) ?_
            · show Steps p.tables e below (s₁.setTop (mkF m 48 #[.val (.long p1), .second] [])) _
              refine XS.iconst X0.here hx rfl (hb hby d4_48) ?_
              exact kt
            refine Go.fin X0 (v := some (.int (5 : Int32))) (fun h => by rw [Bd.returns] at h; cases h) Bd.notSynchronized ?_ (Nat.le_trans (Nat.le_refl 0) (by decide)) (Nat.le_trans (Nat.le_refl 0) (by decide)) (fun fs hr => retI X0 hx Bd.returns (hb hby d4_49) hr)
            · exact ⟨by rw [hf], N0, e0⟩
          · rw [if_neg hc5] at hf
            refine Go.step (T' := s₁) (f' := (mkF m 50 #[.val (.long p1), .second] [])) (fun t kt => ?_) ?_
            · show Steps p.tables e below (s₁.setTop (mkF m 45 #[.val (.long p1), .second] [(.int (lcmpW p1 (34359738368 : Int64)))])) _
              refine XS.ifYes X0.here hx rfl (pc0 := 45) (pc' := 50) rfl (hb hby d4_45) rfl ((if0 _ _).trans (flt (fun q => hc5 ((lw_lt _ _).mp q))).2.1) (by decide) (by decide) ?_
              exact kt
            refine Go.step (T' := s₁) (f' := (mkF m 55 #[.val (.long p1), .second] [(.int (lcmpW p1 (4398046511104 : Int64)))])) (fun t kt => ?_) ?_
            · show Steps p.tables e below (s₁.setTop (mkF m 50 #[.val (.long p1), .second] [])) _
              refine XS.lloadN X0.here hx rfl (hb hby d4_50) rfl ?_
              show Steps p.tables e below (s₁.setTop (mkF m 51 #[.val (.long p1), .second] [(.long p1)])) _
              refine X0.ldc2Long hx hown (mvT hZ (hw _ (List.mem_of_getElem? (i := 27) rfl))) (g := (mkF m 51 #[.val (.long p1), .second] [(.long p1)])) rfl (hb hby d4_51) _ ?_
              show Steps p.tables e below (s₁.setTop (mkF m 54 #[.val (.long p1), .second] [(.long (4398046511104 : Int64)), (.long p1)])) _
              refine XS.lcmp X0.here hx rfl (hb hby d4_54) rfl ?_
              exact kt
            by_cases hc6 : p1 < (4398046511104 : Int64)
            · rw [if_pos hc6] at hf
              refine Go.step (T' := s₁) (f' := (mkF m 58 #[.val (.long p1), .second] [])) (fun t kt => ?_) ?_
              · show Steps p.tables e below (s₁.setTop (mkF m 55 #[.val (.long p1), .second] [(.int (lcmpW p1 (4398046511104 : Int64)))])) _
                refine XS.ifNo X0.here hx rfl (hb hby d4_55) rfl ((if0 _ _).trans (tlt ((lw_lt _ _).mpr hc6)).2.1) ?_
                exact kt
              refine Go.step (T' := s₁) (f' := (mkF m 60 #[.val (.long p1), .second] [(.int (6 : Int32))])) (fun t kt => ?_) ?_
              · show Steps p.tables e below (s₁.setTop (mkF m 58 #[.val (.long p1), .second] [])) _
                refine XS.bipush X0.here hx rfl (hb hby d4_58) ?_
                exact kt
              refine Go.fin X0 (v := some (.int (6 : Int32))) (fun h => by rw [Bd.returns] at h; cases h) Bd.notSynchronized ?_ (Nat.le_trans (Nat.le_refl 0) (by decide)) (Nat.le_trans (Nat.le_refl 0) (by decide)) (fun fs hr => retI X0 hx Bd.returns (hb hby d4_60) hr)
              · exact ⟨by rw [hf], N0, e0⟩
            · rw [if_neg hc6] at hf
              refine Go.step (T' := s₁) (f' := (mkF m 61 #[.val (.long p1), .second] [])) (fun t kt => ?_) ?_
              · show Steps p.tables e below (s₁.setTop (mkF m 55 #[.val (.long p1), .second] [(.int (lcmpW p1 (4398046511104 : Int64)))])) _
                refine XS.ifYes X0.here hx rfl (pc0 := 55) (pc' := 61) rfl (hb hby d4_55) rfl ((if0 _ _).trans (flt (fun q => hc6 ((lw_lt _ _).mp q))).2.1) (by decide) (by decide) ?_
                exact kt
              refine Go.step (T' := s₁) (f' := (mkF m 66 #[.val (.long p1), .second] [(.int (lcmpW p1 (562949953421312 : Int64)))])) (fun t kt => ?_) ?_
              · show Steps p.tables e below (s₁.setTop (mkF m 61 #[.val (.long p1), .second] [])) _
                refine XS.lloadN X0.here hx rfl (hb hby d4_61) rfl ?_
                show Steps p.tables e below (s₁.setTop (mkF m 62 #[.val (.long p1), .second] [(.long p1)])) _
                refine X0.ldc2Long hx hown (mvT hZ (hw _ (List.mem_of_getElem? (i := 28) rfl))) (g := (mkF m 62 #[.val (.long p1), .second] [(.long p1)])) rfl (hb hby d4_62) _ ?_
                show Steps p.tables e below (s₁.setTop (mkF m 65 #[.val (.long p1), .second] [(.long (562949953421312 : Int64)), (.long p1)])) _
                refine XS.lcmp X0.here hx rfl (hb hby d4_65) rfl ?_
                exact kt
              by_cases hc7 : p1 < (562949953421312 : Int64)
              · rw [if_pos hc7] at hf
                refine Go.step (T' := s₁) (f' := (mkF m 69 #[.val (.long p1), .second] [])) (fun t kt => ?_) ?_
                · show Steps p.tables e below (s₁.setTop (mkF m 66 #[.val (.long p1), .second] [(.int (lcmpW p1 (562949953421312 : Int64)))])) _
                  refine XS.ifNo X0.here hx rfl (hb hby d4_66) rfl ((if0 _ _).trans (tlt ((lw_lt _ _).mpr hc7)).2.1) ?_
                  exact kt
                refine Go.step (T' := s₁) (f' := (mkF m 71 #[.val (.long p1), .second] [(.int (7 : Int32))])) (fun t kt => ?_) ?_
                · show Steps p.tables e below (s₁.setTop (mkF m 69 #[.val (.long p1), .second] [])) _
                  refine XS.bipush X0.here hx rfl (hb hby d4_69) ?_
                  exact kt
                refine Go.fin X0 (v := some (.int (7 : Int32))) (fun h => by rw [Bd.returns] at h; cases h) Bd.notSynchronized ?_ (Nat.le_trans (Nat.le_refl 0) (by decide)) (Nat.le_trans (Nat.le_refl 0) (by decide)) (fun fs hr => retI X0 hx Bd.returns (hb hby d4_71) hr)
                · exact ⟨by rw [hf], N0, e0⟩
              · rw [if_neg hc7] at hf
                refine Go.step (T' := s₁) (f' := (mkF m 72 #[.val (.long p1), .second] [])) (fun t kt => ?_) ?_
                · show Steps p.tables e below (s₁.setTop (mkF m 66 #[.val (.long p1), .second] [(.int (lcmpW p1 (562949953421312 : Int64)))])) _
                  refine XS.ifYes X0.here hx rfl (pc0 := 66) (pc' := 72) rfl (hb hby d4_66) rfl ((if0 _ _).trans (flt (fun q => hc7 ((lw_lt _ _).mp q))).2.1) (by decide) (by decide) ?_
                  exact kt
                refine Go.step (T' := s₁) (f' := (mkF m 77 #[.val (.long p1), .second] [(.int (lcmpW p1 (72057594037927936 : Int64)))])) (fun t kt => ?_) ?_
                · show Steps p.tables e below (s₁.setTop (mkF m 72 #[.val (.long p1), .second] [])) _
                  refine XS.lloadN X0.here hx rfl (hb hby d4_72) rfl ?_
                  show Steps p.tables e below (s₁.setTop (mkF m 73 #[.val (.long p1), .second] [(.long p1)])) _
                  refine X0.ldc2Long hx hown (mvT hZ (hw _ (List.mem_of_getElem? (i := 29) rfl))) (g := (mkF m 73 #[.val (.long p1), .second] [(.long p1)])) rfl (hb hby d4_73) _ ?_
                  show Steps p.tables e below (s₁.setTop (mkF m 76 #[.val (.long p1), .second] [(.long (72057594037927936 : Int64)), (.long p1)])) _
                  refine XS.lcmp X0.here hx rfl (hb hby d4_76) rfl ?_
                  exact kt
                by_cases hc8 : p1 < (72057594037927936 : Int64)
                · rw [if_pos hc8] at hf
                  refine Go.step (T' := s₁) (f' := (mkF m 80 #[.val (.long p1), .second] [])) (fun t kt => ?_) ?_
                  · show Steps p.tables e below (s₁.setTop (mkF m 77 #[.val (.long p1), .second] [(.int (lcmpW p1 (72057594037927936 : Int64)))])) _
                    refine XS.ifNo X0.here hx rfl (hb hby d4_77) rfl ((if0 _ _).trans (tlt ((lw_lt _ _).mpr hc8)).2.1) ?_
                    exact kt
                  refine Go.step (T' := s₁) (f' := (mkF m 82 #[.val (.long p1), .second] [(.int (8 : Int32))])) (fun t kt => ?_) ?_
                  · show Steps p.tables e below (s₁.setTop (mkF m 80 #[.val (.long p1), .second] [])) _
                    refine XS.bipush X0.here hx rfl (hb hby d4_80) ?_
                    exact kt
                  refine Go.fin X0 (v := some (.int (8 : Int32))) (fun h => by rw [Bd.returns] at h; cases h) Bd.notSynchronized ?_ (Nat.le_trans (Nat.le_refl 0) (by decide)) (Nat.le_trans (Nat.le_refl 0) (by decide)) (fun fs hr => retI X0 hx Bd.returns (hb hby d4_82) hr)
                  · exact ⟨by rw [hf], N0, e0⟩
                · rw [if_neg hc8] at hf
                  refine Go.step (T' := s₁) (f' := (mkF m 83 #[.val (.long p1), .second] [])) (fun t kt => ?_) ?_
                  · show Steps p.tables e below (s₁.setTop (mkF m 77 #[.val (.long p1), .second] [(.int (lcmpW p1 (72057594037927936 : Int64)))])) _
                    refine XS.ifYes X0.here hx rfl (pc0 := 77) (pc' := 83) rfl (hb hby d4_77) rfl ((if0 _ _).trans (flt (fun q => hc8 ((lw_lt _ _).mp q))).2.1) (by decide) (by decide) ?_
                    exact kt
                  refine Go.step (T' := s₁) (f' := (mkF m 85 #[.val (.long p1), .second] [(.int (9 : Int32))])) (fun t kt => ?_) ?_
                  · show Steps p.tables e below (s₁.setTop (mkF m 83 #[.val (.long p1), .second] [])) _
                    refine XS.bipush X0.here hx rfl (hb hby d4_83) ?_
                    exact kt
                  refine Go.fin X0 (v := some (.int (9 : Int32))) (fun h => by rw [Bd.returns] at h; cases h) Bd.notSynchronized ?_ (Nat.le_trans (Nat.le_refl 0) (by decide)) (Nat.le_trans (Nat.le_refl 0) (by decide)) (fun fs hr => retI X0 hx Bd.returns (hb hby d4_85) hr)
                  · exact ⟨by rw [hf], N0, e0⟩
theorem own_u7 (x : Int64) (h : 0 ≤ x.toInt) : ((x.toUInt64 >>> ((7 : Int32) &&& 0x3f).toInt64.toUInt64).toInt64).toInt = x.toInt / 128 := by
  have q := c_lushr x 7 7 (by decide) (by decide)
  have r := rng64 x
  rw [q]
  omega
def own_Inv (p : Int64) (k : Int32) (x : Int64) : Prop :=
  (k = 1 ∧ x.toInt = p.toInt / 128) ∨ (k = 2 ∧ 128 ≤ p.toInt ∧ x.toInt = p.toInt / 16384) ∨ (k = 3 ∧ 16384 ≤ p.toInt ∧ x.toInt = p.toInt / 2097152) ∨ (k = 4 ∧ 2097152 ≤ p.toInt ∧ x.toInt = p.toInt / 268435456) ∨
  (k = 5 ∧ 268435456 ≤ p.toInt ∧ x.toInt = p.toInt / 34359738368) ∨ (k = 6 ∧ 34359738368 ≤ p.toInt ∧ x.toInt = p.toInt / 4398046511104) ∨ (k = 7 ∧ 4398046511104 ≤ p.toInt ∧ x.toInt = p.toInt / 562949953421312) ∨
  (k = 8 ∧ 562949953421312 ≤ p.toInt ∧ x.toInt = p.toInt / 72057594037927936) ∨ (k = 9 ∧ 72057594037927936 ≤ p.toInt ∧ x.toInt = p.toInt / 9223372036854775808)
theorem own_step {p x : Int64} {k : Int32} (hp : 0 ≤ p.toInt) (h : own_Inv p k x) (hx : ¬ x = (0 : Int64)) : own_Inv p (k + (1 : Int32)) ((x.toUInt64 >>> ((7 : Int32) &&& 0x3f).toInt64.toUInt64).toInt64) ∧ ((x.toUInt64 >>> ((7 : Int32) &&& 0x3f).toInt64.toUInt64).toInt64).toInt.toNat < x.toInt.toNat := by
  have r := rng64 p
  have hx' : ¬ x.toInt = 0 := fun q => hx (Int64.toInt_inj.mp q)
  have h0 : 0 ≤ x.toInt := by
    rcases h with h | h | h | h | h | h | h | h | h <;> omega
  have u := own_u7 x h0
  refine ⟨?_, by omega⟩
  generalize ((x.toUInt64 >>> ((7 : Int32) &&& 0x3f).toInt64.toUInt64).toInt64) = y at u
  rcases h with ⟨rfl, h⟩ | ⟨rfl, h⟩ | ⟨rfl, h⟩ | ⟨rfl, h⟩ | ⟨rfl, h⟩ | ⟨rfl, h⟩ | ⟨rfl, h⟩ | ⟨rfl, h⟩ | ⟨rfl, h⟩
  · exact Or.inr (Or.inl ⟨by decide, by omega, by omega⟩)
  · exact Or.inr (Or.inr (Or.inl ⟨by decide, by omega, by omega⟩))
  · exact Or.inr (Or.inr (Or.inr (Or.inl ⟨by decide, by omega, by omega⟩)))
  · exact Or.inr (Or.inr (Or.inr (Or.inr (Or.inl ⟨by decide, by omega, by omega⟩))))
  · exact Or.inr (Or.inr (Or.inr (Or.inr (Or.inr (Or.inl ⟨by decide, by omega, by omega⟩)))))
  · exact Or.inr (Or.inr (Or.inr (Or.inr (Or.inr (Or.inr (Or.inl ⟨by decide, by omega, by omega⟩))))))
  · exact Or.inr (Or.inr (Or.inr (Or.inr (Or.inr (Or.inr (Or.inr (Or.inl ⟨by decide, by omega, by omega⟩)))))))
  · exact Or.inr (Or.inr (Or.inr (Or.inr (Or.inr (Or.inr (Or.inr (Or.inr ⟨by decide, by omega, by omega⟩)))))))
  · omega
theorem own_start {p : Int64} (hp : 0 ≤ p.toInt) : own_Inv p (1 : Int32) ((p.toUInt64 >>> ((7 : Int32) &&& 0x3f).toInt64.toUInt64).toInt64) := Or.inl ⟨rfl, own_u7 p hp⟩
theorem own_end {p x : Int64} {k : Int32} (hp : 0 ≤ p.toInt) (h : own_Inv p k x) (hx : x = (0 : Int64)) : refL p = k := by
  have r := rng64 p
  have hx' : x.toInt = 0 := by rw [hx]; rfl
  have k1 : (128 : Int64).toInt = 128 := by decide
  have k2 : (16384 : Int64).toInt = 16384 := by decide
  have k3 : (2097152 : Int64).toInt = 2097152 := by decide
  have k4 : (268435456 : Int64).toInt = 268435456 := by decide
  have k5 : (34359738368 : Int64).toInt = 34359738368 := by decide
  have k6 : (4398046511104 : Int64).toInt = 4398046511104 := by decide
  have k7 : (562949953421312 : Int64).toInt = 562949953421312 := by decide
  have k8 : (72057594037927936 : Int64).toInt = 72057594037927936 := by decide
  unfold refL
  simp only [Int64.lt_iff_toInt_lt, k1, k2, k3, k4, k5, k6, k7, k8]
  rcases h with ⟨rfl, h⟩ | ⟨rfl, h⟩ | ⟨rfl, h⟩ | ⟨rfl, h⟩ | ⟨rfl, h⟩ | ⟨rfl, h⟩ | ⟨rfl, h⟩ | ⟨rfl, h⟩ | ⟨rfl, h⟩
  · rw [if_pos (by omega)]
  · rw [if_neg (by omega), if_pos (by omega)]
  · rw [if_neg (by omega), if_neg (by omega), if_pos (by omega)]
  · rw [if_neg (by omega), if_neg (by omega), if_neg (by omega), if_pos (by omega)]
  · rw [if_neg (by omega), if_neg (by omega), if_neg (by omega), if_neg (by omega), if_pos (by omega)]
  · rw [if_neg (by omega), if_neg (by omega), if_neg (by omega), if_neg (by omega), if_neg (by omega), if_pos (by omega)]
  · rw [if_neg (by omega), if_neg (by omega), if_neg (by omega), if_neg (by omega), if_neg (by omega), if_neg (by omega), if_pos (by omega)]
  · rw [if_neg (by omega), if_neg (by omega), if_neg (by omega), if_neg (by omega), if_neg (by omega), if_neg (by omega), if_neg (by omega), if_pos (by omega)]
  · rw [if_neg (by omega), if_neg (by omega), if_neg (by omega), if_neg (by omega), if_neg (by omega), if_neg (by omega), if_neg (by omega), if_neg (by omega)]
theorem own_nn {p : Int64} (h : ¬ (p < (0 : Int64))) : 0 ≤ p.toInt := by
  rw [Int64.lt_iff_toInt_lt] at h
  have k : (0 : Int64).toInt = 0 := rfl
  omega
theorem pd_0 : parseMethodDescriptor "(J)V" = some ⟨[.long], none⟩ := by decide +kernel
theorem d2_0 : decode prog_19_method_2_code 0 = .ok (.lload_n 0, 1) := by decide +kernel
theorem d2_1 : decode prog_19_method_2_code 1 = .ok (.invokestatic 7, 3) := by decide +kernel
theorem d2_4 : decode prog_19_method_2_code 4 = .ok (.iconst 1, 1) := by decide +kernel
theorem d2_5 : decode prog_19_method_2_code 5 = .ok (.istore_n 2, 1) := by decide +kernel
theorem d2_6 : decode prog_19_method_2_code 6 = .ok (.lload_n 0, 1) := by decide +kernel
theorem d2_7 : decode prog_19_method_2_code 7 = .ok (.bipush 7, 2) := by decide +kernel
theorem d2_9 : decode prog_19_method_2_code 9 = .ok (.lushr, 1) := by decide +kernel
theorem d2_10 : decode prog_19_method_2_code 10 = .ok (.lstore_n 3, 1) := by decide +kernel
theorem d2_11 : decode prog_19_method_2_code 11 = .ok (.lload_n 3, 1) := by decide +kernel
theorem d2_12 : decode prog_19_method_2_code 12 = .ok (.lconst 0, 1) := by decide +kernel
theorem d2_13 : decode prog_19_method_2_code 13 = .ok (.lcmp, 1) := by decide +kernel
theorem d2_14 : decode prog_19_method_2_code 14 = .ok (.ifCond .eq 14, 3) := by decide +kernel
theorem d2_17 : decode prog_19_method_2_code 17 = .ok (.iinc 2 1, 3) := by decide +kernel
theorem d2_20 : decode prog_19_method_2_code 20 = .ok (.lload_n 3, 1) := by decide +kernel
theorem d2_21 : decode prog_19_method_2_code 21 = .ok (.bipush 7, 2) := by decide +kernel
theorem d2_23 : decode prog_19_method_2_code 23 = .ok (.lushr, 1) := by decide +kernel
theorem d2_24 : decode prog_19_method_2_code 24 = .ok (.lstore_n 3, 1) := by decide +kernel
theorem d2_25 : decode prog_19_method_2_code 25 = .ok (.goto (-14), 3) := by decide +kernel
theorem d2_28 : decode prog_19_method_2_code 28 = .ok (.iload_n 2, 1) := by decide +kernel
theorem d2_29 : decode prog_19_method_2_code 29 = .ok (.ireturn, 1) := by decide +kernel
theorem ef_sizeL (m : MethodId) (x0 : Int64) : entryFrame m #[(.long x0)] 5 = mkF m 0 #[.val (.long x0), .second, .unset, .unset, .unset] [] := by first | (simp [entryFrame, mkF, argsToLocals, Value.category]; done) | rfl
def QsizeL (Z : State) (p1 : Int64)  (h0 : Heap) (n0 : Nat) (v : Option Value) (h : Heap) (L : List Loc) : Prop := v = some (.int (refL p1)) ∧ Fr n0 L ∧ h = h0
set_option maxRecDepth 65536 in
set_option maxHeartbeats 40000000 in
theorem rm_sizeL (l : Launch) (Z : State) (a0 : Array Value) (hw : ∀ d ∈ tables_1, d.before a0 Z = true) (ws : List Jvm.Cond) (p1 : Int64)  (h0 : Heap) (n0 : Nat) (Z0 : n0 ≤ h0.size) (hp : ¬ (p1 < (0 : Int64))) :
    MetFree l (⟨"com/example/preamble/preamble/varint/Varint", "size", "(J)I"⟩ : MethodName) (head1 (Jvm.Cond.code (⟨"com/example/preamble/preamble/varint/Varint", "size", "(J)I"⟩ : MethodName) prog_19_method_2_code 5 (some .int) :: ws) ({ frames := 1, cells := 0, slots := 0, locals := 13 } : Room)) (fun A_ U => A_ = #[(.long p1)] ∧ Z.Warmed39 U.vm ∧ U.heap = h0) (fun _ _ _ _ _ => True) (fun _ U o U' => ∃ v L, o = .returned v ∧ QsizeL Z p1 h0 n0 v U'.heap L ∧ FrameEnd U o U' L ({ frames := 1, cells := 0, slots := 0, locals := 13 } : Room).cells ({ frames := 1, cells := 0, slots := 0, locals := 13 } : Room).slots) := by
  refine MetFree.of_bodySF (plainFor_of_name pn_0) hisR ?_
  intro p e s m args below meth c s₁ Bd hml0 hP hK
  obtain ⟨rfl, hZ, hh⟩ := hP
  have hx := Bd.exec
  have hby := Bd.bytes
  have hml : c.maxLocals = 5 := hml0
  have hown : s.vm.findClass "com/example/preamble/preamble/varint/Varint" = some m.cls := findClass_of_methodNamed Bd.named
  have hnm := (name_of_methodNamed Bd.named Bd.method).1
  have X0 : Stand p l e ({ frames := 1, cells := 0, slots := 0, locals := 13 } : Room) s m #[(.long p1)] below meth c s₁ [] 0 0 := Stand.of_body Bd
  have e0 : s₁.heap = h0 := by rw [← hh, Bd.state]; rfl
  have N0 := Fr.nil n0
  suffices HGO : Go p e below s (QsizeL Z p1 h0 n0) ({ frames := 1, cells := 0, slots := 0, locals := 13 } : Room).cells ({ frames := 1, cells := 0, slots := 0, locals := 13 } : Room).slots s₁ (mkF m 0 #[.val (.long p1), .second, .unset, .unset, .unset] []) from Go.cast (ef_sizeL m p1) HGO
  have S11 : ∀ (N_ : Nat) (T : State) (locs : List Loc) (cells slots : Nat) (X : Stand p l e ({ frames := 1, cells := 0, slots := 0, locals := 13 } : Room) s m #[(.long p1)] below meth c T locs cells slots) (hcl : cells ≤ 0) (hsl : slots ≤ 0) (eT : T.heap = h0) (N : Fr n0 locs) (x2 : Int32) (x3 : Int64)  (hi : own_Inv p1 x2 x3) (hN_ : x3.toInt.toNat = N_), Go p e below s (QsizeL Z p1 h0 n0) ({ frames := 1, cells := 0, slots := 0, locals := 13 } : Room).cells ({ frames := 1, cells := 0, slots := 0, locals := 13 } : Room).slots T (mkF m 11 #[.val (.long p1), .second, .val (.int x2), .val (.long x3), .second] []) := by
    intro N_; induction N_ using Nat.strongRecOn with | _ N_ IH => ?_
    intro T locs cells slots X hcl hsl eT N x2 x3 hi hN_
    subst hN_
    refine Go.step (T' := T) (f' := (mkF m 14 #[.val (.long p1), .second, .val (.int x2), .val (.long x3), .second] [(.int (lcmpW x3 (0 : Int64)))])) (fun t kt => ?_) ?_
    · show Steps p.tables e below (T.setTop (mkF m 11 #[.val (.long p1), .second, .val (.int x2), .val (.long x3), .second] [])) _
      refine XS.lloadN X.here hx rfl (hb hby d2_11) rfl ?_
      show Steps p.tables e below (T.setTop (mkF m 12 #[.val (.long p1), .second, .val (.int x2), .val (.long x3), .second] [(.long x3)])) _
      refine XS.lconst X.here hx rfl (hb hby d2_12) ?_
      show Steps p.tables e below (T.setTop (mkF m 13 #[.val (.long p1), .second, .val (.int x2), .val (.long x3), .second] [(.long (0 : Int64)), (.long x3)])) _
      refine XS.lcmp X.here hx rfl (hb hby d2_13) rfl ?_
      exact kt
    by_cases hc1 : x3 = (0 : Int64)
    · have _ := hc1
      refine Go.step (T' := T) (f' := (mkF m 28 #[.val (.long p1), .second, .val (.int x2), .val (.long x3), .second] [])) (fun t kt => ?_) ?_
      · show Steps p.tables e below (T.setTop (mkF m 14 #[.val (.long p1), .second, .val (.int x2), .val (.long x3), .second] [(.int (lcmpW x3 (0 : Int64)))])) _
        refine XS.ifYes X.here hx rfl (pc0 := 14) (pc' := 28) rfl (hb hby d2_14) rfl ((if0 _ _).trans (teq ((lw_eq _ _).mpr hc1)).1) (by decide) (by decide) ?_
        exact kt
      refine Go.step (T' := T) (f' := (mkF m 29 #[.val (.long p1), .second, .val (.int x2), .val (.long x3), .second] [(.int x2)])) (fun t kt => ?_) ?_
      · show Steps p.tables e below (T.setTop (mkF m 28 #[.val (.long p1), .second, .val (.int x2), .val (.long x3), .second] [])) _
        refine XS.iloadN X.here hx rfl (hb hby d2_28) rfl ?_
        exact kt
      refine Go.fin X (v := some (.int x2)) (fun h => by rw [Bd.returns] at h; cases h) Bd.notSynchronized ?_ (Nat.le_trans hcl (by decide)) (Nat.le_trans hsl (by decide)) (fun fs hr => retI X hx Bd.returns (hb hby d2_29) hr)
      · show QsizeL Z p1 h0 n0 _ T.heap _
        exact ⟨by rw [own_end (own_nn hp) hi (by assumption)], N, eT⟩
    · have _ := hc1
      refine Go.step (T' := T) (f' := (mkF m 17 #[.val (.long p1), .second, .val (.int x2), .val (.long x3), .second] [])) (fun t kt => ?_) ?_
      · show Steps p.tables e below (T.setTop (mkF m 14 #[.val (.long p1), .second, .val (.int x2), .val (.long x3), .second] [(.int (lcmpW x3 (0 : Int64)))])) _
        refine XS.ifNo X.here hx rfl (hb hby d2_14) rfl ((if0 _ _).trans (feq (fun q => hc1 ((lw_eq _ _).mp q))).1) ?_
        exact kt
      refine Go.step (T' := T) (f' := (mkF m 11 #[.val (.long p1), .second, .val (.int (x2 + (1 : Int32))), .val (.long ((x3.toUInt64 >>> ((7 : Int32) &&& 0x3f).toInt64.toUInt64).toInt64)), .second] [])) (fun t kt => ?_) ?_
      · show Steps p.tables e below (T.setTop (mkF m 17 #[.val (.long p1), .second, .val (.int x2), .val (.long x3), .second] [])) _
        refine XS.iinc X.here hx rfl (hb hby d2_17) rfl (l' := #[.val (.long p1), .second, .val (.int (x2 + (1 : Int32))), .val (.long x3), .second]) rfl ?_
        show Steps p.tables e below (T.setTop (mkF m 20 #[.val (.long p1), .second, .val (.int (x2 + (1 : Int32))), .val (.long x3), .second] [])) _
        refine XS.lloadN X.here hx rfl (hb hby d2_20) rfl ?_
        show Steps p.tables e below (T.setTop (mkF m 21 #[.val (.long p1), .second, .val (.int (x2 + (1 : Int32))), .val (.long x3), .second] [(.long x3)])) _
        refine XS.bipush X.here hx rfl (hb hby d2_21) ?_
        show Steps p.tables e below (T.setTop (mkF m 23 #[.val (.long p1), .second, .val (.int (x2 + (1 : Int32))), .val (.long x3), .second] [(.int (7 : Int32)), (.long x3)])) _
        refine XS.lushr X.here hx rfl (hb hby d2_23) rfl ?_
        show Steps p.tables e below (T.setTop (mkF m 24 #[.val (.long p1), .second, .val (.int (x2 + (1 : Int32))), .val (.long x3), .second] [(.long ((x3.toUInt64 >>> ((7 : Int32) &&& 0x3f).toInt64.toUInt64).toInt64))])) _
        refine XS.lstoreN X.here hx rfl (hb hby d2_24) rfl (l' := #[.val (.long p1), .second, .val (.int (x2 + (1 : Int32))), .val (.long ((x3.toUInt64 >>> ((7 : Int32) &&& 0x3f).toInt64.toUInt64).toInt64)), .second]) rfl ?_
        show Steps p.tables e below (T.setTop (mkF m 25 #[.val (.long p1), .second, .val (.int (x2 + (1 : Int32))), .val (.long ((x3.toUInt64 >>> ((7 : Int32) &&& 0x3f).toInt64.toUInt64).toInt64)), .second] [])) _
        refine XS.goto X.here hx rfl (pc0 := 25) (pc' := 11) rfl (hb hby d2_25) (by decide) (by decide) ?_
        exact kt
      exact IH _ ((own_step (own_nn hp) hi (by assumption)).2) _ _ _ _ X (Nat.le_trans hcl (by decide)) (Nat.le_trans hsl (by decide)) eT N (x2 + (1 : Int32)) ((x3.toUInt64 >>> ((7 : Int32) &&& 0x3f).toInt64.toUInt64).toInt64) (own_step (own_nn hp) hi (by assumption)).1 rfl
  obtain ⟨_, _, ⟨T2, L2, k2, n2⟩, -, X2, ⟨Lc2, hQ2, l2, y2, z2⟩, st2⟩ := Jvm.LawKit.callS X0 hx (y := (⟨"com/example/preamble/preamble/varint/Varint", "requireUnsigned", "(J)V"⟩ : MethodName)) hown (mvT hZ (hw _ (List.mem_of_getElem? (i := 9) rfl))) (mvT hZ (hw _ (List.mem_of_getElem? (i := 10) rfl))) (mvT hZ (hw _ (List.mem_of_getElem? (i := 4) rfl))) (mvT hZ (hw _ (List.mem_of_getElem? (i := 11) rfl))) (by decide) (backOf (W := 0) (rm_reqU l Z a0 hw [] p1  h0 n0 Z0 hp) hZ (hw _ (List.mem_of_getElem? (i := 11) rfl)) (hw _ (List.mem_of_getElem? (i := 4) rfl)) (by decide) (by decide)) (g := (mkF m 1 #[.val (.long p1), .second, .unset, .unset, .unset] [(.long p1)])) rfl (by rw [hml]; rfl) (argsL := [(.long p1)]) (rest := []) (lenOf pd_0 rfl) rfl (by show 2 * 0 + _ ≤ _; exact Nat.le_of_eq rfl) (hb hby d2_1) (fun _ _ => ⟨rfl, e0, (Nat.le_trans (Nat.add_le_add_right (Nat.le_refl 0) 0) (by decide)), (Nat.le_trans (Nat.add_le_add_right (Nat.le_refl 0) 0) (by decide))⟩)
  dsimp only [Pt.U, Pt.locs, Pt.cells, Pt.slots] at X2 l2 y2 z2 st2 hQ2
  subst l2 y2 z2
  obtain ⟨rfl, N2q, e2⟩ := hQ2
  have N2 := Fr.app N0 N2q
  refine Go.step (T' := T2) (f' := (mkF m 11 #[.val (.long p1), .second, .val (.int (1 : Int32)), .val (.long ((p1.toUInt64 >>> ((7 : Int32) &&& 0x3f).toInt64.toUInt64).toInt64)), .second] [])) (fun t kt => ?_) ?_
  · show Steps p.tables e below (s₁.setTop (mkF m 0 #[.val (.long p1), .second, .unset, .unset, .unset] [])) _
    refine XS.lloadN X0.here hx rfl (hb hby d2_0) rfl ?_
    show Steps p.tables e below (s₁.setTop (mkF m 1 #[.val (.long p1), .second, .unset, .unset, .unset] [(.long p1)])) _
    refine st2 _ ?_
    show Steps p.tables e below (T2.setTop (mkF m 4 #[.val (.long p1), .second, .unset, .unset, .unset] [])) _
    refine XS.iconst X2.here hx rfl (hb hby d2_4) ?_
    show Steps p.tables e below (T2.setTop (mkF m 5 #[.val (.long p1), .second, .unset, .unset, .unset] [(.int (1 : Int32))])) _
    refine XS.istoreN X2.here hx rfl (hb hby d2_5) rfl (l' := #[.val (.long p1), .second, .val (.int (1 : Int32)), .unset, .unset]) rfl ?_
    show Steps p.tables e below (T2.setTop (mkF m 6 #[.val (.long p1), .second, .val (.int (1 : Int32)), .unset, .unset] [])) _
    refine XS.lloadN X2.here hx rfl (hb hby d2_6) rfl ?_
    show Steps p.tables e below (T2.setTop (mkF m 7 #[.val (.long p1), .second, .val (.int (1 : Int32)), .unset, .unset] [(.long p1)])) _
    refine XS.bipush X2.here hx rfl (hb hby d2_7) ?_
    show Steps p.tables e below (T2.setTop (mkF m 9 #[.val (.long p1), .second, .val (.int (1 : Int32)), .unset, .unset] [(.int (7 : Int32)), (.long p1)])) _
    refine XS.lushr X2.here hx rfl (hb hby d2_9) rfl ?_
    show Steps p.tables e below (T2.setTop (mkF m 10 #[.val (.long p1), .second, .val (.int (1 : Int32)), .unset, .unset] [(.long ((p1.toUInt64 >>> ((7 : Int32) &&& 0x3f).toInt64.toUInt64).toInt64))])) _
    refine XS.lstoreN X2.here hx rfl (hb hby d2_10) rfl (l' := #[.val (.long p1), .second, .val (.int (1 : Int32)), .val (.long ((p1.toUInt64 >>> ((7 : Int32) &&& 0x3f).toInt64.toUInt64).toInt64)), .second]) rfl ?_
    exact kt
  exact S11 _ _ _ _ _ X2 (Nat.le_trans (Nat.add_le_add_right (Nat.le_refl 0) 0) (by decide)) (Nat.le_trans (Nat.add_le_add_right (Nat.le_refl 0) 0) (by decide)) e2 N2 (1 : Int32) ((p1.toUInt64 >>> ((7 : Int32) &&& 0x3f).toInt64.toUInt64).toInt64) (own_start (own_nn hp)) rfl
def own_sh (v : Int64) (i : Int32) : Int64 := ((v.toUInt64 >>> (((7 : Int32) * i) &&& 0x3f).toInt64.toUInt64).toInt64)
def own_w (v : Int64) (n i : Int32) : Int32 := (if i < n - (1 : Int32) then (((own_sh v i) &&& (127 : Int64)).toInt32) ||| (128 : Int32) else (((own_sh v i) &&& (127 : Int64)).toInt32)).toInt8.toInt32
def own_E (p : Int64) (x : Int64) (i : Int32) (el : List Int32) : Prop := 0 ≤ i.toInt ∧ i.toInt < (refL p).toInt ∧ x = own_sh p i ∧ (el.length : Int) = (refL p).toInt ∧ ∀ j : Nat, (j : Int) < i.toInt → el.getD j 0 = own_w p (refL p) (Int32.ofNat j)
def own_O (p : Int64) (el : List Int32) : Prop := (el.length : Int) = (refL p).toInt ∧ ∀ j : Nat, j < el.length → el.getD j 0 = own_w p (refL p) (Int32.ofNat j)
theorem own_rl (p : Int64) : 1 ≤ (refL p).toInt ∧ (refL p).toInt ≤ 9 := by
  unfold refL
  repeat' split
  all_goals decide
theorem own_sh0 (p : Int64) : own_sh p 0 = p := by
  show ((p.toUInt64 >>> (0 : UInt64)).toInt64) = p
  simp
theorem own_shI (p : Int64) (hp : 0 ≤ p.toInt) (k : Fin 9) : (own_sh p (Int32.ofNat k.val)).toInt = p.toInt / 2 ^ (7 * k.val) := by
  have r := rng64 p
  have e : p.toInt % 18446744073709551616 = p.toInt := Int.emod_eq_of_lt hp (by omega)
  match k with
  | 0 => show (own_sh p 0).toInt = _; rw [own_sh0]; simp
  | 1 => have q := c_lushr p (7 * (1 : Int32)) 7 (by decide) (by decide); rw [e] at q; exact q
  | 2 => have q := c_lushr p (7 * (2 : Int32)) 14 (by decide) (by decide); rw [e] at q; exact q
  | 3 => have q := c_lushr p (7 * (3 : Int32)) 21 (by decide) (by decide); rw [e] at q; exact q
  | 4 => have q := c_lushr p (7 * (4 : Int32)) 28 (by decide) (by decide); rw [e] at q; exact q
  | 5 => have q := c_lushr p (7 * (5 : Int32)) 35 (by decide) (by decide); rw [e] at q; exact q
  | 6 => have q := c_lushr p (7 * (6 : Int32)) 42 (by decide) (by decide); rw [e] at q; exact q
  | 7 => have q := c_lushr p (7 * (7 : Int32)) 49 (by decide) (by decide); rw [e] at q; exact q
  | 8 => have q := c_lushr p (7 * (8 : Int32)) 56 (by decide) (by decide); rw [e] at q; exact q
theorem own_shS (p : Int64) (hp : 0 ≤ p.toInt) (i : Int32) (h0 : 0 ≤ i.toInt) (h8 : i.toInt < 8) : ((own_sh p i).toUInt64 >>> ((7 : Int32) &&& 0x3f).toInt64.toUInt64).toInt64 = own_sh p (i + (1 : Int32)) := by
  obtain ⟨k, rfl⟩ := own_fin (n := 8) h0 h8 (by decide)
  have q1 := own_shI p hp ⟨k.val, by omega⟩
  have q2 := own_shI p hp ⟨k.val + 1, by omega⟩
  have key : ∀ k : Fin 8, Int32.ofNat k.val + 1 = Int32.ofNat (k.val + 1) := by decide
  have pos : 0 ≤ (own_sh p (Int32.ofNat k.val)).toInt := by rw [q1]; exact Int.ediv_nonneg hp (Int.pow_nonneg (by decide))
  apply Int64.toInt_inj.mp
  rw [own_u7 _ pos, q1, key, q2]
  have e : 7 * (k.val + 1) = 7 * k.val + 7 := by omega
  rw [e, Int.pow_add, Int.ediv_ediv_of_nonneg (Int.pow_nonneg (by decide))]
  rfl
theorem own_nar (y : Int32) : nar .byte (y.toInt8.toInt32) = y.toInt8.toInt32 := by
  apply Int32.toInt_inj.mp
  show ((y.toInt8.toInt32).toInt8.toInt32).toInt = _
  have := c_i2b y; have := c_i2b (y.toInt8.toInt32); omega
theorem own_by1 (x : Int64) : ((x ||| (128 : Int64)).toInt32).toInt8.toInt32 = (((x &&& (127 : Int64)).toInt32) ||| (128 : Int32)).toInt8.toInt32 := by
  have e : ((x ||| (128 : Int64)).toInt32).toInt8 = (((x &&& (127 : Int64)).toInt32) ||| (128 : Int32)).toInt8 := by
    apply Int8.toBitVec_inj.mp
    show ((x.toBitVec ||| 128#64).signExtend 32).signExtend 8 = (((x.toBitVec &&& 127#64).signExtend 32) ||| 128#32).signExtend 8
    apply BitVec.eq_of_getLsbD_eq
    intro i hi
    simp only [BitVec.getLsbD_signExtend, BitVec.getLsbD_or, BitVec.getLsbD_and]
    have : i = 0 ∨ i = 1 ∨ i = 2 ∨ i = 3 ∨ i = 4 ∨ i = 5 ∨ i = 6 ∨ i = 7 := by omega
    rcases this with rfl | rfl | rfl | rfl | rfl | rfl | rfl | rfl <;> simp
  rw [e]
theorem own_by2 (x : Int64) : (x.toInt32).toInt8.toInt32.toInt % 128 = ((x &&& (127 : Int64)).toInt32).toInt % 128 := by
  have a := c_i2b x.toInt32
  have b := c_l2i x
  have c := c_maskL x 127 7 (by decide) (by decide)
  have d := c_l2i (x &&& 127)
  have r := rng32 (x &&& 127).toInt32
  omega
theorem own_by3 (x : Int64) (h0 : 0 ≤ x.toInt) (h1 : x.toInt < 128) : (x.toInt32).toInt8.toInt32 = ((x &&& (127 : Int64)).toInt32).toInt8.toInt32 := by
  have c := c_maskL x 127 7 (by decide) (by decide)
  have : x &&& 127 = x := Int64.toInt_inj.mp (by rw [c]; omega)
  rw [this]
theorem own_E0 {p : Int64} : own_E p p (0 : Int32) (List.replicate (refL p).toInt.toNat (0 : Int32)) := by
  have r := own_rl p
  have k0 : (0 : Int32).toInt = 0 := rfl
  exact ⟨by decide, by omega, (own_sh0 p).symm, by rw [List.length_replicate]; omega, fun j hj => by omega⟩
theorem own_ofN {i : Int32} (h0 : 0 ≤ i.toInt) : Int32.ofNat i.toNatClampNeg = i := by
  have := own_nat h0
  have r := rng32 i
  apply Int32.toInt_inj.mp
  have q : (i.toNatClampNeg).toInt32.toInt = i.toNatClampNeg := len_toInt (by omega)
  show (i.toNatClampNeg).toInt32.toInt = _
  omega
theorem own_m1 {p : Int64} : ((refL p) - (1 : Int32)).toInt = (refL p).toInt - 1 := by
  have r := own_rl p
  have k1 : (1 : Int32).toInt = 1 := rfl
  rw [own_sub (by omega) (by omega), k1]
theorem own_ES {p x : Int64} {i : Int32} {el : List Int32} (hp : 0 ≤ p.toInt) (h : own_E p x i el) (hc : i < (refL p) - (1 : Int32)) : own_E p ((x.toUInt64 >>> ((7 : Int32) &&& 0x3f).toInt64.toUInt64).toInt64) (i + (1 : Int32)) (el.set i.toNatClampNeg (nar .byte (((x ||| (128 : Int64)).toInt32).toInt8.toInt32))) ∧ ((refL p).toInt - (i + (1 : Int32)).toInt).toNat < ((refL p).toInt - i.toInt).toNat := by
  have r := own_rl p
  obtain ⟨h0, h1, rfl, h3, h4⟩ := h
  have k1 : (1 : Int32).toInt = 1 := rfl
  have hc' := hc
  rw [Int32.lt_iff_toInt_lt, own_m1] at hc'
  have e : (i + (1 : Int32)).toInt = i.toInt + 1 := by rw [own_add (by omega) (by omega), k1]
  have hn := own_nat h0
  refine ⟨⟨by omega, by omega, own_shS p hp i h0 (by omega), by rw [List.length_set]; exact h3, fun j hj => ?_⟩, by omega⟩
  by_cases g : j = i.toNatClampNeg
  · subst g
    rw [List.getD_eq_getElem?_getD, List.getElem?_set_self (by omega), Option.getD_some, own_nar, own_by1]
    unfold own_w
    rw [own_ofN h0, if_pos hc]
  · rw [List.getD_eq_getElem?_getD, List.getElem?_set_ne (by omega), ← List.getD_eq_getElem?_getD]
    exact h4 j (by omega)
theorem own_lt {p : Int64} (hp : 0 ≤ p.toInt) : (own_sh p ((refL p) - (1 : Int32))).toInt < 128 ∧ 0 ≤ (own_sh p ((refL p) - (1 : Int32))).toInt := by
  have r := rng64 p
  have k1 : (128 : Int64).toInt = 128 := by decide
  have k2 : (16384 : Int64).toInt = 16384 := by decide
  have k3 : (2097152 : Int64).toInt = 2097152 := by decide
  have k4 : (268435456 : Int64).toInt = 268435456 := by decide
  have k5 : (34359738368 : Int64).toInt = 34359738368 := by decide
  have k6 : (4398046511104 : Int64).toInt = 4398046511104 := by decide
  have k7 : (562949953421312 : Int64).toInt = 562949953421312 := by decide
  have k8 : (72057594037927936 : Int64).toInt = 72057594037927936 := by decide
  unfold refL
  simp only [Int64.lt_iff_toInt_lt, k1, k2, k3, k4, k5, k6, k7, k8]
  split
  · have q := own_shI p hp 0; have e : (1 : Int32) - (1 : Int32) = Int32.ofNat (0 : Fin 9).val := by decide
    rw [e, q]; show p.toInt / 1 < 128 ∧ 0 ≤ p.toInt / 1; omega
  split
  · have q := own_shI p hp 1; have e : (2 : Int32) - (1 : Int32) = Int32.ofNat (1 : Fin 9).val := by decide
    rw [e, q]; show p.toInt / 128 < 128 ∧ 0 ≤ p.toInt / 128; omega
  split
  · have q := own_shI p hp 2; have e : (3 : Int32) - (1 : Int32) = Int32.ofNat (2 : Fin 9).val := by decide
    rw [e, q]; show p.toInt / 16384 < 128 ∧ 0 ≤ p.toInt / 16384; omega
  split
  · have q := own_shI p hp 3; have e : (4 : Int32) - (1 : Int32) = Int32.ofNat (3 : Fin 9).val := by decide
    rw [e, q]; show p.toInt / 2097152 < 128 ∧ 0 ≤ p.toInt / 2097152; omega
  split
  · have q := own_shI p hp 4; have e : (5 : Int32) - (1 : Int32) = Int32.ofNat (4 : Fin 9).val := by decide
    rw [e, q]; show p.toInt / 268435456 < 128 ∧ 0 ≤ p.toInt / 268435456; omega
  split
  · have q := own_shI p hp 5; have e : (6 : Int32) - (1 : Int32) = Int32.ofNat (5 : Fin 9).val := by decide
    rw [e, q]; show p.toInt / 34359738368 < 128 ∧ 0 ≤ p.toInt / 34359738368; omega
  split
  · have q := own_shI p hp 6; have e : (7 : Int32) - (1 : Int32) = Int32.ofNat (6 : Fin 9).val := by decide
    rw [e, q]; show p.toInt / 4398046511104 < 128 ∧ 0 ≤ p.toInt / 4398046511104; omega
  split
  · have q := own_shI p hp 7; have e : (8 : Int32) - (1 : Int32) = Int32.ofNat (7 : Fin 9).val := by decide
    rw [e, q]; show p.toInt / 562949953421312 < 128 ∧ 0 ≤ p.toInt / 562949953421312; omega
  · have q := own_shI p hp 8; have e : (9 : Int32) - (1 : Int32) = Int32.ofNat (8 : Fin 9).val := by decide
    rw [e, q]; show p.toInt / 72057594037927936 < 128 ∧ 0 ≤ p.toInt / 72057594037927936; omega
theorem own_EE {p x : Int64} {i : Int32} {el : List Int32} (hp : 0 ≤ p.toInt) (h : own_E p x i el) (hc : ¬ i < (refL p) - (1 : Int32)) : own_O p (el.set ((refL p) - (1 : Int32)).toNatClampNeg (nar .byte ((x.toInt32).toInt8.toInt32))) := by
  have r := own_rl p
  obtain ⟨h0, h1, rfl, h3, h4⟩ := h
  have hc' := hc
  rw [Int32.lt_iff_toInt_lt, own_m1] at hc'
  have ei : i = (refL p) - (1 : Int32) := Int32.toInt_inj.mp (by rw [own_m1]; omega)
  subst ei
  have hn := own_nat h0
  have lt := own_lt hp
  refine ⟨by rw [List.length_set]; exact h3, fun j hj => ?_⟩
  rw [List.length_set] at hj
  by_cases g : j = ((refL p) - (1 : Int32)).toNatClampNeg
  · subst g
    rw [List.getD_eq_getElem?_getD, List.getElem?_set_self (by omega), Option.getD_some, own_nar, own_by3 _ lt.2 lt.1]
    unfold own_w
    rw [own_ofN h0, if_neg hc]
  · rw [List.getD_eq_getElem?_getD, List.getElem?_set_ne (by omega), ← List.getD_eq_getElem?_getD]
    exact h4 j (by omega)
theorem own_ixl {p x : Int64} {i : Int32} {el : List Int32} (h : own_E p x i el) : 0 ≤ ((refL p) - (1 : Int32)).toInt ∧ ((refL p) - (1 : Int32)).toInt < (el.length : Int) := by
  have r := own_rl p
  have k1 : (1 : Int32).toInt = 1 := rfl
  rw [own_sub (by omega) (by omega), h.2.2.2.1, k1]; omega
theorem own_il {k n : Int32} {l : List Int32} (h0 : 0 ≤ k.toInt) (h : k < n) (hl : (l.length : Int) = n.toInt) : 0 ≤ k.toInt ∧ k.toInt < (l.length : Int) := ⟨h0, by rw [hl]; exact Int32.lt_iff_toInt_lt.mp h⟩
theorem pd_1 : parseMethodDescriptor "(J)I" = some ⟨[.long], some .int⟩ := by decide +kernel
theorem d1_0 : decode prog_19_method_3_code 0 = .ok (.lload_n 0, 1) := by decide +kernel
theorem d1_1 : decode prog_19_method_3_code 1 = .ok (.invokestatic 13, 3) := by decide +kernel
theorem d1_4 : decode prog_19_method_3_code 4 = .ok (.newarray .byte, 2) := by decide +kernel
theorem d1_6 : decode prog_19_method_3_code 6 = .ok (.astore_n 2, 1) := by decide +kernel
theorem d1_7 : decode prog_19_method_3_code 7 = .ok (.lload_n 0, 1) := by decide +kernel
theorem d1_8 : decode prog_19_method_3_code 8 = .ok (.lstore_n 3, 1) := by decide +kernel
theorem d1_9 : decode prog_19_method_3_code 9 = .ok (.iconst 0, 1) := by decide +kernel
theorem d1_10 : decode prog_19_method_3_code 10 = .ok (.istore 5, 2) := by decide +kernel
theorem d1_12 : decode prog_19_method_3_code 12 = .ok (.iload 5, 2) := by decide +kernel
theorem d1_14 : decode prog_19_method_3_code 14 = .ok (.aload_n 2, 1) := by decide +kernel
theorem d1_15 : decode prog_19_method_3_code 15 = .ok (.arraylength, 1) := by decide +kernel
theorem d1_16 : decode prog_19_method_3_code 16 = .ok (.iconst 1, 1) := by decide +kernel
theorem d1_17 : decode prog_19_method_3_code 17 = .ok (.isub, 1) := by decide +kernel
theorem d1_18 : decode prog_19_method_3_code 18 = .ok (.if_icmp .ge 25, 3) := by decide +kernel
theorem d1_21 : decode prog_19_method_3_code 21 = .ok (.aload_n 2, 1) := by decide +kernel
theorem d1_22 : decode prog_19_method_3_code 22 = .ok (.iload 5, 2) := by decide +kernel
theorem d1_24 : decode prog_19_method_3_code 24 = .ok (.lload_n 3, 1) := by decide +kernel
theorem d1_25 : decode prog_19_method_3_code 25 = .ok (.ldc2_w 17, 3) := by decide +kernel
theorem d1_28 : decode prog_19_method_3_code 28 = .ok (.lor, 1) := by decide +kernel
theorem d1_29 : decode prog_19_method_3_code 29 = .ok (.l2i, 1) := by decide +kernel
theorem d1_30 : decode prog_19_method_3_code 30 = .ok (.i2b, 1) := by decide +kernel
theorem d1_31 : decode prog_19_method_3_code 31 = .ok (.bastore, 1) := by decide +kernel
theorem d1_32 : decode prog_19_method_3_code 32 = .ok (.lload_n 3, 1) := by decide +kernel
theorem d1_33 : decode prog_19_method_3_code 33 = .ok (.bipush 7, 2) := by decide +kernel
theorem d1_35 : decode prog_19_method_3_code 35 = .ok (.lushr, 1) := by decide +kernel
theorem d1_36 : decode prog_19_method_3_code 36 = .ok (.lstore_n 3, 1) := by decide +kernel
theorem d1_37 : decode prog_19_method_3_code 37 = .ok (.iinc 5 1, 3) := by decide +kernel
theorem d1_40 : decode prog_19_method_3_code 40 = .ok (.goto (-28), 3) := by decide +kernel
theorem d1_43 : decode prog_19_method_3_code 43 = .ok (.aload_n 2, 1) := by decide +kernel
theorem d1_44 : decode prog_19_method_3_code 44 = .ok (.aload_n 2, 1) := by decide +kernel
theorem d1_45 : decode prog_19_method_3_code 45 = .ok (.arraylength, 1) := by decide +kernel
theorem d1_46 : decode prog_19_method_3_code 46 = .ok (.iconst 1, 1) := by decide +kernel
theorem d1_47 : decode prog_19_method_3_code 47 = .ok (.isub, 1) := by decide +kernel
theorem d1_48 : decode prog_19_method_3_code 48 = .ok (.lload_n 3, 1) := by decide +kernel
theorem d1_49 : decode prog_19_method_3_code 49 = .ok (.l2i, 1) := by decide +kernel
theorem d1_50 : decode prog_19_method_3_code 50 = .ok (.i2b, 1) := by decide +kernel
theorem d1_51 : decode prog_19_method_3_code 51 = .ok (.bastore, 1) := by decide +kernel
theorem d1_52 : decode prog_19_method_3_code 52 = .ok (.aload_n 2, 1) := by decide +kernel
theorem d1_53 : decode prog_19_method_3_code 53 = .ok (.areturn, 1) := by decide +kernel
theorem ef_encF (m : MethodId) (x0 : Int64) : entryFrame m #[(.long x0)] 6 = mkF m 0 #[.val (.long x0), .second, .unset, .unset, .unset, .unset] [] := by first | (simp [entryFrame, mkF, argsToLocals, Value.category]; done) | rfl
def QencF (Z : State) (p1 : Int64)  (h0 : Heap) (n0 : Nat) (v : Option Value) (h : Heap) (L : List Loc) : Prop := ∃ (b : Addr), ∃ (el : List Int32), v = some (.ref b) ∧ Fr n0 L ∧ Keep h0 h [] ∧ h0.size ≤ b ∧ VA Z h b .byte (el.map Value.int) ∧ (own_O p1 el)
set_option maxRecDepth 65536 in
set_option maxHeartbeats 40000000 in
theorem rm_encF (l : Launch) (Z : State) (a0 : Array Value) (hw : ∀ d ∈ tables_1, d.before a0 Z = true) (ws : List Jvm.Cond) (p1 : Int64)  (h0 : Heap) (n0 : Nat) (Z0 : n0 ≤ h0.size) (hp : ¬ (p1 < (0 : Int64))) :
    MetFree l (⟨"com/example/preamble/preamble/varint/Varint", "encode", "(J)[B"⟩ : MethodName) (head1 (Jvm.Cond.code (⟨"com/example/preamble/preamble/varint/Varint", "encode", "(J)[B"⟩ : MethodName) prog_19_method_3_code 6 (some (.array .byte)) :: ws) ({ frames := 2, cells := 1, slots := 9, locals := 29 } : Room)) (fun A_ U => A_ = #[(.long p1)] ∧ Z.Warmed39 U.vm ∧ U.heap = h0) (fun _ _ _ _ _ => True) (fun _ U o U' => ∃ v L, o = .returned v ∧ QencF Z p1 h0 n0 v U'.heap L ∧ FrameEnd U o U' L ({ frames := 2, cells := 1, slots := 9, locals := 29 } : Room).cells ({ frames := 2, cells := 1, slots := 9, locals := 29 } : Room).slots) := by
  refine MetFree.of_bodySF (plainFor_of_name pn_0) hisR ?_
  intro p e s m args below meth c s₁ Bd hml0 hP hK
  obtain ⟨rfl, hZ, hh⟩ := hP
  have hx := Bd.exec
  have hby := Bd.bytes
  have hml : c.maxLocals = 6 := hml0
  have hown : s.vm.findClass "com/example/preamble/preamble/varint/Varint" = some m.cls := findClass_of_methodNamed Bd.named
  have hnm := (name_of_methodNamed Bd.named Bd.method).1
  have X0 : Stand p l e ({ frames := 2, cells := 1, slots := 9, locals := 29 } : Room) s m #[(.long p1)] below meth c s₁ [] 0 0 := Stand.of_body Bd
  have e0 : s₁.heap = h0 := by rw [← hh, Bd.state]; rfl
  have N0 := Fr.nil n0
  suffices HGO : Go p e below s (QencF Z p1 h0 n0) ({ frames := 2, cells := 1, slots := 9, locals := 29 } : Room).cells ({ frames := 2, cells := 1, slots := 9, locals := 29 } : Room).slots s₁ (mkF m 0 #[.val (.long p1), .second, .unset, .unset, .unset, .unset] []) from Go.cast (ef_encF m p1) HGO
  have S12 : ∀ (N_ : Nat) (T : State) (locs : List Loc) (cells slots : Nat) (X : Stand p l e ({ frames := 2, cells := 1, slots := 9, locals := 29 } : Room) s m #[(.long p1)] below meth c T locs cells slots) (hcl : cells ≤ 1) (hsl : slots ≤ 9) (h : Heap) (eT : T.heap = h) (N : Fr n0 locs) (x3 : Int64) (x5 : Int32)  (b2 : Addr) (el : List Int32) (K : Keep h0 h []) (fc0 : VA Z h b2 .byte (el.map Value.int)) (g_b2 : n0 ≤ b2) (sz_b2 : h0.size ≤ b2) (hi : own_E p1 x3 x5 el) (hN_ : ((refL p1).toInt - x5.toInt).toNat = N_), Go p e below s (QencF Z p1 h0 n0) ({ frames := 2, cells := 1, slots := 9, locals := 29 } : Room).cells ({ frames := 2, cells := 1, slots := 9, locals := 29 } : Room).slots T (mkF m 12 #[.val (.long p1), .second, .val (.ref b2), .val (.long x3), .second, .val (.int x5)] []) := by
    intro N_; induction N_ using Nat.strongRecOn with | _ N_ IH => ?_
    intro T locs cells slots X hcl hsl h eT N x3 x5 b2 el K fc0 g_b2 sz_b2 hi hN_
    subst hN_
    have Zh : n0 ≤ h.size := Nat.le_trans Z0 K.1
    have ln1 : ((el.map Value.int).length : Int) = ((refL p1)).toInt := (by rw [List.length_map]; exact hi.2.2.2.1)
    refine Go.step (T' := T) (f' := (mkF m 18 #[.val (.long p1), .second, .val (.ref b2), .val (.long x3), .second, .val (.int x5)] [(.int ((refL p1) - (1 : Int32))), (.int x5)])) (fun t kt => ?_) ?_
    · show Steps p.tables e below (T.setTop (mkF m 12 #[.val (.long p1), .second, .val (.ref b2), .val (.long x3), .second, .val (.int x5)] [])) _
      refine XS.iload X.here hx rfl (hb hby d1_12) rfl ?_
      show Steps p.tables e below (T.setTop (mkF m 14 #[.val (.long p1), .second, .val (.ref b2), .val (.long x3), .second, .val (.int x5)] [(.int x5)])) _
      refine XS.aloadN X.here hx rfl (hb hby d1_14) rfl rfl ?_
      show Steps p.tables e below (T.setTop (mkF m 15 #[.val (.long p1), .second, .val (.ref b2), .val (.long x3), .second, .val (.int x5)] [(.ref b2), (.int x5)])) _
      refine lenA X hx hZ eT fc0 (n := (refL p1)) ln1 (g := (mkF m 15 #[.val (.long p1), .second, .val (.ref b2), .val (.long x3), .second, .val (.int x5)] [(.ref b2), (.int x5)])) rfl rfl (hb hby d1_15) _ ?_
      show Steps p.tables e below (T.setTop (mkF m 16 #[.val (.long p1), .second, .val (.ref b2), .val (.long x3), .second, .val (.int x5)] [(.int (refL p1)), (.int x5)])) _
      refine XS.iconst X.here hx rfl (hb hby d1_16) ?_
      show Steps p.tables e below (T.setTop (mkF m 17 #[.val (.long p1), .second, .val (.ref b2), .val (.long x3), .second, .val (.int x5)] [(.int (1 : Int32)), (.int (refL p1)), (.int x5)])) _
      refine XS.isub X.here hx rfl (hb hby d1_17) rfl ?_
      exact kt
    by_cases hc2 : x5 < ((refL p1) - (1 : Int32))
    · have _ := hc2
      refine Go.step (T' := T) (f' := (mkF m 21 #[.val (.long p1), .second, .val (.ref b2), .val (.long x3), .second, .val (.int x5)] [])) (fun t kt => ?_) ?_
      · show Steps p.tables e below (T.setTop (mkF m 18 #[.val (.long p1), .second, .val (.ref b2), .val (.long x3), .second, .val (.int x5)] [(.int ((refL p1) - (1 : Int32))), (.int x5)])) _
        refine XS.icmpNo X.here hx rfl (hb hby d1_18) rfl (tlt hc2).2.1 ?_
        exact kt
      have ix3 : 0 ≤ (x5).toInt ∧ (x5).toInt < ((el).length : Int) := ⟨hi.1, by have := hi.2.1; have := hi.2.2.2.1; omega⟩
      obtain ⟨T4, h4, X4, e4, W4, V4, st4⟩ := putB X hx hZ eT fc0 ix3.1 ix3.2 (g := (mkF m 31 #[.val (.long p1), .second, .val (.ref b2), .val (.long x3), .second, .val (.int x5)] [(.int (((x3 ||| (128 : Int64)).toInt32).toInt8.toInt32)), (.int x5), (.ref b2)])) rfl rfl (hb hby d1_31)
      have G5 : VA Z h4 b2 .byte ((el.set x5.toNatClampNeg (nar .byte (((x3 ||| (128 : Int64)).toInt32).toInt8.toInt32))).map Value.int) := V4
      have N4 := Fr.snoc X4 N g_b2
      have K4 : Keep h0 h4 [] := Keep.wr K W4 (Or.inr sz_b2)
      have Z4 : n0 ≤ h4.size := Nat.le_trans Z0 K4.1
      refine Go.step (T' := T4) (f' := (mkF m 12 #[.val (.long p1), .second, .val (.ref b2), .val (.long ((x3.toUInt64 >>> ((7 : Int32) &&& 0x3f).toInt64.toUInt64).toInt64)), .second, .val (.int (x5 + (1 : Int32)))] [])) (fun t kt => ?_) ?_
      · show Steps p.tables e below (T.setTop (mkF m 21 #[.val (.long p1), .second, .val (.ref b2), .val (.long x3), .second, .val (.int x5)] [])) _
        refine XS.aloadN X.here hx rfl (hb hby d1_21) rfl rfl ?_
        show Steps p.tables e below (T.setTop (mkF m 22 #[.val (.long p1), .second, .val (.ref b2), .val (.long x3), .second, .val (.int x5)] [(.ref b2)])) _
        refine XS.iload X.here hx rfl (hb hby d1_22) rfl ?_
        show Steps p.tables e below (T.setTop (mkF m 24 #[.val (.long p1), .second, .val (.ref b2), .val (.long x3), .second, .val (.int x5)] [(.int x5), (.ref b2)])) _
        refine XS.lloadN X.here hx rfl (hb hby d1_24) rfl ?_
        show Steps p.tables e below (T.setTop (mkF m 25 #[.val (.long p1), .second, .val (.ref b2), .val (.long x3), .second, .val (.int x5)] [(.long x3), (.int x5), (.ref b2)])) _
        refine X.ldc2Long hx hown (mvT hZ (hw _ (List.mem_of_getElem? (i := 22) rfl))) (g := (mkF m 25 #[.val (.long p1), .second, .val (.ref b2), .val (.long x3), .second, .val (.int x5)] [(.long x3), (.int x5), (.ref b2)])) rfl (hb hby d1_25) _ ?_
        show Steps p.tables e below (T.setTop (mkF m 28 #[.val (.long p1), .second, .val (.ref b2), .val (.long x3), .second, .val (.int x5)] [(.long (128 : Int64)), (.long x3), (.int x5), (.ref b2)])) _
        refine XS.lor X.here hx rfl (hb hby d1_28) rfl ?_
        show Steps p.tables e below (T.setTop (mkF m 29 #[.val (.long p1), .second, .val (.ref b2), .val (.long x3), .second, .val (.int x5)] [(.long (x3 ||| (128 : Int64))), (.int x5), (.ref b2)])) _
        refine XS.l2i X.here hx rfl (hb hby d1_29) rfl ?_
        show Steps p.tables e below (T.setTop (mkF m 30 #[.val (.long p1), .second, .val (.ref b2), .val (.long x3), .second, .val (.int x5)] [(.int ((x3 ||| (128 : Int64)).toInt32)), (.int x5), (.ref b2)])) _
        refine XS.i2b X.here hx rfl (hb hby d1_30) rfl ?_
        show Steps p.tables e below (T.setTop (mkF m 31 #[.val (.long p1), .second, .val (.ref b2), .val (.long x3), .second, .val (.int x5)] [(.int (((x3 ||| (128 : Int64)).toInt32).toInt8.toInt32)), (.int x5), (.ref b2)])) _
        refine st4 _ ?_
        show Steps p.tables e below (T4.setTop (mkF m 32 #[.val (.long p1), .second, .val (.ref b2), .val (.long x3), .second, .val (.int x5)] [])) _
        refine XS.lloadN X4.here hx rfl (hb hby d1_32) rfl ?_
        show Steps p.tables e below (T4.setTop (mkF m 33 #[.val (.long p1), .second, .val (.ref b2), .val (.long x3), .second, .val (.int x5)] [(.long x3)])) _
        refine XS.bipush X4.here hx rfl (hb hby d1_33) ?_
        show Steps p.tables e below (T4.setTop (mkF m 35 #[.val (.long p1), .second, .val (.ref b2), .val (.long x3), .second, .val (.int x5)] [(.int (7 : Int32)), (.long x3)])) _
        refine XS.lushr X4.here hx rfl (hb hby d1_35) rfl ?_
        show Steps p.tables e below (T4.setTop (mkF m 36 #[.val (.long p1), .second, .val (.ref b2), .val (.long x3), .second, .val (.int x5)] [(.long ((x3.toUInt64 >>> ((7 : Int32) &&& 0x3f).toInt64.toUInt64).toInt64))])) _
        refine XS.lstoreN X4.here hx rfl (hb hby d1_36) rfl (l' := #[.val (.long p1), .second, .val (.ref b2), .val (.long ((x3.toUInt64 >>> ((7 : Int32) &&& 0x3f).toInt64.toUInt64).toInt64)), .second, .val (.int x5)]) rfl ?_
        show Steps p.tables e below (T4.setTop (mkF m 37 #[.val (.long p1), .second, .val (.ref b2), .val (.long ((x3.toUInt64 >>> ((7 : Int32) &&& 0x3f).toInt64.toUInt64).toInt64)), .second, .val (.int x5)] [])) _
        refine XS.iinc X4.here hx rfl (hb hby d1_37) rfl (l' := #[.val (.long p1), .second, .val (.ref b2), .val (.long ((x3.toUInt64 >>> ((7 : Int32) &&& 0x3f).toInt64.toUInt64).toInt64)), .second, .val (.int (x5 + (1 : Int32)))]) rfl ?_
        show Steps p.tables e below (T4.setTop (mkF m 40 #[.val (.long p1), .second, .val (.ref b2), .val (.long ((x3.toUInt64 >>> ((7 : Int32) &&& 0x3f).toInt64.toUInt64).toInt64)), .second, .val (.int (x5 + (1 : Int32)))] [])) _
        refine XS.goto X4.here hx rfl (pc0 := 40) (pc' := 12) rfl (hb hby d1_40) (by decide) (by decide) ?_
        exact kt
      exact IH _ ((own_ES (own_nn hp) hi (by assumption)).2) _ _ _ _ X4 (Nat.le_trans hcl (by decide)) (Nat.le_trans hsl (by decide)) h4 e4 N4 ((x3.toUInt64 >>> ((7 : Int32) &&& 0x3f).toInt64.toUInt64).toInt64) (x5 + (1 : Int32)) b2 (el.set x5.toNatClampNeg (nar .byte (((x3 ||| (128 : Int64)).toInt32).toInt8.toInt32))) K4 G5 g_b2 sz_b2 (own_ES (own_nn hp) hi (by assumption)).1 rfl
    · have _ := hc2
      refine Go.step (T' := T) (f' := (mkF m 43 #[.val (.long p1), .second, .val (.ref b2), .val (.long x3), .second, .val (.int x5)] [])) (fun t kt => ?_) ?_
      · show Steps p.tables e below (T.setTop (mkF m 18 #[.val (.long p1), .second, .val (.ref b2), .val (.long x3), .second, .val (.int x5)] [(.int ((refL p1) - (1 : Int32))), (.int x5)])) _
        refine XS.icmpYes X.here hx rfl (pc0 := 18) (pc' := 43) rfl (hb hby d1_18) rfl (flt hc2).2.1 (by decide) (by decide) ?_
        exact kt
      have ln6 : ((el.map Value.int).length : Int) = ((refL p1)).toInt := (by rw [List.length_map]; exact hi.2.2.2.1)
      have ix7 : 0 ≤ (((refL p1) - (1 : Int32))).toInt ∧ (((refL p1) - (1 : Int32))).toInt < ((el).length : Int) := own_ixl hi
      obtain ⟨T8, h8, X8, e8, W8, V8, st8⟩ := putB X hx hZ eT fc0 ix7.1 ix7.2 (g := (mkF m 51 #[.val (.long p1), .second, .val (.ref b2), .val (.long x3), .second, .val (.int x5)] [(.int ((x3.toInt32).toInt8.toInt32)), (.int ((refL p1) - (1 : Int32))), (.ref b2)])) rfl rfl (hb hby d1_51)
      have G9 : VA Z h8 b2 .byte ((el.set ((refL p1) - (1 : Int32)).toNatClampNeg (nar .byte ((x3.toInt32).toInt8.toInt32))).map Value.int) := V8
      have N8 := Fr.snoc X8 N g_b2
      have K8 : Keep h0 h8 [] := Keep.wr K W8 (Or.inr sz_b2)
      have Z8 : n0 ≤ h8.size := Nat.le_trans Z0 K8.1
      refine Go.step (T' := T8) (f' := (mkF m 53 #[.val (.long p1), .second, .val (.ref b2), .val (.long x3), .second, .val (.int x5)] [(.ref b2)])) (fun t kt => ?_) ?_
      · show Steps p.tables e below (T.setTop (mkF m 43 #[.val (.long p1), .second, .val (.ref b2), .val (.long x3), .second, .val (.int x5)] [])) _
        refine XS.aloadN X.here hx rfl (hb hby d1_43) rfl rfl ?_
        show Steps p.tables e below (T.setTop (mkF m 44 #[.val (.long p1), .second, .val (.ref b2), .val (.long x3), .second, .val (.int x5)] [(.ref b2)])) _
        refine XS.aloadN X.here hx rfl (hb hby d1_44) rfl rfl ?_
        show Steps p.tables e below (T.setTop (mkF m 45 #[.val (.long p1), .second, .val (.ref b2), .val (.long x3), .second, .val (.int x5)] [(.ref b2), (.ref b2)])) _
        refine lenA X hx hZ eT fc0 (n := (refL p1)) ln6 (g := (mkF m 45 #[.val (.long p1), .second, .val (.ref b2), .val (.long x3), .second, .val (.int x5)] [(.ref b2), (.ref b2)])) rfl rfl (hb hby d1_45) _ ?_
        show Steps p.tables e below (T.setTop (mkF m 46 #[.val (.long p1), .second, .val (.ref b2), .val (.long x3), .second, .val (.int x5)] [(.int (refL p1)), (.ref b2)])) _
        refine XS.iconst X.here hx rfl (hb hby d1_46) ?_
        show Steps p.tables e below (T.setTop (mkF m 47 #[.val (.long p1), .second, .val (.ref b2), .val (.long x3), .second, .val (.int x5)] [(.int (1 : Int32)), (.int (refL p1)), (.ref b2)])) _
        refine XS.isub X.here hx rfl (hb hby d1_47) rfl ?_
        show Steps p.tables e below (T.setTop (mkF m 48 #[.val (.long p1), .second, .val (.ref b2), .val (.long x3), .second, .val (.int x5)] [(.int ((refL p1) - (1 : Int32))), (.ref b2)])) _
        refine XS.lloadN X.here hx rfl (hb hby d1_48) rfl ?_
        show Steps p.tables e below (T.setTop (mkF m 49 #[.val (.long p1), .second, .val (.ref b2), .val (.long x3), .second, .val (.int x5)] [(.long x3), (.int ((refL p1) - (1 : Int32))), (.ref b2)])) _
        refine XS.l2i X.here hx rfl (hb hby d1_49) rfl ?_
        show Steps p.tables e below (T.setTop (mkF m 50 #[.val (.long p1), .second, .val (.ref b2), .val (.long x3), .second, .val (.int x5)] [(.int (x3.toInt32)), (.int ((refL p1) - (1 : Int32))), (.ref b2)])) _
        refine XS.i2b X.here hx rfl (hb hby d1_50) rfl ?_
        show Steps p.tables e below (T.setTop (mkF m 51 #[.val (.long p1), .second, .val (.ref b2), .val (.long x3), .second, .val (.int x5)] [(.int ((x3.toInt32).toInt8.toInt32)), (.int ((refL p1) - (1 : Int32))), (.ref b2)])) _
        refine st8 _ ?_
        show Steps p.tables e below (T8.setTop (mkF m 52 #[.val (.long p1), .second, .val (.ref b2), .val (.long x3), .second, .val (.int x5)] [])) _
        refine XS.aloadN X8.here hx rfl (hb hby d1_52) rfl rfl ?_
        exact kt
      refine Go.fin X8 (v := some (.ref b2)) (fun h => by rw [Bd.returns] at h; cases h) Bd.notSynchronized ?_ (Nat.le_trans hcl (by decide)) (Nat.le_trans hsl (by decide)) (fun fs hr => X8.areturnOut hx rfl Bd.returns rfl (hb hby d1_53) hr)
      · show QencF Z p1 h0 n0 _ T8.heap _
        rw [e8]
        exact ⟨b2, (el.set ((refL p1) - (1 : Int32)).toNatClampNeg (nar .byte ((x3.toInt32).toInt8.toInt32))), rfl, N8, K8, sz_b2, G9, own_EE (own_nn hp) hi (by assumption)⟩
  obtain ⟨_, _, ⟨T10, L10, k10, n10⟩, -, X10, ⟨Lc10, hQ10, l10, y10, z10⟩, st10⟩ := Jvm.LawKit.callS X0 hx (y := (⟨"com/example/preamble/preamble/varint/Varint", "size", "(J)I"⟩ : MethodName)) hown (mvT hZ (hw _ (List.mem_of_getElem? (i := 6) rfl))) (mvT hZ (hw _ (List.mem_of_getElem? (i := 7) rfl))) (mvT hZ (hw _ (List.mem_of_getElem? (i := 4) rfl))) (mvT hZ (hw _ (List.mem_of_getElem? (i := 8) rfl))) (by decide) (backOf (W := 0) (rm_sizeL l Z a0 hw [] p1  h0 n0 Z0 hp) hZ (hw _ (List.mem_of_getElem? (i := 8) rfl)) (hw _ (List.mem_of_getElem? (i := 4) rfl)) (by decide) (by decide)) (g := (mkF m 1 #[.val (.long p1), .second, .unset, .unset, .unset, .unset] [(.long p1)])) rfl (by rw [hml]; rfl) (argsL := [(.long p1)]) (rest := []) (lenOf pd_1 rfl) rfl (by show 2 * 0 + _ ≤ _; exact Nat.le_of_eq rfl) (hb hby d1_1) (fun _ _ => ⟨rfl, e0, (Nat.le_trans (Nat.add_le_add_right (Nat.le_refl 0) 0) (by decide)), (Nat.le_trans (Nat.add_le_add_right (Nat.le_refl 0) 0) (by decide))⟩)
  dsimp only [Pt.U, Pt.locs, Pt.cells, Pt.slots] at X10 l10 y10 z10 st10 hQ10
  subst l10 y10 z10
  obtain ⟨rfl, N10q, e10⟩ := hQ10
  have N10 := Fr.app N0 N10q
  obtain ⟨T11, h11, X11, e11, E11, A11, st11⟩ := newB X10 hx hZ (hw _ (List.mem_of_getElem? (i := 12) rfl)) e10 (g := (mkF m 4 #[.val (.long p1), .second, .unset, .unset, .unset, .unset] [(.int (refL p1))])) rfl (hb hby d1_4) rfl (by have := own_rl p1; omega) (cap := 9) (by have := own_rl p1; omega) (by decide) (Nat.le_trans (Nat.add_le_add_right (Nat.add_le_add_right (Nat.le_refl 0) 0) 1) (by decide)) (Nat.le_trans (Nat.add_le_add_right (Nat.add_le_add_right (Nat.le_refl 0) 0) 9) (by decide))
  obtain ⟨b11, g11⟩ : ∃ z, z = h0.size := ⟨_, rfl⟩
  rw [← g11] at A11 st11
  have g_b11 : n0 ≤ b11 := Nat.le_trans Z0 (Nat.le_of_eq g11.symm)
  have sz_b11 : h0.size ≤ b11 := Nat.le_trans (Keep.refl h0 []).1 (Nat.le_of_eq g11.symm)
  have K11 : Keep h0 h11 [] := Keep.ext (Keep.refl h0 []) E11
  have Z11 : n0 ≤ h11.size := Nat.le_trans Z0 K11.1
  have G12 : VA Z h11 b11 .byte ((List.replicate (refL p1).toInt.toNat (0 : Int32)).map Value.int) := A11
  refine Go.step (T' := T11) (f' := (mkF m 12 #[.val (.long p1), .second, .val (.ref b11), .val (.long p1), .second, .val (.int (0 : Int32))] [])) (fun t kt => ?_) ?_
  · show Steps p.tables e below (s₁.setTop (mkF m 0 #[.val (.long p1), .second, .unset, .unset, .unset, .unset] [])) _
    refine XS.lloadN X0.here hx rfl (hb hby d1_0) rfl ?_
    show Steps p.tables e below (s₁.setTop (mkF m 1 #[.val (.long p1), .second, .unset, .unset, .unset, .unset] [(.long p1)])) _
    refine st10 _ ?_
    show Steps p.tables e below (T10.setTop (mkF m 4 #[.val (.long p1), .second, .unset, .unset, .unset, .unset] [(.int (refL p1))])) _
    refine st11 _ ?_
    show Steps p.tables e below (T11.setTop (mkF m 6 #[.val (.long p1), .second, .unset, .unset, .unset, .unset] [(.ref b11)])) _
    refine XS.astoreN X11.here hx rfl (hb hby d1_6) rfl rfl (l' := #[.val (.long p1), .second, .val (.ref b11), .unset, .unset, .unset]) rfl ?_
    show Steps p.tables e below (T11.setTop (mkF m 7 #[.val (.long p1), .second, .val (.ref b11), .unset, .unset, .unset] [])) _
    refine XS.lloadN X11.here hx rfl (hb hby d1_7) rfl ?_
    show Steps p.tables e below (T11.setTop (mkF m 8 #[.val (.long p1), .second, .val (.ref b11), .unset, .unset, .unset] [(.long p1)])) _
    refine XS.lstoreN X11.here hx rfl (hb hby d1_8) rfl (l' := #[.val (.long p1), .second, .val (.ref b11), .val (.long p1), .second, .unset]) rfl ?_
    show Steps p.tables e below (T11.setTop (mkF m 9 #[.val (.long p1), .second, .val (.ref b11), .val (.long p1), .second, .unset] [])) _
    refine XS.iconst X11.here hx rfl (hb hby d1_9) ?_
    show Steps p.tables e below (T11.setTop (mkF m 10 #[.val (.long p1), .second, .val (.ref b11), .val (.long p1), .second, .unset] [(.int (0 : Int32))])) _
    refine XS.istore X11.here hx rfl (hb hby d1_10) rfl (l' := #[.val (.long p1), .second, .val (.ref b11), .val (.long p1), .second, .val (.int (0 : Int32))]) rfl ?_
    exact kt
  exact S12 _ _ _ _ _ X11 (Nat.le_trans (Nat.add_le_add_right (Nat.add_le_add_right (Nat.le_refl 0) 0) 1) (by decide)) (Nat.le_trans (Nat.add_le_add_right (Nat.add_le_add_right (Nat.le_refl 0) 0) 9) (by decide)) h11 e11 N10 p1 (0 : Int32) b11 (List.replicate (refL p1).toInt.toNat (0 : Int32)) K11 G12 g_b11 sz_b11 own_E0 rfl
theorem d5_0 : decode method_3_code 0 = .ok (.iload 4, 2) := by decide +kernel
theorem d5_2 : decode method_3_code 2 = .ok (.iload_n 3, 1) := by decide +kernel
theorem d5_3 : decode method_3_code 3 = .ok (.if_icmp .lt 5, 3) := by decide +kernel
theorem d5_6 : decode method_3_code 6 = .ok (.iconst 1, 1) := by decide +kernel
theorem d5_7 : decode method_3_code 7 = .ok (.ireturn, 1) := by decide +kernel
theorem d5_8 : decode method_3_code 8 = .ok (.lload_n 1, 1) := by decide +kernel
theorem d5_9 : decode method_3_code 9 = .ok (.bipush 7, 2) := by decide +kernel
theorem d5_11 : decode method_3_code 11 = .ok (.iload 4, 2) := by decide +kernel
theorem d5_13 : decode method_3_code 13 = .ok (.imul, 1) := by decide +kernel
theorem d5_14 : decode method_3_code 14 = .ok (.lushr, 1) := by decide +kernel
theorem d5_15 : decode method_3_code 15 = .ok (.ldc2_w 23, 3) := by decide +kernel
theorem d5_18 : decode method_3_code 18 = .ok (.land, 1) := by decide +kernel
theorem d5_19 : decode method_3_code 19 = .ok (.l2i, 1) := by decide +kernel
theorem d5_20 : decode method_3_code 20 = .ok (.istore 5, 2) := by decide +kernel
theorem d5_22 : decode method_3_code 22 = .ok (.iload 4, 2) := by decide +kernel
theorem d5_24 : decode method_3_code 24 = .ok (.iload_n 3, 1) := by decide +kernel
theorem d5_25 : decode method_3_code 25 = .ok (.iconst 1, 1) := by decide +kernel
theorem d5_26 : decode method_3_code 26 = .ok (.isub, 1) := by decide +kernel
theorem d5_27 : decode method_3_code 27 = .ok (.if_icmp .ge 12, 3) := by decide +kernel
theorem d5_30 : decode method_3_code 30 = .ok (.iload 5, 2) := by decide +kernel
theorem d5_32 : decode method_3_code 32 = .ok (.sipush 128, 3) := by decide +kernel
theorem d5_35 : decode method_3_code 35 = .ok (.ior, 1) := by decide +kernel
theorem d5_36 : decode method_3_code 36 = .ok (.goto 5, 3) := by decide +kernel
theorem d5_39 : decode method_3_code 39 = .ok (.iload 5, 2) := by decide +kernel
theorem d5_41 : decode method_3_code 41 = .ok (.istore 6, 2) := by decide +kernel
theorem d5_43 : decode method_3_code 43 = .ok (.aload_n 0, 1) := by decide +kernel
theorem d5_44 : decode method_3_code 44 = .ok (.iload 4, 2) := by decide +kernel
theorem d5_46 : decode method_3_code 46 = .ok (.baload, 1) := by decide +kernel
theorem d5_47 : decode method_3_code 47 = .ok (.iload 6, 2) := by decide +kernel
theorem d5_49 : decode method_3_code 49 = .ok (.i2b, 1) := by decide +kernel
theorem d5_50 : decode method_3_code 50 = .ok (.if_icmp .ne 7, 3) := by decide +kernel
theorem d5_53 : decode method_3_code 53 = .ok (.iconst 1, 1) := by decide +kernel
theorem d5_54 : decode method_3_code 54 = .ok (.goto 4, 3) := by decide +kernel
theorem d5_57 : decode method_3_code 57 = .ok (.iconst 0, 1) := by decide +kernel
theorem d5_58 : decode method_3_code 58 = .ok (.ireturn, 1) := by decide +kernel
theorem ef_bokF (m : MethodId) (x0 : Addr) (x1 : Int64) (x2 : Int32) (x3 : Int32) : entryFrame m #[(.ref x0), (.long x1), (.int x2), (.int x3)] 7 = mkF m 0 #[.val (.ref x0), .val (.long x1), .second, .val (.int x2), .val (.int x3), .unset, .unset] [] := by first | (simp [entryFrame, mkF, argsToLocals, Value.category]; done) | rfl
def bokF_41 (i : Int32) (el : List Int32) (x5 : Int32) (t0 : Int32) : Int32 := (if (el.getD i.toNatClampNeg (0 : Int32)) = (t0.toInt8.toInt32) then (1 : Int32) else (0 : Int32))
def bokF (q : Int64) (n : Int32) (i : Int32) (el : List Int32) : Int32 := (if i < n then (if i < (n - (1 : Int32)) then (bokF_41 i el ((((q.toUInt64 >>> (((7 : Int32) * i) &&& 0x3f).toInt64.toUInt64).toInt64) &&& (127 : Int64)).toInt32) (((((q.toUInt64 >>> (((7 : Int32) * i) &&& 0x3f).toInt64.toUInt64).toInt64) &&& (127 : Int64)).toInt32) ||| (128 : Int32))) else (bokF_41 i el ((((q.toUInt64 >>> (((7 : Int32) * i) &&& 0x3f).toInt64.toUInt64).toInt64) &&& (127 : Int64)).toInt32) ((((q.toUInt64 >>> (((7 : Int32) * i) &&& 0x3f).toInt64.toUInt64).toInt64) &&& (127 : Int64)).toInt32))) else (1 : Int32))
def QbokF (Z : State) (a : Addr) (q : Int64) (n : Int32) (i : Int32) (el : List Int32) (RES : Int32) (h0 : Heap) (n0 : Nat) (v : Option Value) (h : Heap) (L : List Loc) : Prop := v = some (.int RES) ∧ Fr n0 L ∧ h = h0
set_option maxRecDepth 65536 in
set_option maxHeartbeats 40000000 in
theorem rm_bokF (l : Launch) (Z : State) (a0 : Array Value) (hw : ∀ d ∈ tables_1, d.before a0 Z = true) (ws : List Jvm.Cond) (a : Addr) (q : Int64) (n : Int32) (i : Int32) (el : List Int32) (h0 : Heap) (n0 : Nat) (Z0 : n0 ≤ h0.size) (F0 : VA Z h0 a .byte (el.map Value.int)) (hl : (el.length : Int) = n.toInt) (hi : 0 ≤ i.toInt) :
    MetFree l (⟨"com/example/preamble/preamble/varint/VarintEncodePinLaw", "byteOk", "([BJII)Z"⟩ : MethodName) (head1 (Jvm.Cond.code (⟨"com/example/preamble/preamble/varint/VarintEncodePinLaw", "byteOk", "([BJII)Z"⟩ : MethodName) method_3_code 7 (some .boolean) :: ws) ({ frames := 0, cells := 0, slots := 0, locals := 0 } : Room)) (fun A_ U => A_ = #[(.ref a), (.long q), (.int n), (.int i)] ∧ Z.Warmed39 U.vm ∧ U.heap = h0) (fun _ _ _ _ _ => True) (fun _ U o U' => ∃ v L, o = .returned v ∧ QbokF Z a q n i el (bokF q n i el) h0 n0 v U'.heap L ∧ FrameEnd U o U' L ({ frames := 0, cells := 0, slots := 0, locals := 0 } : Room).cells ({ frames := 0, cells := 0, slots := 0, locals := 0 } : Room).slots) := by
  refine MetFree.of_bodySF (plainFor_of_name pn_1) hisR ?_
  intro p e s m args below meth c s₁ Bd hml0 hP hK
  obtain ⟨rfl, hZ, hh⟩ := hP
  have hx := Bd.exec
  have hby := Bd.bytes
  have hml : c.maxLocals = 7 := hml0
  have hown : s.vm.findClass "com/example/preamble/preamble/varint/VarintEncodePinLaw" = some m.cls := findClass_of_methodNamed Bd.named
  have hnm := (name_of_methodNamed Bd.named Bd.method).1
  have X0 : Stand p l e ({ frames := 0, cells := 0, slots := 0, locals := 0 } : Room) s m #[(.ref a), (.long q), (.int n), (.int i)] below meth c s₁ [] 0 0 := Stand.of_body Bd
  have e0 : s₁.heap = h0 := by rw [← hh, Bd.state]; rfl
  have N0 := Fr.nil n0
  obtain ⟨RES, hf⟩ : ∃ z, z = bokF q n i el := ⟨_, rfl⟩
  rw [← hf]
  rw [bokF] at hf
  suffices HGO : Go p e below s (QbokF Z a q n i el RES h0 n0) ({ frames := 0, cells := 0, slots := 0, locals := 0 } : Room).cells ({ frames := 0, cells := 0, slots := 0, locals := 0 } : Room).slots s₁ (mkF m 0 #[.val (.ref a), .val (.long q), .second, .val (.int n), .val (.int i), .unset, .unset] []) from Go.cast (ef_bokF m a q n i) HGO
  have S41 : ∀ (T : State) (locs : List Loc) (cells slots : Nat) (X : Stand p l e ({ frames := 0, cells := 0, slots := 0, locals := 0 } : Room) s m #[(.ref a), (.long q), (.int n), (.int i)] below meth c T locs cells slots) (hcl : cells ≤ 0) (hsl : slots ≤ 0) (eT : T.heap = h0) (N : Fr n0 locs) (x5 : Int32) (t0 : Int32)  (hix : 0 ≤ i.toInt ∧ i.toInt < (el.length : Int)) (hf : RES = bokF_41 i el x5 t0), Go p e below s (QbokF Z a q n i el RES h0 n0) ({ frames := 0, cells := 0, slots := 0, locals := 0 } : Room).cells ({ frames := 0, cells := 0, slots := 0, locals := 0 } : Room).slots T (mkF m 41 #[.val (.ref a), .val (.long q), .second, .val (.int n), .val (.int i), .val (.int x5), .unset] [(.int t0)]) := by
    intro T locs cells slots X hcl hsl eT N x5 t0 hix hf
    rw [bokF_41] at hf
    have ix1 : 0 ≤ (i).toInt ∧ (i).toInt < ((el).length : Int) := hix
    refine Go.step (T' := T) (f' := (mkF m 50 #[.val (.ref a), .val (.long q), .second, .val (.int n), .val (.int i), .val (.int x5), .val (.int t0)] [(.int (t0.toInt8.toInt32)), (.int (el.getD i.toNatClampNeg (0 : Int32)))])) (fun t kt => ?_) ?_
    · show Steps p.tables e below (T.setTop (mkF m 41 #[.val (.ref a), .val (.long q), .second, .val (.int n), .val (.int i), .val (.int x5), .unset] [(.int t0)])) _
      refine XS.istore X.here hx rfl (hb hby d5_41) rfl (l' := #[.val (.ref a), .val (.long q), .second, .val (.int n), .val (.int i), .val (.int x5), .val (.int t0)]) rfl ?_
      show Steps p.tables e below (T.setTop (mkF m 43 #[.val (.ref a), .val (.long q), .second, .val (.int n), .val (.int i), .val (.int x5), .val (.int t0)] [])) _
      refine XS.aloadN X.here hx rfl (hb hby d5_43) rfl rfl ?_
      show Steps p.tables e below (T.setTop (mkF m 44 #[.val (.ref a), .val (.long q), .second, .val (.int n), .val (.int i), .val (.int x5), .val (.int t0)] [(.ref a)])) _
      refine XS.iload X.here hx rfl (hb hby d5_44) rfl ?_
      show Steps p.tables e below (T.setTop (mkF m 46 #[.val (.ref a), .val (.long q), .second, .val (.int n), .val (.int i), .val (.int x5), .val (.int t0)] [(.int i), (.ref a)])) _
      refine ldB X hx hZ eT F0 ix1.1 ix1.2 (g := (mkF m 46 #[.val (.ref a), .val (.long q), .second, .val (.int n), .val (.int i), .val (.int x5), .val (.int t0)] [(.int i), (.ref a)])) rfl rfl (hb hby d5_46) _ ?_
      show Steps p.tables e below (T.setTop (mkF m 47 #[.val (.ref a), .val (.long q), .second, .val (.int n), .val (.int i), .val (.int x5), .val (.int t0)] [(.int (el.getD i.toNatClampNeg (0 : Int32)))])) _
      refine XS.iload X.here hx rfl (hb hby d5_47) rfl ?_
      show Steps p.tables e below (T.setTop (mkF m 49 #[.val (.ref a), .val (.long q), .second, .val (.int n), .val (.int i), .val (.int x5), .val (.int t0)] [(.int t0), (.int (el.getD i.toNatClampNeg (0 : Int32)))])) _
      refine XS.i2b X.here hx rfl (hb hby d5_49) rfl ?_
      exact kt
    by_cases hc2 : (el.getD i.toNatClampNeg (0 : Int32)) = (t0.toInt8.toInt32)
    · rw [if_pos hc2] at hf
      refine Go.step (T' := T) (f' := (mkF m 53 #[.val (.ref a), .val (.long q), .second, .val (.int n), .val (.int i), .val (.int x5), .val (.int t0)] [])) (fun t kt => ?_) ?_
      · show Steps p.tables e below (T.setTop (mkF m 50 #[.val (.ref a), .val (.long q), .second, .val (.int n), .val (.int i), .val (.int x5), .val (.int t0)] [(.int (t0.toInt8.toInt32)), (.int (el.getD i.toNatClampNeg (0 : Int32)))])) _
        refine XS.icmpNo X.here hx rfl (hb hby d5_50) rfl (teq hc2).2 ?_
        exact kt
      refine Go.step (T' := T) (f' := (mkF m 58 #[.val (.ref a), .val (.long q), .second, .val (.int n), .val (.int i), .val (.int x5), .val (.int t0)] [(.int (1 : Int32))])) (fun t kt => ?_) ?_
      · show Steps p.tables e below (T.setTop (mkF m 53 #[.val (.ref a), .val (.long q), .second, .val (.int n), .val (.int i), .val (.int x5), .val (.int t0)] [])) _
        refine XS.iconst X.here hx rfl (hb hby d5_53) ?_
        show Steps p.tables e below (T.setTop (mkF m 54 #[.val (.ref a), .val (.long q), .second, .val (.int n), .val (.int i), .val (.int x5), .val (.int t0)] [(.int (1 : Int32))])) _
        refine XS.goto X.here hx rfl (pc0 := 54) (pc' := 58) rfl (hb hby d5_54) (by decide) (by decide) ?_
        exact kt
      refine Go.fin X (v := some (.int (1 : Int32))) (fun h => by rw [Bd.returns] at h; cases h) Bd.notSynchronized ?_ (Nat.le_trans hcl (by decide)) (Nat.le_trans hsl (by decide)) (fun fs hr => retN X hx (t := .boolean) Bd.returns (by simp) (hb hby d5_58) hr)
      · exact ⟨by rw [hf], N, eT⟩
    · rw [if_neg hc2] at hf
      refine Go.step (T' := T) (f' := (mkF m 57 #[.val (.ref a), .val (.long q), .second, .val (.int n), .val (.int i), .val (.int x5), .val (.int t0)] [])) (fun t kt => ?_) ?_
      · show Steps p.tables e below (T.setTop (mkF m 50 #[.val (.ref a), .val (.long q), .second, .val (.int n), .val (.int i), .val (.int x5), .val (.int t0)] [(.int (t0.toInt8.toInt32)), (.int (el.getD i.toNatClampNeg (0 : Int32)))])) _
        refine XS.icmpYes X.here hx rfl (pc0 := 50) (pc' := 57) rfl (hb hby d5_50) rfl (feq hc2).2 (by decide) (by decide) ?_
        exact kt
      refine Go.step (T' := T) (f' := (mkF m 58 #[.val (.ref a), .val (.long q), .second, .val (.int n), .val (.int i), .val (.int x5), .val (.int t0)] [(.int (0 : Int32))])) (fun t kt => ?_) ?_
      · show Steps p.tables e below (T.setTop (mkF m 57 #[.val (.ref a), .val (.long q), .second, .val (.int n), .val (.int i), .val (.int x5), .val (.int t0)] [])) _
        refine XS.iconst X.here hx rfl (hb hby d5_57) ?_
        exact kt
      refine Go.fin X (v := some (.int (0 : Int32))) (fun h => by rw [Bd.returns] at h; cases h) Bd.notSynchronized ?_ (Nat.le_trans hcl (by decide)) (Nat.le_trans hsl (by decide)) (fun fs hr => retN X hx (t := .boolean) Bd.returns (by simp) (hb hby d5_58) hr)
      · exact ⟨by rw [hf], N, eT⟩
  refine Go.step (T' := s₁) (f' := (mkF m 3 #[.val (.ref a), .val (.long q), .second, .val (.int n), .val (.int i), .unset, .unset] [(.int n), (.int i)])) (fun t kt => ?_) ?_
  · show Steps p.tables e below (s₁.setTop (mkF m 0 #[.val (.ref a), .val (.long q), .second, .val (.int n), .val (.int i), .unset, .unset] [])) _
    refine XS.iload X0.here hx rfl (hb hby d5_0) rfl ?_
    show Steps p.tables e below (s₁.setTop (mkF m 2 #[.val (.ref a), .val (.long q), .second, .val (.int n), .val (.int i), .unset, .unset] [(.int i)])) _
    refine XS.iloadN X0.here hx rfl (hb hby d5_2) rfl ?_
    exact kt
  by_cases hc3 : i < n
  · rw [if_pos hc3] at hf
    refine Go.step (T' := s₁) (f' := (mkF m 8 #[.val (.ref a), .val (.long q), .second, .val (.int n), .val (.int i), .unset, .unset] [])) (fun t kt => ?_) ?_
    · show Steps p.tables e below (s₁.setTop (mkF m 3 #[.val (.ref a), .val (.long q), .second, .val (.int n), .val (.int i), .unset, .unset] [(.int n), (.int i)])) _
      refine XS.icmpYes X0.here hx rfl (pc0 := 3) (pc' := 8) rfl (hb hby d5_3) rfl (tlt hc3).1 (by decide) (by decide) ?_
      exact kt
    refine Go.step (T' := s₁) (f' := (mkF m 27 #[.val (.ref a), .val (.long q), .second, .val (.int n), .val (.int i), .val (.int ((((q.toUInt64 >>> (((7 : Int32) * i) &&& 0x3f).toInt64.toUInt64).toInt64) &&& (127 : Int64)).toInt32)), .unset] [(.int (n - (1 : Int32))), (.int i)])) (fun t kt => ?_) ?_
    · show Steps p.tables e below (s₁.setTop (mkF m 8 #[.val (.ref a), .val (.long q), .second, .val (.int n), .val (.int i), .unset, .unset] [])) _
      refine XS.lloadN X0.here hx rfl (hb hby d5_8) rfl ?_
      show Steps p.tables e below (s₁.setTop (mkF m 9 #[.val (.ref a), .val (.long q), .second, .val (.int n), .val (.int i), .unset, .unset] [(.long q)])) _
      refine XS.bipush X0.here hx rfl (hb hby d5_9) ?_
      show Steps p.tables e below (s₁.setTop (mkF m 11 #[.val (.ref a), .val (.long q), .second, .val (.int n), .val (.int i), .unset, .unset] [(.int (7 : Int32)), (.long q)])) _
      refine XS.iload X0.here hx rfl (hb hby d5_11) rfl ?_
      show Steps p.tables e below (s₁.setTop (mkF m 13 #[.val (.ref a), .val (.long q), .second, .val (.int n), .val (.int i), .unset, .unset] [(.int i), (.int (7 : Int32)), (.long q)])) _
      refine XS.imul X0.here hx rfl (hb hby d5_13) rfl ?_
      show Steps p.tables e below (s₁.setTop (mkF m 14 #[.val (.ref a), .val (.long q), .second, .val (.int n), .val (.int i), .unset, .unset] [(.int ((7 : Int32) * i)), (.long q)])) _
      refine XS.lushr X0.here hx rfl (hb hby d5_14) rfl ?_
      show Steps p.tables e below (s₁.setTop (mkF m 15 #[.val (.ref a), .val (.long q), .second, .val (.int n), .val (.int i), .unset, .unset] [(.long ((q.toUInt64 >>> (((7 : Int32) * i) &&& 0x3f).toInt64.toUInt64).toInt64))])) _
      refine X0.ldc2Long hx hown (mvT hZ (hw _ (List.mem_of_getElem? (i := 21) rfl))) (g := (mkF m 15 #[.val (.ref a), .val (.long q), .second, .val (.int n), .val (.int i), .unset, .unset] [(.long ((q.toUInt64 >>> (((7 : Int32) * i) &&& 0x3f).toInt64.toUInt64).toInt64))])) rfl (hb hby d5_15) _ ?_
      show Steps p.tables e below (s₁.setTop (mkF m 18 #[.val (.ref a), .val (.long q), .second, .val (.int n), .val (.int i), .unset, .unset] [(.long (127 : Int64)), (.long ((q.toUInt64 >>> (((7 : Int32) * i) &&& 0x3f).toInt64.toUInt64).toInt64))])) _
      refine XS.land X0.here hx rfl (hb hby d5_18) rfl ?_
      show Steps p.tables e below (s₁.setTop (mkF m 19 #[.val (.ref a), .val (.long q), .second, .val (.int n), .val (.int i), .unset, .unset] [(.long (((q.toUInt64 >>> (((7 : Int32) * i) &&& 0x3f).toInt64.toUInt64).toInt64) &&& (127 : Int64)))])) _
      refine XS.l2i X0.here hx rfl (hb hby d5_19) rfl ?_
      show Steps p.tables e below (s₁.setTop (mkF m 20 #[.val (.ref a), .val (.long q), .second, .val (.int n), .val (.int i), .unset, .unset] [(.int ((((q.toUInt64 >>> (((7 : Int32) * i) &&& 0x3f).toInt64.toUInt64).toInt64) &&& (127 : Int64)).toInt32))])) _
      refine XS.istore X0.here hx rfl (hb hby d5_20) rfl (l' := #[.val (.ref a), .val (.long q), .second, .val (.int n), .val (.int i), .val (.int ((((q.toUInt64 >>> (((7 : Int32) * i) &&& 0x3f).toInt64.toUInt64).toInt64) &&& (127 : Int64)).toInt32)), .unset]) rfl ?_
      show Steps p.tables e below (s₁.setTop (mkF m 22 #[.val (.ref a), .val (.long q), .second, .val (.int n), .val (.int i), .val (.int ((((q.toUInt64 >>> (((7 : Int32) * i) &&& 0x3f).toInt64.toUInt64).toInt64) &&& (127 : Int64)).toInt32)), .unset] [])) _
      refine XS.iload X0.here hx rfl (hb hby d5_22) rfl ?_
      show Steps p.tables e below (s₁.setTop (mkF m 24 #[.val (.ref a), .val (.long q), .second, .val (.int n), .val (.int i), .val (.int ((((q.toUInt64 >>> (((7 : Int32) * i) &&& 0x3f).toInt64.toUInt64).toInt64) &&& (127 : Int64)).toInt32)), .unset] [(.int i)])) _
      refine XS.iloadN X0.here hx rfl (hb hby d5_24) rfl ?_
      show Steps p.tables e below (s₁.setTop (mkF m 25 #[.val (.ref a), .val (.long q), .second, .val (.int n), .val (.int i), .val (.int ((((q.toUInt64 >>> (((7 : Int32) * i) &&& 0x3f).toInt64.toUInt64).toInt64) &&& (127 : Int64)).toInt32)), .unset] [(.int n), (.int i)])) _
      refine XS.iconst X0.here hx rfl (hb hby d5_25) ?_
      show Steps p.tables e below (s₁.setTop (mkF m 26 #[.val (.ref a), .val (.long q), .second, .val (.int n), .val (.int i), .val (.int ((((q.toUInt64 >>> (((7 : Int32) * i) &&& 0x3f).toInt64.toUInt64).toInt64) &&& (127 : Int64)).toInt32)), .unset] [(.int (1 : Int32)), (.int n), (.int i)])) _
      refine XS.isub X0.here hx rfl (hb hby d5_26) rfl ?_
      exact kt
    by_cases hc4 : i < (n - (1 : Int32))
    · rw [if_pos hc4] at hf
      refine Go.step (T' := s₁) (f' := (mkF m 30 #[.val (.ref a), .val (.long q), .second, .val (.int n), .val (.int i), .val (.int ((((q.toUInt64 >>> (((7 : Int32) * i) &&& 0x3f).toInt64.toUInt64).toInt64) &&& (127 : Int64)).toInt32)), .unset] [])) (fun t kt => ?_) ?_
      · show Steps p.tables e below (s₁.setTop (mkF m 27 #[.val (.ref a), .val (.long q), .second, .val (.int n), .val (.int i), .val (.int ((((q.toUInt64 >>> (((7 : Int32) * i) &&& 0x3f).toInt64.toUInt64).toInt64) &&& (127 : Int64)).toInt32)), .unset] [(.int (n - (1 : Int32))), (.int i)])) _
        refine XS.icmpNo X0.here hx rfl (hb hby d5_27) rfl (tlt hc4).2.1 ?_
        exact kt
      refine Go.step (T' := s₁) (f' := (mkF m 41 #[.val (.ref a), .val (.long q), .second, .val (.int n), .val (.int i), .val (.int ((((q.toUInt64 >>> (((7 : Int32) * i) &&& 0x3f).toInt64.toUInt64).toInt64) &&& (127 : Int64)).toInt32)), .unset] [(.int (((((q.toUInt64 >>> (((7 : Int32) * i) &&& 0x3f).toInt64.toUInt64).toInt64) &&& (127 : Int64)).toInt32) ||| (128 : Int32)))])) (fun t kt => ?_) ?_
      · show Steps p.tables e below (s₁.setTop (mkF m 30 #[.val (.ref a), .val (.long q), .second, .val (.int n), .val (.int i), .val (.int ((((q.toUInt64 >>> (((7 : Int32) * i) &&& 0x3f).toInt64.toUInt64).toInt64) &&& (127 : Int64)).toInt32)), .unset] [])) _
        refine XS.iload X0.here hx rfl (hb hby d5_30) rfl ?_
        show Steps p.tables e below (s₁.setTop (mkF m 32 #[.val (.ref a), .val (.long q), .second, .val (.int n), .val (.int i), .val (.int ((((q.toUInt64 >>> (((7 : Int32) * i) &&& 0x3f).toInt64.toUInt64).toInt64) &&& (127 : Int64)).toInt32)), .unset] [(.int ((((q.toUInt64 >>> (((7 : Int32) * i) &&& 0x3f).toInt64.toUInt64).toInt64) &&& (127 : Int64)).toInt32))])) _
        refine XS.sipush X0.here hx rfl (hb hby d5_32) ?_
        show Steps p.tables e below (s₁.setTop (mkF m 35 #[.val (.ref a), .val (.long q), .second, .val (.int n), .val (.int i), .val (.int ((((q.toUInt64 >>> (((7 : Int32) * i) &&& 0x3f).toInt64.toUInt64).toInt64) &&& (127 : Int64)).toInt32)), .unset] [(.int (128 : Int32)), (.int ((((q.toUInt64 >>> (((7 : Int32) * i) &&& 0x3f).toInt64.toUInt64).toInt64) &&& (127 : Int64)).toInt32))])) _
        refine XS.ior X0.here hx rfl (hb hby d5_35) rfl ?_
        show Steps p.tables e below (s₁.setTop (mkF m 36 #[.val (.ref a), .val (.long q), .second, .val (.int n), .val (.int i), .val (.int ((((q.toUInt64 >>> (((7 : Int32) * i) &&& 0x3f).toInt64.toUInt64).toInt64) &&& (127 : Int64)).toInt32)), .unset] [(.int (((((q.toUInt64 >>> (((7 : Int32) * i) &&& 0x3f).toInt64.toUInt64).toInt64) &&& (127 : Int64)).toInt32) ||| (128 : Int32)))])) _
        refine XS.goto X0.here hx rfl (pc0 := 36) (pc' := 41) rfl (hb hby d5_36) (by decide) (by decide) ?_
        exact kt
      exact S41 _ _ _ _ X0 (Nat.le_trans (Nat.le_refl 0) (by decide)) (Nat.le_trans (Nat.le_refl 0) (by decide)) e0 N0 ((((q.toUInt64 >>> (((7 : Int32) * i) &&& 0x3f).toInt64.toUInt64).toInt64) &&& (127 : Int64)).toInt32) (((((q.toUInt64 >>> (((7 : Int32) * i) &&& 0x3f).toInt64.toUInt64).toInt64) &&& (127 : Int64)).toInt32) ||| (128 : Int32)) (own_il hi (by assumption) hl) hf
    · rw [if_neg hc4] at hf
      refine Go.step (T' := s₁) (f' := (mkF m 39 #[.val (.ref a), .val (.long q), .second, .val (.int n), .val (.int i), .val (.int ((((q.toUInt64 >>> (((7 : Int32) * i) &&& 0x3f).toInt64.toUInt64).toInt64) &&& (127 : Int64)).toInt32)), .unset] [])) (fun t kt => ?_) ?_
      · show Steps p.tables e below (s₁.setTop (mkF m 27 #[.val (.ref a), .val (.long q), .second, .val (.int n), .val (.int i), .val (.int ((((q.toUInt64 >>> (((7 : Int32) * i) &&& 0x3f).toInt64.toUInt64).toInt64) &&& (127 : Int64)).toInt32)), .unset] [(.int (n - (1 : Int32))), (.int i)])) _
        refine XS.icmpYes X0.here hx rfl (pc0 := 27) (pc' := 39) rfl (hb hby d5_27) rfl (flt hc4).2.1 (by decide) (by decide) ?_
        exact kt
      refine Go.step (T' := s₁) (f' := (mkF m 41 #[.val (.ref a), .val (.long q), .second, .val (.int n), .val (.int i), .val (.int ((((q.toUInt64 >>> (((7 : Int32) * i) &&& 0x3f).toInt64.toUInt64).toInt64) &&& (127 : Int64)).toInt32)), .unset] [(.int ((((q.toUInt64 >>> (((7 : Int32) * i) &&& 0x3f).toInt64.toUInt64).toInt64) &&& (127 : Int64)).toInt32))])) (fun t kt => ?_) ?_
      · show Steps p.tables e below (s₁.setTop (mkF m 39 #[.val (.ref a), .val (.long q), .second, .val (.int n), .val (.int i), .val (.int ((((q.toUInt64 >>> (((7 : Int32) * i) &&& 0x3f).toInt64.toUInt64).toInt64) &&& (127 : Int64)).toInt32)), .unset] [])) _
        refine XS.iload X0.here hx rfl (hb hby d5_39) rfl ?_
        exact kt
      exact S41 _ _ _ _ X0 (Nat.le_trans (Nat.le_refl 0) (by decide)) (Nat.le_trans (Nat.le_refl 0) (by decide)) e0 N0 ((((q.toUInt64 >>> (((7 : Int32) * i) &&& 0x3f).toInt64.toUInt64).toInt64) &&& (127 : Int64)).toInt32) ((((q.toUInt64 >>> (((7 : Int32) * i) &&& 0x3f).toInt64.toUInt64).toInt64) &&& (127 : Int64)).toInt32) (own_il hi (by assumption) hl) hf
  · rw [if_neg hc3] at hf
    refine Go.step (T' := s₁) (f' := (mkF m 6 #[.val (.ref a), .val (.long q), .second, .val (.int n), .val (.int i), .unset, .unset] [])) (fun t kt => ?_) ?_
    · show Steps p.tables e below (s₁.setTop (mkF m 3 #[.val (.ref a), .val (.long q), .second, .val (.int n), .val (.int i), .unset, .unset] [(.int n), (.int i)])) _
      refine XS.icmpNo X0.here hx rfl (hb hby d5_3) rfl (flt hc3).1 ?_
      exact kt
    refine Go.step (T' := s₁) (f' := (mkF m 7 #[.val (.ref a), .val (.long q), .second, .val (.int n), .val (.int i), .unset, .unset] [(.int (1 : Int32))])) (fun t kt => ?_) ?_
    · show Steps p.tables e below (s₁.setTop (mkF m 6 #[.val (.ref a), .val (.long q), .second, .val (.int n), .val (.int i), .unset, .unset] [])) _
      refine XS.iconst X0.here hx rfl (hb hby d5_6) ?_
      exact kt
    refine Go.fin X0 (v := some (.int (1 : Int32))) (fun h => by rw [Bd.returns] at h; cases h) Bd.notSynchronized ?_ (Nat.le_trans (Nat.le_refl 0) (by decide)) (Nat.le_trans (Nat.le_refl 0) (by decide)) (fun fs hr => retN X0 hx (t := .boolean) Bd.returns (by simp) (hb hby d5_7) hr)
    · exact ⟨by rw [hf], N0, e0⟩
theorem own_bok {v : Int64} {el : List Int32} (h : own_O v el) (i : Int32) (hi : 0 ≤ i.toInt) : ¬ (bokF v (refL v) i el = (0 : Int32)) := by
  unfold bokF
  by_cases hc : i < refL v
  · rw [if_pos hc]
    have hl := own_il hi hc h.1
    have hn := own_nat hi
    have q := h.2 i.toNatClampNeg (by omega)
    rw [own_ofN hi] at q
    unfold own_w own_sh at q
    by_cases hd : i < refL v - (1 : Int32)
    · rw [if_pos hd] at q ⊢
      unfold bokF_41
      rw [if_pos q]; decide
    · rw [if_neg hd] at q ⊢
      unfold bokF_41
      rw [if_pos q]; decide
  · rw [if_neg hc]; decide
theorem own_v (x : Int64) (s : Int32) : ¬ (((((x &&& (9223372036854775807 : Int64)).toUInt64 >>> (((s &&& (2147483647 : Int32)) % (64 : Int32)) &&& 0x3f).toInt64.toUInt64).toInt64)) < (0 : Int64)) := by
  have m := c_maskL x 9223372036854775807 63 (by decide) (by decide)
  rw [Int64.lt_iff_toInt_lt]
  have k : (0 : Int64).toInt = 0 := rfl
  generalize ((s &&& (2147483647 : Int32)) % (64 : Int32)) = t
  by_cases z : (t.toBitVec.toNat % 64) = 0
  · have e : (t &&& 0x3f).toInt64.toUInt64 = 0 := by
      have q := (sm64 t 0 z).1
      apply UInt64.toBitVec_inj.mp
      exact q
    rw [e]
    have : (((x &&& 9223372036854775807).toUInt64 >>> (0 : UInt64)).toInt64) = (x &&& 9223372036854775807) := by simp
    rw [this]; omega
  · have q := c_lushr (x &&& 9223372036854775807) t _ rfl (Nat.pos_of_ne_zero z)
    rw [q, k]
    exact Int.not_lt.mpr (Int.ediv_nonneg (Int.emod_nonneg _ (by decide)) (Int.natCast_nonneg _))
theorem pd_2 : parseMethodDescriptor "(J)[B" = some ⟨[.long], some (.array .byte)⟩ := by decide +kernel
theorem pd_3 : parseMethodDescriptor "([BJII)Z" = some ⟨[(.array .byte), .long, .int, .int], some .boolean⟩ := by decide +kernel
theorem ef_0 (m : MethodId) (x0 : Int64) (x1 : Int32) : entryFrame m #[(.long x0), (.int x1)] maxLocals = mkF m 0 #[.val (.long x0), .second, .val (.int x1), .unset, .unset, .unset, .unset] [] := by first | (simp [entryFrame, mkF, argsToLocals, Value.category, maxLocals]; done) | rfl
def Q0 (Z : State) (p1 : Int64) (p2 : Int32)  (h0 : Heap) (n0 : Nat) (v : Option Value) (h : Heap) (L : List Loc) : Prop := v = some (.int (1 : Int32)) ∧ Fr n0 L
set_option maxRecDepth 65536 in
set_option maxHeartbeats 40000000 in
theorem rm_0 (l : Launch) (Z : State) (a0 : Array Value) (hw : ∀ d ∈ tables_1, d.before a0 Z = true) (ws : List Jvm.Cond) (p1 : Int64) (p2 : Int32)  (h0 : Heap) (n0 : Nat) (Z0 : n0 ≤ h0.size) :
    MetFree l x (head1 (Jvm.Cond.code x code maxLocals ret :: ws) room_1) (fun A_ U => A_ = #[(.long p1), (.int p2)] ∧ Z.Warmed39 U.vm ∧ U.heap = h0) (fun _ _ _ _ _ => True) (fun _ U o U' => ∃ v L, o = .returned v ∧ Q0 Z p1 p2 h0 n0 v U'.heap L ∧ FrameEnd U o U' L 16 128) := by
  refine MetFree.of_bodySF (plainFor_of_name pn_1) hisR ?_
  intro p e s m args below meth c s₁ Bd hml0 hP hK
  obtain ⟨rfl, hZ, hh⟩ := hP
  have hx := Bd.exec
  have hby := Bd.bytes
  have hml : c.maxLocals = 7 := hml0
  have hown : s.vm.findClass "com/example/preamble/preamble/varint/VarintEncodePinLaw" = some m.cls := findClass_of_methodNamed Bd.named
  have hnm := (name_of_methodNamed Bd.named Bd.method).1
  have X0 : Stand p l e room_1 s m #[(.long p1), (.int p2)] below meth c s₁ [] 0 0 := Stand.of_body Bd
  have e0 : s₁.heap = h0 := by rw [← hh, Bd.state]; rfl
  have N0 := Fr.nil n0
  suffices HGO : Go p e below s (Q0 Z p1 p2 h0 n0) 16 128 s₁ (mkF m 0 #[.val (.long p1), .second, .val (.int p2), .unset, .unset, .unset, .unset] []) from Go.cast (ef_0 m p1 p2) HGO
  have S14 : ∀ (T : State) (locs : List Loc) (cells slots : Nat) (X : Stand p l e room_1 s m #[(.long p1), (.int p2)] below meth c T locs cells slots) (hcl : cells ≤ 0) (hsl : slots ≤ 0) (h : Heap) (eT : T.heap = h) (N : Fr n0 locs) (x3 : Int64)  (K : Keep h0 h []) (hv : ¬ (x3 < (0 : Int64))), Go p e below s (Q0 Z p1 p2 h0 n0) 16 128 T (mkF m 14 #[.val (.long p1), .second, .val (.int p2), .val (.long x3), .second, .unset, .unset] []) := by
    intro T locs cells slots X hcl hsl h eT N x3 K hv
    have Zh : n0 ≤ h.size := Nat.le_trans Z0 K.1
    obtain ⟨_, _, ⟨T1, L1, k1, n1⟩, -, X1, ⟨Lc1, hQ1, l1, y1, z1⟩, st1⟩ := Jvm.LawKit.callS X hx (y := (⟨"com/example/preamble/preamble/varint/Varint", "encode", "(J)[B"⟩ : MethodName)) hown (mvT hZ (hw _ (List.mem_of_getElem? (i := 2) rfl))) (mvT hZ (hw _ (List.mem_of_getElem? (i := 3) rfl))) (mvT hZ (hw _ (List.mem_of_getElem? (i := 4) rfl))) (mvT hZ (hw _ (List.mem_of_getElem? (i := 5) rfl))) (by decide) (backOf (W := 0) (rm_encF l Z a0 hw [] x3  h n0 Zh  hv) hZ (hw _ (List.mem_of_getElem? (i := 5) rfl)) (hw _ (List.mem_of_getElem? (i := 4) rfl)) (by decide) (by decide)) (g := (mkF m 15 #[.val (.long p1), .second, .val (.int p2), .val (.long x3), .second, .unset, .unset] [(.long x3)])) rfl (by rw [hml]; rfl) (argsL := [(.long x3)]) (rest := []) (lenOf pd_2 rfl) rfl (by show 2 * 0 + _ ≤ _; exact Nat.le_of_eq rfl) (hb hby at_15) (fun _ _ => ⟨rfl, eT, (Nat.le_trans (Nat.add_le_add_right hcl 1) (by decide)), (Nat.le_trans (Nat.add_le_add_right hsl 9) (by decide))⟩)
    dsimp only [Pt.U, Pt.locs, Pt.cells, Pt.slots] at X1 l1 y1 z1 st1 hQ1
    subst l1 y1 z1
    obtain ⟨b_1, el_1, rfl, N1q, Kq1, fz_b_1, pf1_0, ph1_0⟩ := hQ1
    have g_b_1 : n0 ≤ b_1 := Nat.le_trans Zh fz_b_1
    have sz_b_1 : h0.size ≤ b_1 := Nat.le_trans K.1 fz_b_1
    have K1 : Keep h0 T1.heap [] := Keep.trans K Kq1 all0
    have Z1 : n0 ≤ T1.heap.size := Nat.le_trans Z0 K1.1
    have N1 := Fr.app N N1q
    have hO := ph1_0
    obtain ⟨_, _, ⟨T2, L2, k2, n2⟩, -, X2, ⟨Lc2, hQ2, l2, y2, z2⟩, st2⟩ := Jvm.LawKit.callS X1 hx (y := (⟨"com/example/preamble/preamble/varint/VarintEncodePinLaw", "expectedLength", "(J)I"⟩ : MethodName)) hown (mvT hZ (hw _ (List.mem_of_getElem? (i := 13) rfl))) (mvT hZ (hw _ (List.mem_of_getElem? (i := 14) rfl))) (mvT hZ (hw _ (List.mem_of_getElem? (i := 15) rfl))) (mvT hZ (hw _ (List.mem_of_getElem? (i := 16) rfl))) (by decide) (backOf (W := 0) (rm_refL l Z a0 hw [] x3  T1.heap n0 Z1 ) hZ (hw _ (List.mem_of_getElem? (i := 16) rfl)) (hw _ (List.mem_of_getElem? (i := 15) rfl)) (by decide) (by decide)) (g := (mkF m 21 #[.val (.long p1), .second, .val (.int p2), .val (.long x3), .second, .val (.ref b_1), .unset] [(.long x3)])) rfl (by rw [hml]; rfl) (argsL := [(.long x3)]) (rest := []) (lenOf pd_1 rfl) rfl (by show 2 * 0 + _ ≤ _; exact Nat.le_of_eq rfl) (hb hby at_21) (fun _ _ => ⟨rfl, rfl, (Nat.le_trans (Nat.add_le_add_right (Nat.add_le_add_right hcl 1) 0) (by decide)), (Nat.le_trans (Nat.add_le_add_right (Nat.add_le_add_right hsl 9) 0) (by decide))⟩)
    dsimp only [Pt.U, Pt.locs, Pt.cells, Pt.slots] at X2 l2 y2 z2 st2 hQ2
    subst l2 y2 z2
    obtain ⟨rfl, N2q, e2⟩ := hQ2
    have N2 := Fr.app N1 N2q
    have ln3 : ((el_1.map Value.int).length : Int) = ((refL x3)).toInt := (by rw [List.length_map]; exact hO.1)
    refine Go.step (T' := T2) (f' := (mkF m 31 #[.val (.long p1), .second, .val (.int p2), .val (.long x3), .second, .val (.ref b_1), .val (.int (refL x3))] [(.int (refL x3)), (.int (refL x3))])) (fun t kt => ?_) ?_
    · show Steps p.tables e below (T.setTop (mkF m 14 #[.val (.long p1), .second, .val (.int p2), .val (.long x3), .second, .unset, .unset] [])) _
      refine XS.lloadN X.here hx rfl (hb hby at_14) rfl ?_
      show Steps p.tables e below (T.setTop (mkF m 15 #[.val (.long p1), .second, .val (.int p2), .val (.long x3), .second, .unset, .unset] [(.long x3)])) _
      refine st1 _ ?_
      show Steps p.tables e below (T1.setTop (mkF m 18 #[.val (.long p1), .second, .val (.int p2), .val (.long x3), .second, .unset, .unset] [(.ref b_1)])) _
      refine XS.astore X1.here hx rfl (hb hby at_18) rfl rfl (l' := #[.val (.long p1), .second, .val (.int p2), .val (.long x3), .second, .val (.ref b_1), .unset]) rfl ?_
      show Steps p.tables e below (T1.setTop (mkF m 20 #[.val (.long p1), .second, .val (.int p2), .val (.long x3), .second, .val (.ref b_1), .unset] [])) _
      refine XS.lloadN X1.here hx rfl (hb hby at_20) rfl ?_
      show Steps p.tables e below (T1.setTop (mkF m 21 #[.val (.long p1), .second, .val (.int p2), .val (.long x3), .second, .val (.ref b_1), .unset] [(.long x3)])) _
      refine st2 _ ?_
      show Steps p.tables e below (T2.setTop (mkF m 24 #[.val (.long p1), .second, .val (.int p2), .val (.long x3), .second, .val (.ref b_1), .unset] [(.int (refL x3))])) _
      refine XS.istore X2.here hx rfl (hb hby at_24) rfl (l' := #[.val (.long p1), .second, .val (.int p2), .val (.long x3), .second, .val (.ref b_1), .val (.int (refL x3))]) rfl ?_
      show Steps p.tables e below (T2.setTop (mkF m 26 #[.val (.long p1), .second, .val (.int p2), .val (.long x3), .second, .val (.ref b_1), .val (.int (refL x3))] [])) _
      refine XS.aload X2.here hx rfl (hb hby at_26) rfl rfl ?_
      show Steps p.tables e below (T2.setTop (mkF m 28 #[.val (.long p1), .second, .val (.int p2), .val (.long x3), .second, .val (.ref b_1), .val (.int (refL x3))] [(.ref b_1)])) _
      refine lenA X2 hx hZ e2 pf1_0 (n := (refL x3)) ln3 (g := (mkF m 28 #[.val (.long p1), .second, .val (.int p2), .val (.long x3), .second, .val (.ref b_1), .val (.int (refL x3))] [(.ref b_1)])) rfl rfl (hb hby at_28) _ ?_
      show Steps p.tables e below (T2.setTop (mkF m 29 #[.val (.long p1), .second, .val (.int p2), .val (.long x3), .second, .val (.ref b_1), .val (.int (refL x3))] [(.int (refL x3))])) _
      refine XS.iload X2.here hx rfl (hb hby at_29) rfl ?_
      exact kt
    have hd4 : (refL x3) = (refL x3) := rfl
    obtain ⟨_, _, ⟨T5, L5, k5, n5⟩, -, X5, ⟨Lc5, hQ5, l5, y5, z5⟩, st5⟩ := Jvm.LawKit.callS X2 hx (y := (⟨"com/example/preamble/preamble/varint/VarintEncodePinLaw", "byteOk", "([BJII)Z"⟩ : MethodName)) hown (mvT hZ (hw _ (List.mem_of_getElem? (i := 18) rfl))) (mvT hZ (hw _ (List.mem_of_getElem? (i := 19) rfl))) (mvT hZ (hw _ (List.mem_of_getElem? (i := 15) rfl))) (mvT hZ (hw _ (List.mem_of_getElem? (i := 20) rfl))) (by decide) (backOf (W := 0) (rm_bokF l Z a0 hw [] b_1 x3 (refL x3) (0 : Int32) el_1 T1.heap n0 Z1 pf1_0 hO.1 (by decide)) hZ (hw _ (List.mem_of_getElem? (i := 20) rfl)) (hw _ (List.mem_of_getElem? (i := 15) rfl)) (by decide) (by decide)) (g := (mkF m 42 #[.val (.long p1), .second, .val (.int p2), .val (.long x3), .second, .val (.ref b_1), .val (.int (refL x3))] [(.int (0 : Int32)), (.int (refL x3)), (.long x3), (.ref b_1)])) rfl (by rw [hml]; rfl) (argsL := [(.ref b_1), (.long x3), (.int (refL x3)), (.int (0 : Int32))]) (rest := []) (lenOf pd_3 rfl) rfl (by show 2 * 0 + _ ≤ _; exact Nat.le_of_eq rfl) (hb hby at_42) (fun _ _ => ⟨rfl, e2, (Nat.le_trans (Nat.add_le_add_right (Nat.add_le_add_right (Nat.add_le_add_right hcl 1) 0) 0) (by decide)), (Nat.le_trans (Nat.add_le_add_right (Nat.add_le_add_right (Nat.add_le_add_right hsl 9) 0) 0) (by decide))⟩)
    dsimp only [Pt.U, Pt.locs, Pt.cells, Pt.slots] at X5 l5 y5 z5 st5 hQ5
    subst l5 y5 z5
    obtain ⟨rfl, N5q, e5⟩ := hQ5
    have N5 := Fr.app N2 N5q
    refine Go.step (T' := T5) (f' := (mkF m 45 #[.val (.long p1), .second, .val (.int p2), .val (.long x3), .second, .val (.ref b_1), .val (.int (refL x3))] [(.int (bokF x3 (refL x3) (0 : Int32) el_1))])) (fun t kt => ?_) ?_
    · show Steps p.tables e below (T2.setTop (mkF m 31 #[.val (.long p1), .second, .val (.int p2), .val (.long x3), .second, .val (.ref b_1), .val (.int (refL x3))] [(.int (refL x3)), (.int (refL x3))])) _
      refine XS.icmpYes X2.here hx rfl (pc0 := 31) (pc' := 36) rfl (hb hby at_31) rfl (teq hd4).1 (by decide) (by decide) ?_
      show Steps p.tables e below (T2.setTop (mkF m 36 #[.val (.long p1), .second, .val (.int p2), .val (.long x3), .second, .val (.ref b_1), .val (.int (refL x3))] [])) _
      refine XS.aload X2.here hx rfl (hb hby at_36) rfl rfl ?_
      show Steps p.tables e below (T2.setTop (mkF m 38 #[.val (.long p1), .second, .val (.int p2), .val (.long x3), .second, .val (.ref b_1), .val (.int (refL x3))] [(.ref b_1)])) _
      refine XS.lloadN X2.here hx rfl (hb hby at_38) rfl ?_
      show Steps p.tables e below (T2.setTop (mkF m 39 #[.val (.long p1), .second, .val (.int p2), .val (.long x3), .second, .val (.ref b_1), .val (.int (refL x3))] [(.long x3), (.ref b_1)])) _
      refine XS.iload X2.here hx rfl (hb hby at_39) rfl ?_
      show Steps p.tables e below (T2.setTop (mkF m 41 #[.val (.long p1), .second, .val (.int p2), .val (.long x3), .second, .val (.ref b_1), .val (.int (refL x3))] [(.int (refL x3)), (.long x3), (.ref b_1)])) _
      refine XS.iconst X2.here hx rfl (hb hby at_41) ?_
      show Steps p.tables e below (T2.setTop (mkF m 42 #[.val (.long p1), .second, .val (.int p2), .val (.long x3), .second, .val (.ref b_1), .val (.int (refL x3))] [(.int (0 : Int32)), (.int (refL x3)), (.long x3), (.ref b_1)])) _
      refine st5 _ ?_
      exact kt
    have hd6 : ¬ ((bokF x3 (refL x3) (0 : Int32) el_1) = (0 : Int32)) := own_bok hO 0 (by decide)
    obtain ⟨_, _, ⟨T7, L7, k7, n7⟩, -, X7, ⟨Lc7, hQ7, l7, y7, z7⟩, st7⟩ := Jvm.LawKit.callS X5 hx (y := (⟨"com/example/preamble/preamble/varint/VarintEncodePinLaw", "byteOk", "([BJII)Z"⟩ : MethodName)) hown (mvT hZ (hw _ (List.mem_of_getElem? (i := 18) rfl))) (mvT hZ (hw _ (List.mem_of_getElem? (i := 19) rfl))) (mvT hZ (hw _ (List.mem_of_getElem? (i := 15) rfl))) (mvT hZ (hw _ (List.mem_of_getElem? (i := 20) rfl))) (by decide) (backOf (W := 0) (rm_bokF l Z a0 hw [] b_1 x3 (refL x3) (1 : Int32) el_1 T1.heap n0 Z1 pf1_0 hO.1 (by decide)) hZ (hw _ (List.mem_of_getElem? (i := 20) rfl)) (hw _ (List.mem_of_getElem? (i := 15) rfl)) (by decide) (by decide)) (g := (mkF m 54 #[.val (.long p1), .second, .val (.int p2), .val (.long x3), .second, .val (.ref b_1), .val (.int (refL x3))] [(.int (1 : Int32)), (.int (refL x3)), (.long x3), (.ref b_1)])) rfl (by rw [hml]; rfl) (argsL := [(.ref b_1), (.long x3), (.int (refL x3)), (.int (1 : Int32))]) (rest := []) (lenOf pd_3 rfl) rfl (by show 2 * 0 + _ ≤ _; exact Nat.le_of_eq rfl) (hb hby at_54) (fun _ _ => ⟨rfl, e5, (Nat.le_trans (Nat.add_le_add_right (Nat.add_le_add_right (Nat.add_le_add_right (Nat.add_le_add_right hcl 1) 0) 0) 0) (by decide)), (Nat.le_trans (Nat.add_le_add_right (Nat.add_le_add_right (Nat.add_le_add_right (Nat.add_le_add_right hsl 9) 0) 0) 0) (by decide))⟩)
    dsimp only [Pt.U, Pt.locs, Pt.cells, Pt.slots] at X7 l7 y7 z7 st7 hQ7
    subst l7 y7 z7
    obtain ⟨rfl, N7q, e7⟩ := hQ7
    have N7 := Fr.app N5 N7q
    refine Go.step (T' := T7) (f' := (mkF m 57 #[.val (.long p1), .second, .val (.int p2), .val (.long x3), .second, .val (.ref b_1), .val (.int (refL x3))] [(.int (bokF x3 (refL x3) (1 : Int32) el_1))])) (fun t kt => ?_) ?_
    · show Steps p.tables e below (T5.setTop (mkF m 45 #[.val (.long p1), .second, .val (.int p2), .val (.long x3), .second, .val (.ref b_1), .val (.int (refL x3))] [(.int (bokF x3 (refL x3) (0 : Int32) el_1))])) _
      refine XS.ifNo X5.here hx rfl (hb hby at_45) rfl ((if0 _ _).trans (feq hd6).1) ?_
      show Steps p.tables e below (T5.setTop (mkF m 48 #[.val (.long p1), .second, .val (.int p2), .val (.long x3), .second, .val (.ref b_1), .val (.int (refL x3))] [])) _
      refine XS.aload X5.here hx rfl (hb hby at_48) rfl rfl ?_
      show Steps p.tables e below (T5.setTop (mkF m 50 #[.val (.long p1), .second, .val (.int p2), .val (.long x3), .second, .val (.ref b_1), .val (.int (refL x3))] [(.ref b_1)])) _
      refine XS.lloadN X5.here hx rfl (hb hby at_50) rfl ?_
      show Steps p.tables e below (T5.setTop (mkF m 51 #[.val (.long p1), .second, .val (.int p2), .val (.long x3), .second, .val (.ref b_1), .val (.int (refL x3))] [(.long x3), (.ref b_1)])) _
      refine XS.iload X5.here hx rfl (hb hby at_51) rfl ?_
      show Steps p.tables e below (T5.setTop (mkF m 53 #[.val (.long p1), .second, .val (.int p2), .val (.long x3), .second, .val (.ref b_1), .val (.int (refL x3))] [(.int (refL x3)), (.long x3), (.ref b_1)])) _
      refine XS.iconst X5.here hx rfl (hb hby at_53) ?_
      show Steps p.tables e below (T5.setTop (mkF m 54 #[.val (.long p1), .second, .val (.int p2), .val (.long x3), .second, .val (.ref b_1), .val (.int (refL x3))] [(.int (1 : Int32)), (.int (refL x3)), (.long x3), (.ref b_1)])) _
      refine st7 _ ?_
      exact kt
    have hd8 : ¬ ((bokF x3 (refL x3) (1 : Int32) el_1) = (0 : Int32)) := own_bok hO 1 (by decide)
    obtain ⟨_, _, ⟨T9, L9, k9, n9⟩, -, X9, ⟨Lc9, hQ9, l9, y9, z9⟩, st9⟩ := Jvm.LawKit.callS X7 hx (y := (⟨"com/example/preamble/preamble/varint/VarintEncodePinLaw", "byteOk", "([BJII)Z"⟩ : MethodName)) hown (mvT hZ (hw _ (List.mem_of_getElem? (i := 18) rfl))) (mvT hZ (hw _ (List.mem_of_getElem? (i := 19) rfl))) (mvT hZ (hw _ (List.mem_of_getElem? (i := 15) rfl))) (mvT hZ (hw _ (List.mem_of_getElem? (i := 20) rfl))) (by decide) (backOf (W := 0) (rm_bokF l Z a0 hw [] b_1 x3 (refL x3) (2 : Int32) el_1 T1.heap n0 Z1 pf1_0 hO.1 (by decide)) hZ (hw _ (List.mem_of_getElem? (i := 20) rfl)) (hw _ (List.mem_of_getElem? (i := 15) rfl)) (by decide) (by decide)) (g := (mkF m 66 #[.val (.long p1), .second, .val (.int p2), .val (.long x3), .second, .val (.ref b_1), .val (.int (refL x3))] [(.int (2 : Int32)), (.int (refL x3)), (.long x3), (.ref b_1)])) rfl (by rw [hml]; rfl) (argsL := [(.ref b_1), (.long x3), (.int (refL x3)), (.int (2 : Int32))]) (rest := []) (lenOf pd_3 rfl) rfl (by show 2 * 0 + _ ≤ _; exact Nat.le_of_eq rfl) (hb hby at_66) (fun _ _ => ⟨rfl, e7, (Nat.le_trans (Nat.add_le_add_right (Nat.add_le_add_right (Nat.add_le_add_right (Nat.add_le_add_right (Nat.add_le_add_right hcl 1) 0) 0) 0) 0) (by decide)), (Nat.le_trans (Nat.add_le_add_right (Nat.add_le_add_right (Nat.add_le_add_right (Nat.add_le_add_right (Nat.add_le_add_right hsl 9) 0) 0) 0) 0) (by decide))⟩)
    dsimp only [Pt.U, Pt.locs, Pt.cells, Pt.slots] at X9 l9 y9 z9 st9 hQ9
    subst l9 y9 z9
    obtain ⟨rfl, N9q, e9⟩ := hQ9
    have N9 := Fr.app N7 N9q
    refine Go.step (T' := T9) (f' := (mkF m 69 #[.val (.long p1), .second, .val (.int p2), .val (.long x3), .second, .val (.ref b_1), .val (.int (refL x3))] [(.int (bokF x3 (refL x3) (2 : Int32) el_1))])) (fun t kt => ?_) ?_
    · show Steps p.tables e below (T7.setTop (mkF m 57 #[.val (.long p1), .second, .val (.int p2), .val (.long x3), .second, .val (.ref b_1), .val (.int (refL x3))] [(.int (bokF x3 (refL x3) (1 : Int32) el_1))])) _
      refine XS.ifNo X7.here hx rfl (hb hby at_57) rfl ((if0 _ _).trans (feq hd8).1) ?_
      show Steps p.tables e below (T7.setTop (mkF m 60 #[.val (.long p1), .second, .val (.int p2), .val (.long x3), .second, .val (.ref b_1), .val (.int (refL x3))] [])) _
      refine XS.aload X7.here hx rfl (hb hby at_60) rfl rfl ?_
      show Steps p.tables e below (T7.setTop (mkF m 62 #[.val (.long p1), .second, .val (.int p2), .val (.long x3), .second, .val (.ref b_1), .val (.int (refL x3))] [(.ref b_1)])) _
      refine XS.lloadN X7.here hx rfl (hb hby at_62) rfl ?_
      show Steps p.tables e below (T7.setTop (mkF m 63 #[.val (.long p1), .second, .val (.int p2), .val (.long x3), .second, .val (.ref b_1), .val (.int (refL x3))] [(.long x3), (.ref b_1)])) _
      refine XS.iload X7.here hx rfl (hb hby at_63) rfl ?_
      show Steps p.tables e below (T7.setTop (mkF m 65 #[.val (.long p1), .second, .val (.int p2), .val (.long x3), .second, .val (.ref b_1), .val (.int (refL x3))] [(.int (refL x3)), (.long x3), (.ref b_1)])) _
      refine XS.iconst X7.here hx rfl (hb hby at_65) ?_
      show Steps p.tables e below (T7.setTop (mkF m 66 #[.val (.long p1), .second, .val (.int p2), .val (.long x3), .second, .val (.ref b_1), .val (.int (refL x3))] [(.int (2 : Int32)), (.int (refL x3)), (.long x3), (.ref b_1)])) _
      refine st9 _ ?_
      exact kt
    have hd10 : ¬ ((bokF x3 (refL x3) (2 : Int32) el_1) = (0 : Int32)) := own_bok hO 2 (by decide)
    obtain ⟨_, _, ⟨T11, L11, k11, n11⟩, -, X11, ⟨Lc11, hQ11, l11, y11, z11⟩, st11⟩ := Jvm.LawKit.callS X9 hx (y := (⟨"com/example/preamble/preamble/varint/VarintEncodePinLaw", "byteOk", "([BJII)Z"⟩ : MethodName)) hown (mvT hZ (hw _ (List.mem_of_getElem? (i := 18) rfl))) (mvT hZ (hw _ (List.mem_of_getElem? (i := 19) rfl))) (mvT hZ (hw _ (List.mem_of_getElem? (i := 15) rfl))) (mvT hZ (hw _ (List.mem_of_getElem? (i := 20) rfl))) (by decide) (backOf (W := 0) (rm_bokF l Z a0 hw [] b_1 x3 (refL x3) (3 : Int32) el_1 T1.heap n0 Z1 pf1_0 hO.1 (by decide)) hZ (hw _ (List.mem_of_getElem? (i := 20) rfl)) (hw _ (List.mem_of_getElem? (i := 15) rfl)) (by decide) (by decide)) (g := (mkF m 78 #[.val (.long p1), .second, .val (.int p2), .val (.long x3), .second, .val (.ref b_1), .val (.int (refL x3))] [(.int (3 : Int32)), (.int (refL x3)), (.long x3), (.ref b_1)])) rfl (by rw [hml]; rfl) (argsL := [(.ref b_1), (.long x3), (.int (refL x3)), (.int (3 : Int32))]) (rest := []) (lenOf pd_3 rfl) rfl (by show 2 * 0 + _ ≤ _; exact Nat.le_of_eq rfl) (hb hby at_78) (fun _ _ => ⟨rfl, e9, (Nat.le_trans (Nat.add_le_add_right (Nat.add_le_add_right (Nat.add_le_add_right (Nat.add_le_add_right (Nat.add_le_add_right (Nat.add_le_add_right hcl 1) 0) 0) 0) 0) 0) (by decide)), (Nat.le_trans (Nat.add_le_add_right (Nat.add_le_add_right (Nat.add_le_add_right (Nat.add_le_add_right (Nat.add_le_add_right (Nat.add_le_add_right hsl 9) 0) 0) 0) 0) 0) (by decide))⟩)
    dsimp only [Pt.U, Pt.locs, Pt.cells, Pt.slots] at X11 l11 y11 z11 st11 hQ11
    subst l11 y11 z11
    obtain ⟨rfl, N11q, e11⟩ := hQ11
    have N11 := Fr.app N9 N11q
    refine Go.step (T' := T11) (f' := (mkF m 81 #[.val (.long p1), .second, .val (.int p2), .val (.long x3), .second, .val (.ref b_1), .val (.int (refL x3))] [(.int (bokF x3 (refL x3) (3 : Int32) el_1))])) (fun t kt => ?_) ?_
    · show Steps p.tables e below (T9.setTop (mkF m 69 #[.val (.long p1), .second, .val (.int p2), .val (.long x3), .second, .val (.ref b_1), .val (.int (refL x3))] [(.int (bokF x3 (refL x3) (2 : Int32) el_1))])) _
      refine XS.ifNo X9.here hx rfl (hb hby at_69) rfl ((if0 _ _).trans (feq hd10).1) ?_
      show Steps p.tables e below (T9.setTop (mkF m 72 #[.val (.long p1), .second, .val (.int p2), .val (.long x3), .second, .val (.ref b_1), .val (.int (refL x3))] [])) _
      refine XS.aload X9.here hx rfl (hb hby at_72) rfl rfl ?_
      show Steps p.tables e below (T9.setTop (mkF m 74 #[.val (.long p1), .second, .val (.int p2), .val (.long x3), .second, .val (.ref b_1), .val (.int (refL x3))] [(.ref b_1)])) _
      refine XS.lloadN X9.here hx rfl (hb hby at_74) rfl ?_
      show Steps p.tables e below (T9.setTop (mkF m 75 #[.val (.long p1), .second, .val (.int p2), .val (.long x3), .second, .val (.ref b_1), .val (.int (refL x3))] [(.long x3), (.ref b_1)])) _
      refine XS.iload X9.here hx rfl (hb hby at_75) rfl ?_
      show Steps p.tables e below (T9.setTop (mkF m 77 #[.val (.long p1), .second, .val (.int p2), .val (.long x3), .second, .val (.ref b_1), .val (.int (refL x3))] [(.int (refL x3)), (.long x3), (.ref b_1)])) _
      refine XS.iconst X9.here hx rfl (hb hby at_77) ?_
      show Steps p.tables e below (T9.setTop (mkF m 78 #[.val (.long p1), .second, .val (.int p2), .val (.long x3), .second, .val (.ref b_1), .val (.int (refL x3))] [(.int (3 : Int32)), (.int (refL x3)), (.long x3), (.ref b_1)])) _
      refine st11 _ ?_
      exact kt
    have hd12 : ¬ ((bokF x3 (refL x3) (3 : Int32) el_1) = (0 : Int32)) := own_bok hO 3 (by decide)
    obtain ⟨_, _, ⟨T13, L13, k13, n13⟩, -, X13, ⟨Lc13, hQ13, l13, y13, z13⟩, st13⟩ := Jvm.LawKit.callS X11 hx (y := (⟨"com/example/preamble/preamble/varint/VarintEncodePinLaw", "byteOk", "([BJII)Z"⟩ : MethodName)) hown (mvT hZ (hw _ (List.mem_of_getElem? (i := 18) rfl))) (mvT hZ (hw _ (List.mem_of_getElem? (i := 19) rfl))) (mvT hZ (hw _ (List.mem_of_getElem? (i := 15) rfl))) (mvT hZ (hw _ (List.mem_of_getElem? (i := 20) rfl))) (by decide) (backOf (W := 0) (rm_bokF l Z a0 hw [] b_1 x3 (refL x3) (4 : Int32) el_1 T1.heap n0 Z1 pf1_0 hO.1 (by decide)) hZ (hw _ (List.mem_of_getElem? (i := 20) rfl)) (hw _ (List.mem_of_getElem? (i := 15) rfl)) (by decide) (by decide)) (g := (mkF m 90 #[.val (.long p1), .second, .val (.int p2), .val (.long x3), .second, .val (.ref b_1), .val (.int (refL x3))] [(.int (4 : Int32)), (.int (refL x3)), (.long x3), (.ref b_1)])) rfl (by rw [hml]; rfl) (argsL := [(.ref b_1), (.long x3), (.int (refL x3)), (.int (4 : Int32))]) (rest := []) (lenOf pd_3 rfl) rfl (by show 2 * 0 + _ ≤ _; exact Nat.le_of_eq rfl) (hb hby at_90) (fun _ _ => ⟨rfl, e11, (Nat.le_trans (Nat.add_le_add_right (Nat.add_le_add_right (Nat.add_le_add_right (Nat.add_le_add_right (Nat.add_le_add_right (Nat.add_le_add_right (Nat.add_le_add_right hcl 1) 0) 0) 0) 0) 0) 0) (by decide)), (Nat.le_trans (Nat.add_le_add_right (Nat.add_le_add_right (Nat.add_le_add_right (Nat.add_le_add_right (Nat.add_le_add_right (Nat.add_le_add_right (Nat.add_le_add_right hsl 9) 0) 0) 0) 0) 0) 0) (by decide))⟩)
    dsimp only [Pt.U, Pt.locs, Pt.cells, Pt.slots] at X13 l13 y13 z13 st13 hQ13
    subst l13 y13 z13
    obtain ⟨rfl, N13q, e13⟩ := hQ13
    have N13 := Fr.app N11 N13q
    refine Go.step (T' := T13) (f' := (mkF m 93 #[.val (.long p1), .second, .val (.int p2), .val (.long x3), .second, .val (.ref b_1), .val (.int (refL x3))] [(.int (bokF x3 (refL x3) (4 : Int32) el_1))])) (fun t kt => ?_) ?_
    · show Steps p.tables e below (T11.setTop (mkF m 81 #[.val (.long p1), .second, .val (.int p2), .val (.long x3), .second, .val (.ref b_1), .val (.int (refL x3))] [(.int (bokF x3 (refL x3) (3 : Int32) el_1))])) _
      refine XS.ifNo X11.here hx rfl (hb hby at_81) rfl ((if0 _ _).trans (feq hd12).1) ?_
      show Steps p.tables e below (T11.setTop (mkF m 84 #[.val (.long p1), .second, .val (.int p2), .val (.long x3), .second, .val (.ref b_1), .val (.int (refL x3))] [])) _
      refine XS.aload X11.here hx rfl (hb hby at_84) rfl rfl ?_
      show Steps p.tables e below (T11.setTop (mkF m 86 #[.val (.long p1), .second, .val (.int p2), .val (.long x3), .second, .val (.ref b_1), .val (.int (refL x3))] [(.ref b_1)])) _
      refine XS.lloadN X11.here hx rfl (hb hby at_86) rfl ?_
      show Steps p.tables e below (T11.setTop (mkF m 87 #[.val (.long p1), .second, .val (.int p2), .val (.long x3), .second, .val (.ref b_1), .val (.int (refL x3))] [(.long x3), (.ref b_1)])) _
      refine XS.iload X11.here hx rfl (hb hby at_87) rfl ?_
      show Steps p.tables e below (T11.setTop (mkF m 89 #[.val (.long p1), .second, .val (.int p2), .val (.long x3), .second, .val (.ref b_1), .val (.int (refL x3))] [(.int (refL x3)), (.long x3), (.ref b_1)])) _
      refine XS.iconst X11.here hx rfl (hb hby at_89) ?_
      show Steps p.tables e below (T11.setTop (mkF m 90 #[.val (.long p1), .second, .val (.int p2), .val (.long x3), .second, .val (.ref b_1), .val (.int (refL x3))] [(.int (4 : Int32)), (.int (refL x3)), (.long x3), (.ref b_1)])) _
      refine st13 _ ?_
      exact kt
    have hd14 : ¬ ((bokF x3 (refL x3) (4 : Int32) el_1) = (0 : Int32)) := own_bok hO 4 (by decide)
    obtain ⟨_, _, ⟨T15, L15, k15, n15⟩, -, X15, ⟨Lc15, hQ15, l15, y15, z15⟩, st15⟩ := Jvm.LawKit.callS X13 hx (y := (⟨"com/example/preamble/preamble/varint/VarintEncodePinLaw", "byteOk", "([BJII)Z"⟩ : MethodName)) hown (mvT hZ (hw _ (List.mem_of_getElem? (i := 18) rfl))) (mvT hZ (hw _ (List.mem_of_getElem? (i := 19) rfl))) (mvT hZ (hw _ (List.mem_of_getElem? (i := 15) rfl))) (mvT hZ (hw _ (List.mem_of_getElem? (i := 20) rfl))) (by decide) (backOf (W := 0) (rm_bokF l Z a0 hw [] b_1 x3 (refL x3) (5 : Int32) el_1 T1.heap n0 Z1 pf1_0 hO.1 (by decide)) hZ (hw _ (List.mem_of_getElem? (i := 20) rfl)) (hw _ (List.mem_of_getElem? (i := 15) rfl)) (by decide) (by decide)) (g := (mkF m 102 #[.val (.long p1), .second, .val (.int p2), .val (.long x3), .second, .val (.ref b_1), .val (.int (refL x3))] [(.int (5 : Int32)), (.int (refL x3)), (.long x3), (.ref b_1)])) rfl (by rw [hml]; rfl) (argsL := [(.ref b_1), (.long x3), (.int (refL x3)), (.int (5 : Int32))]) (rest := []) (lenOf pd_3 rfl) rfl (by show 2 * 0 + _ ≤ _; exact Nat.le_of_eq rfl) (hb hby at_102) (fun _ _ => ⟨rfl, e13, (Nat.le_trans (Nat.add_le_add_right (Nat.add_le_add_right (Nat.add_le_add_right (Nat.add_le_add_right (Nat.add_le_add_right (Nat.add_le_add_right (Nat.add_le_add_right (Nat.add_le_add_right hcl 1) 0) 0) 0) 0) 0) 0) 0) (by decide)), (Nat.le_trans (Nat.add_le_add_right (Nat.add_le_add_right (Nat.add_le_add_right (Nat.add_le_add_right (Nat.add_le_add_right (Nat.add_le_add_right (Nat.add_le_add_right (Nat.add_le_add_right hsl 9) 0) 0) 0) 0) 0) 0) 0) (by decide))⟩)
    dsimp only [Pt.U, Pt.locs, Pt.cells, Pt.slots] at X15 l15 y15 z15 st15 hQ15
    subst l15 y15 z15
    obtain ⟨rfl, N15q, e15⟩ := hQ15
    have N15 := Fr.app N13 N15q
    refine Go.step (T' := T15) (f' := (mkF m 105 #[.val (.long p1), .second, .val (.int p2), .val (.long x3), .second, .val (.ref b_1), .val (.int (refL x3))] [(.int (bokF x3 (refL x3) (5 : Int32) el_1))])) (fun t kt => ?_) ?_
    · show Steps p.tables e below (T13.setTop (mkF m 93 #[.val (.long p1), .second, .val (.int p2), .val (.long x3), .second, .val (.ref b_1), .val (.int (refL x3))] [(.int (bokF x3 (refL x3) (4 : Int32) el_1))])) _
      refine XS.ifNo X13.here hx rfl (hb hby at_93) rfl ((if0 _ _).trans (feq hd14).1) ?_
      show Steps p.tables e below (T13.setTop (mkF m 96 #[.val (.long p1), .second, .val (.int p2), .val (.long x3), .second, .val (.ref b_1), .val (.int (refL x3))] [])) _
      refine XS.aload X13.here hx rfl (hb hby at_96) rfl rfl ?_
      show Steps p.tables e below (T13.setTop (mkF m 98 #[.val (.long p1), .second, .val (.int p2), .val (.long x3), .second, .val (.ref b_1), .val (.int (refL x3))] [(.ref b_1)])) _
      refine XS.lloadN X13.here hx rfl (hb hby at_98) rfl ?_
      show Steps p.tables e below (T13.setTop (mkF m 99 #[.val (.long p1), .second, .val (.int p2), .val (.long x3), .second, .val (.ref b_1), .val (.int (refL x3))] [(.long x3), (.ref b_1)])) _
      refine XS.iload X13.here hx rfl (hb hby at_99) rfl ?_
      show Steps p.tables e below (T13.setTop (mkF m 101 #[.val (.long p1), .second, .val (.int p2), .val (.long x3), .second, .val (.ref b_1), .val (.int (refL x3))] [(.int (refL x3)), (.long x3), (.ref b_1)])) _
      refine XS.iconst X13.here hx rfl (hb hby at_101) ?_
      show Steps p.tables e below (T13.setTop (mkF m 102 #[.val (.long p1), .second, .val (.int p2), .val (.long x3), .second, .val (.ref b_1), .val (.int (refL x3))] [(.int (5 : Int32)), (.int (refL x3)), (.long x3), (.ref b_1)])) _
      refine st15 _ ?_
      exact kt
    have hd16 : ¬ ((bokF x3 (refL x3) (5 : Int32) el_1) = (0 : Int32)) := own_bok hO 5 (by decide)
    obtain ⟨_, _, ⟨T17, L17, k17, n17⟩, -, X17, ⟨Lc17, hQ17, l17, y17, z17⟩, st17⟩ := Jvm.LawKit.callS X15 hx (y := (⟨"com/example/preamble/preamble/varint/VarintEncodePinLaw", "byteOk", "([BJII)Z"⟩ : MethodName)) hown (mvT hZ (hw _ (List.mem_of_getElem? (i := 18) rfl))) (mvT hZ (hw _ (List.mem_of_getElem? (i := 19) rfl))) (mvT hZ (hw _ (List.mem_of_getElem? (i := 15) rfl))) (mvT hZ (hw _ (List.mem_of_getElem? (i := 20) rfl))) (by decide) (backOf (W := 0) (rm_bokF l Z a0 hw [] b_1 x3 (refL x3) (6 : Int32) el_1 T1.heap n0 Z1 pf1_0 hO.1 (by decide)) hZ (hw _ (List.mem_of_getElem? (i := 20) rfl)) (hw _ (List.mem_of_getElem? (i := 15) rfl)) (by decide) (by decide)) (g := (mkF m 115 #[.val (.long p1), .second, .val (.int p2), .val (.long x3), .second, .val (.ref b_1), .val (.int (refL x3))] [(.int (6 : Int32)), (.int (refL x3)), (.long x3), (.ref b_1)])) rfl (by rw [hml]; rfl) (argsL := [(.ref b_1), (.long x3), (.int (refL x3)), (.int (6 : Int32))]) (rest := []) (lenOf pd_3 rfl) rfl (by show 2 * 0 + _ ≤ _; exact Nat.le_of_eq rfl) (hb hby at_115) (fun _ _ => ⟨rfl, e15, (Nat.le_trans (Nat.add_le_add_right (Nat.add_le_add_right (Nat.add_le_add_right (Nat.add_le_add_right (Nat.add_le_add_right (Nat.add_le_add_right (Nat.add_le_add_right (Nat.add_le_add_right (Nat.add_le_add_right hcl 1) 0) 0) 0) 0) 0) 0) 0) 0) (by decide)), (Nat.le_trans (Nat.add_le_add_right (Nat.add_le_add_right (Nat.add_le_add_right (Nat.add_le_add_right (Nat.add_le_add_right (Nat.add_le_add_right (Nat.add_le_add_right (Nat.add_le_add_right (Nat.add_le_add_right hsl 9) 0) 0) 0) 0) 0) 0) 0) 0) (by decide))⟩)
    dsimp only [Pt.U, Pt.locs, Pt.cells, Pt.slots] at X17 l17 y17 z17 st17 hQ17
    subst l17 y17 z17
    obtain ⟨rfl, N17q, e17⟩ := hQ17
    have N17 := Fr.app N15 N17q
    refine Go.step (T' := T17) (f' := (mkF m 118 #[.val (.long p1), .second, .val (.int p2), .val (.long x3), .second, .val (.ref b_1), .val (.int (refL x3))] [(.int (bokF x3 (refL x3) (6 : Int32) el_1))])) (fun t kt => ?_) ?_
    · show Steps p.tables e below (T15.setTop (mkF m 105 #[.val (.long p1), .second, .val (.int p2), .val (.long x3), .second, .val (.ref b_1), .val (.int (refL x3))] [(.int (bokF x3 (refL x3) (5 : Int32) el_1))])) _
      refine XS.ifNo X15.here hx rfl (hb hby at_105) rfl ((if0 _ _).trans (feq hd16).1) ?_
      show Steps p.tables e below (T15.setTop (mkF m 108 #[.val (.long p1), .second, .val (.int p2), .val (.long x3), .second, .val (.ref b_1), .val (.int (refL x3))] [])) _
      refine XS.aload X15.here hx rfl (hb hby at_108) rfl rfl ?_
      show Steps p.tables e below (T15.setTop (mkF m 110 #[.val (.long p1), .second, .val (.int p2), .val (.long x3), .second, .val (.ref b_1), .val (.int (refL x3))] [(.ref b_1)])) _
      refine XS.lloadN X15.here hx rfl (hb hby at_110) rfl ?_
      show Steps p.tables e below (T15.setTop (mkF m 111 #[.val (.long p1), .second, .val (.int p2), .val (.long x3), .second, .val (.ref b_1), .val (.int (refL x3))] [(.long x3), (.ref b_1)])) _
      refine XS.iload X15.here hx rfl (hb hby at_111) rfl ?_
      show Steps p.tables e below (T15.setTop (mkF m 113 #[.val (.long p1), .second, .val (.int p2), .val (.long x3), .second, .val (.ref b_1), .val (.int (refL x3))] [(.int (refL x3)), (.long x3), (.ref b_1)])) _
      refine XS.bipush X15.here hx rfl (hb hby at_113) ?_
      show Steps p.tables e below (T15.setTop (mkF m 115 #[.val (.long p1), .second, .val (.int p2), .val (.long x3), .second, .val (.ref b_1), .val (.int (refL x3))] [(.int (6 : Int32)), (.int (refL x3)), (.long x3), (.ref b_1)])) _
      refine st17 _ ?_
      exact kt
    have hd18 : ¬ ((bokF x3 (refL x3) (6 : Int32) el_1) = (0 : Int32)) := own_bok hO 6 (by decide)
    obtain ⟨_, _, ⟨T19, L19, k19, n19⟩, -, X19, ⟨Lc19, hQ19, l19, y19, z19⟩, st19⟩ := Jvm.LawKit.callS X17 hx (y := (⟨"com/example/preamble/preamble/varint/VarintEncodePinLaw", "byteOk", "([BJII)Z"⟩ : MethodName)) hown (mvT hZ (hw _ (List.mem_of_getElem? (i := 18) rfl))) (mvT hZ (hw _ (List.mem_of_getElem? (i := 19) rfl))) (mvT hZ (hw _ (List.mem_of_getElem? (i := 15) rfl))) (mvT hZ (hw _ (List.mem_of_getElem? (i := 20) rfl))) (by decide) (backOf (W := 0) (rm_bokF l Z a0 hw [] b_1 x3 (refL x3) (7 : Int32) el_1 T1.heap n0 Z1 pf1_0 hO.1 (by decide)) hZ (hw _ (List.mem_of_getElem? (i := 20) rfl)) (hw _ (List.mem_of_getElem? (i := 15) rfl)) (by decide) (by decide)) (g := (mkF m 128 #[.val (.long p1), .second, .val (.int p2), .val (.long x3), .second, .val (.ref b_1), .val (.int (refL x3))] [(.int (7 : Int32)), (.int (refL x3)), (.long x3), (.ref b_1)])) rfl (by rw [hml]; rfl) (argsL := [(.ref b_1), (.long x3), (.int (refL x3)), (.int (7 : Int32))]) (rest := []) (lenOf pd_3 rfl) rfl (by show 2 * 0 + _ ≤ _; exact Nat.le_of_eq rfl) (hb hby at_128) (fun _ _ => ⟨rfl, e17, (Nat.le_trans (Nat.add_le_add_right (Nat.add_le_add_right (Nat.add_le_add_right (Nat.add_le_add_right (Nat.add_le_add_right (Nat.add_le_add_right (Nat.add_le_add_right (Nat.add_le_add_right (Nat.add_le_add_right (Nat.add_le_add_right hcl 1) 0) 0) 0) 0) 0) 0) 0) 0) 0) (by decide)), (Nat.le_trans (Nat.add_le_add_right (Nat.add_le_add_right (Nat.add_le_add_right (Nat.add_le_add_right (Nat.add_le_add_right (Nat.add_le_add_right (Nat.add_le_add_right (Nat.add_le_add_right (Nat.add_le_add_right (Nat.add_le_add_right hsl 9) 0) 0) 0) 0) 0) 0) 0) 0) 0) (by decide))⟩)
    dsimp only [Pt.U, Pt.locs, Pt.cells, Pt.slots] at X19 l19 y19 z19 st19 hQ19
    subst l19 y19 z19
    obtain ⟨rfl, N19q, e19⟩ := hQ19
    have N19 := Fr.app N17 N19q
    refine Go.step (T' := T19) (f' := (mkF m 131 #[.val (.long p1), .second, .val (.int p2), .val (.long x3), .second, .val (.ref b_1), .val (.int (refL x3))] [(.int (bokF x3 (refL x3) (7 : Int32) el_1))])) (fun t kt => ?_) ?_
    · show Steps p.tables e below (T17.setTop (mkF m 118 #[.val (.long p1), .second, .val (.int p2), .val (.long x3), .second, .val (.ref b_1), .val (.int (refL x3))] [(.int (bokF x3 (refL x3) (6 : Int32) el_1))])) _
      refine XS.ifNo X17.here hx rfl (hb hby at_118) rfl ((if0 _ _).trans (feq hd18).1) ?_
      show Steps p.tables e below (T17.setTop (mkF m 121 #[.val (.long p1), .second, .val (.int p2), .val (.long x3), .second, .val (.ref b_1), .val (.int (refL x3))] [])) _
      refine XS.aload X17.here hx rfl (hb hby at_121) rfl rfl ?_
      show Steps p.tables e below (T17.setTop (mkF m 123 #[.val (.long p1), .second, .val (.int p2), .val (.long x3), .second, .val (.ref b_1), .val (.int (refL x3))] [(.ref b_1)])) _
      refine XS.lloadN X17.here hx rfl (hb hby at_123) rfl ?_
      show Steps p.tables e below (T17.setTop (mkF m 124 #[.val (.long p1), .second, .val (.int p2), .val (.long x3), .second, .val (.ref b_1), .val (.int (refL x3))] [(.long x3), (.ref b_1)])) _
      refine XS.iload X17.here hx rfl (hb hby at_124) rfl ?_
      show Steps p.tables e below (T17.setTop (mkF m 126 #[.val (.long p1), .second, .val (.int p2), .val (.long x3), .second, .val (.ref b_1), .val (.int (refL x3))] [(.int (refL x3)), (.long x3), (.ref b_1)])) _
      refine XS.bipush X17.here hx rfl (hb hby at_126) ?_
      show Steps p.tables e below (T17.setTop (mkF m 128 #[.val (.long p1), .second, .val (.int p2), .val (.long x3), .second, .val (.ref b_1), .val (.int (refL x3))] [(.int (7 : Int32)), (.int (refL x3)), (.long x3), (.ref b_1)])) _
      refine st19 _ ?_
      exact kt
    have hd20 : ¬ ((bokF x3 (refL x3) (7 : Int32) el_1) = (0 : Int32)) := own_bok hO 7 (by decide)
    obtain ⟨_, _, ⟨T21, L21, k21, n21⟩, -, X21, ⟨Lc21, hQ21, l21, y21, z21⟩, st21⟩ := Jvm.LawKit.callS X19 hx (y := (⟨"com/example/preamble/preamble/varint/VarintEncodePinLaw", "byteOk", "([BJII)Z"⟩ : MethodName)) hown (mvT hZ (hw _ (List.mem_of_getElem? (i := 18) rfl))) (mvT hZ (hw _ (List.mem_of_getElem? (i := 19) rfl))) (mvT hZ (hw _ (List.mem_of_getElem? (i := 15) rfl))) (mvT hZ (hw _ (List.mem_of_getElem? (i := 20) rfl))) (by decide) (backOf (W := 0) (rm_bokF l Z a0 hw [] b_1 x3 (refL x3) (8 : Int32) el_1 T1.heap n0 Z1 pf1_0 hO.1 (by decide)) hZ (hw _ (List.mem_of_getElem? (i := 20) rfl)) (hw _ (List.mem_of_getElem? (i := 15) rfl)) (by decide) (by decide)) (g := (mkF m 141 #[.val (.long p1), .second, .val (.int p2), .val (.long x3), .second, .val (.ref b_1), .val (.int (refL x3))] [(.int (8 : Int32)), (.int (refL x3)), (.long x3), (.ref b_1)])) rfl (by rw [hml]; rfl) (argsL := [(.ref b_1), (.long x3), (.int (refL x3)), (.int (8 : Int32))]) (rest := []) (lenOf pd_3 rfl) rfl (by show 2 * 0 + _ ≤ _; exact Nat.le_of_eq rfl) (hb hby at_141) (fun _ _ => ⟨rfl, e19, (Nat.le_trans (Nat.add_le_add_right (Nat.add_le_add_right (Nat.add_le_add_right (Nat.add_le_add_right (Nat.add_le_add_right (Nat.add_le_add_right (Nat.add_le_add_right (Nat.add_le_add_right (Nat.add_le_add_right (Nat.add_le_add_right (Nat.add_le_add_right hcl 1) 0) 0) 0) 0) 0) 0) 0) 0) 0) 0) (by decide)), (Nat.le_trans (Nat.add_le_add_right (Nat.add_le_add_right (Nat.add_le_add_right (Nat.add_le_add_right (Nat.add_le_add_right (Nat.add_le_add_right (Nat.add_le_add_right (Nat.add_le_add_right (Nat.add_le_add_right (Nat.add_le_add_right (Nat.add_le_add_right hsl 9) 0) 0) 0) 0) 0) 0) 0) 0) 0) 0) (by decide))⟩)
    dsimp only [Pt.U, Pt.locs, Pt.cells, Pt.slots] at X21 l21 y21 z21 st21 hQ21
    subst l21 y21 z21
    obtain ⟨rfl, N21q, e21⟩ := hQ21
    have N21 := Fr.app N19 N21q
    refine Go.step (T' := T21) (f' := (mkF m 144 #[.val (.long p1), .second, .val (.int p2), .val (.long x3), .second, .val (.ref b_1), .val (.int (refL x3))] [(.int (bokF x3 (refL x3) (8 : Int32) el_1))])) (fun t kt => ?_) ?_
    · show Steps p.tables e below (T19.setTop (mkF m 131 #[.val (.long p1), .second, .val (.int p2), .val (.long x3), .second, .val (.ref b_1), .val (.int (refL x3))] [(.int (bokF x3 (refL x3) (7 : Int32) el_1))])) _
      refine XS.ifNo X19.here hx rfl (hb hby at_131) rfl ((if0 _ _).trans (feq hd20).1) ?_
      show Steps p.tables e below (T19.setTop (mkF m 134 #[.val (.long p1), .second, .val (.int p2), .val (.long x3), .second, .val (.ref b_1), .val (.int (refL x3))] [])) _
      refine XS.aload X19.here hx rfl (hb hby at_134) rfl rfl ?_
      show Steps p.tables e below (T19.setTop (mkF m 136 #[.val (.long p1), .second, .val (.int p2), .val (.long x3), .second, .val (.ref b_1), .val (.int (refL x3))] [(.ref b_1)])) _
      refine XS.lloadN X19.here hx rfl (hb hby at_136) rfl ?_
      show Steps p.tables e below (T19.setTop (mkF m 137 #[.val (.long p1), .second, .val (.int p2), .val (.long x3), .second, .val (.ref b_1), .val (.int (refL x3))] [(.long x3), (.ref b_1)])) _
      refine XS.iload X19.here hx rfl (hb hby at_137) rfl ?_
      show Steps p.tables e below (T19.setTop (mkF m 139 #[.val (.long p1), .second, .val (.int p2), .val (.long x3), .second, .val (.ref b_1), .val (.int (refL x3))] [(.int (refL x3)), (.long x3), (.ref b_1)])) _
      refine XS.bipush X19.here hx rfl (hb hby at_139) ?_
      show Steps p.tables e below (T19.setTop (mkF m 141 #[.val (.long p1), .second, .val (.int p2), .val (.long x3), .second, .val (.ref b_1), .val (.int (refL x3))] [(.int (8 : Int32)), (.int (refL x3)), (.long x3), (.ref b_1)])) _
      refine st21 _ ?_
      exact kt
    have hd22 : ¬ ((bokF x3 (refL x3) (8 : Int32) el_1) = (0 : Int32)) := own_bok hO 8 (by decide)
    refine Go.step (T' := T21) (f' := (mkF m 152 #[.val (.long p1), .second, .val (.int p2), .val (.long x3), .second, .val (.ref b_1), .val (.int (refL x3))] [(.int (1 : Int32))])) (fun t kt => ?_) ?_
    · show Steps p.tables e below (T21.setTop (mkF m 144 #[.val (.long p1), .second, .val (.int p2), .val (.long x3), .second, .val (.ref b_1), .val (.int (refL x3))] [(.int (bokF x3 (refL x3) (8 : Int32) el_1))])) _
      refine XS.ifNo X21.here hx rfl (hb hby at_144) rfl ((if0 _ _).trans (feq hd22).1) ?_
      show Steps p.tables e below (T21.setTop (mkF m 147 #[.val (.long p1), .second, .val (.int p2), .val (.long x3), .second, .val (.ref b_1), .val (.int (refL x3))] [])) _
      refine XS.iconst X21.here hx rfl (hb hby at_147) ?_
      show Steps p.tables e below (T21.setTop (mkF m 148 #[.val (.long p1), .second, .val (.int p2), .val (.long x3), .second, .val (.ref b_1), .val (.int (refL x3))] [(.int (1 : Int32))])) _
      refine XS.goto X21.here hx rfl (pc0 := 148) (pc' := 152) rfl (hb hby at_148) (by decide) (by decide) ?_
      exact kt
    refine Go.fin X21 (v := some (.int (1 : Int32))) (fun h => by rw [Bd.returns] at h; cases h) Bd.notSynchronized ?_ (Nat.le_trans (Nat.add_le_add_right (Nat.add_le_add_right (Nat.add_le_add_right (Nat.add_le_add_right (Nat.add_le_add_right (Nat.add_le_add_right (Nat.add_le_add_right (Nat.add_le_add_right (Nat.add_le_add_right (Nat.add_le_add_right (Nat.add_le_add_right hcl 1) 0) 0) 0) 0) 0) 0) 0) 0) 0) 0) (by decide)) (Nat.le_trans (Nat.add_le_add_right (Nat.add_le_add_right (Nat.add_le_add_right (Nat.add_le_add_right (Nat.add_le_add_right (Nat.add_le_add_right (Nat.add_le_add_right (Nat.add_le_add_right (Nat.add_le_add_right (Nat.add_le_add_right (Nat.add_le_add_right hsl 9) 0) 0) 0) 0) 0) 0) 0) 0) 0) 0) (by decide)) (fun fs hr => retN X21 hx (t := .boolean) Bd.returns (by simp) (hb hby at_152) hr)
    · show Q0 Z p1 p2 h0 n0 _ T21.heap _
      exact ⟨rfl, N21⟩
  refine Go.step (T' := s₁) (f' := (mkF m 14 #[.val (.long p1), .second, .val (.int p2), .val (.long (((p1 &&& (9223372036854775807 : Int64)).toUInt64 >>> (((p2 &&& (2147483647 : Int32)) % (64 : Int32)) &&& 0x3f).toInt64.toUInt64).toInt64)), .second, .unset, .unset] [])) (fun t kt => ?_) ?_
  · show Steps p.tables e below (s₁.setTop (mkF m 0 #[.val (.long p1), .second, .val (.int p2), .unset, .unset, .unset, .unset] [])) _
    refine XS.lloadN X0.here hx rfl (hb hby at_0) rfl ?_
    show Steps p.tables e below (s₁.setTop (mkF m 1 #[.val (.long p1), .second, .val (.int p2), .unset, .unset, .unset, .unset] [(.long p1)])) _
    refine X0.ldc2Long hx hown (mvT hZ (hw _ (List.mem_of_getElem? (i := 0) rfl))) (g := (mkF m 1 #[.val (.long p1), .second, .val (.int p2), .unset, .unset, .unset, .unset] [(.long p1)])) rfl (hb hby at_1) _ ?_
    show Steps p.tables e below (s₁.setTop (mkF m 4 #[.val (.long p1), .second, .val (.int p2), .unset, .unset, .unset, .unset] [(.long (9223372036854775807 : Int64)), (.long p1)])) _
    refine XS.land X0.here hx rfl (hb hby at_4) rfl ?_
    show Steps p.tables e below (s₁.setTop (mkF m 5 #[.val (.long p1), .second, .val (.int p2), .unset, .unset, .unset, .unset] [(.long (p1 &&& (9223372036854775807 : Int64)))])) _
    refine XS.iloadN X0.here hx rfl (hb hby at_5) rfl ?_
    show Steps p.tables e below (s₁.setTop (mkF m 6 #[.val (.long p1), .second, .val (.int p2), .unset, .unset, .unset, .unset] [(.int p2), (.long (p1 &&& (9223372036854775807 : Int64)))])) _
    refine X0.ldcInt hx hown (mvT hZ (hw _ (List.mem_of_getElem? (i := 1) rfl))) (g := (mkF m 6 #[.val (.long p1), .second, .val (.int p2), .unset, .unset, .unset, .unset] [(.int p2), (.long (p1 &&& (9223372036854775807 : Int64)))])) rfl (hb hby at_6) _ ?_
    show Steps p.tables e below (s₁.setTop (mkF m 8 #[.val (.long p1), .second, .val (.int p2), .unset, .unset, .unset, .unset] [(.int (2147483647 : Int32)), (.int p2), (.long (p1 &&& (9223372036854775807 : Int64)))])) _
    refine XS.iand X0.here hx rfl (hb hby at_8) rfl ?_
    show Steps p.tables e below (s₁.setTop (mkF m 9 #[.val (.long p1), .second, .val (.int p2), .unset, .unset, .unset, .unset] [(.int (p2 &&& (2147483647 : Int32))), (.long (p1 &&& (9223372036854775807 : Int64)))])) _
    refine XS.bipush X0.here hx rfl (hb hby at_9) ?_
    show Steps p.tables e below (s₁.setTop (mkF m 11 #[.val (.long p1), .second, .val (.int p2), .unset, .unset, .unset, .unset] [(.int (64 : Int32)), (.int (p2 &&& (2147483647 : Int32))), (.long (p1 &&& (9223372036854775807 : Int64)))])) _
    refine XS.irem X0.here hx rfl (hb hby at_11) rfl (by decide) ?_
    show Steps p.tables e below (s₁.setTop (mkF m 12 #[.val (.long p1), .second, .val (.int p2), .unset, .unset, .unset, .unset] [(.int ((p2 &&& (2147483647 : Int32)) - ((p2 &&& (2147483647 : Int32)) / (64 : Int32)) * (64 : Int32))), (.long (p1 &&& (9223372036854775807 : Int64)))])) _
    rw [own_irem ((p2 &&& (2147483647 : Int32))) ((64 : Int32))]
    show Steps p.tables e below (s₁.setTop (mkF m 12 #[.val (.long p1), .second, .val (.int p2), .unset, .unset, .unset, .unset] [(.int ((p2 &&& (2147483647 : Int32)) % (64 : Int32))), (.long (p1 &&& (9223372036854775807 : Int64)))])) _
    refine XS.lushr X0.here hx rfl (hb hby at_12) rfl ?_
    show Steps p.tables e below (s₁.setTop (mkF m 13 #[.val (.long p1), .second, .val (.int p2), .unset, .unset, .unset, .unset] [(.long (((p1 &&& (9223372036854775807 : Int64)).toUInt64 >>> (((p2 &&& (2147483647 : Int32)) % (64 : Int32)) &&& 0x3f).toInt64.toUInt64).toInt64))])) _
    refine XS.lstoreN X0.here hx rfl (hb hby at_13) rfl (l' := #[.val (.long p1), .second, .val (.int p2), .val (.long (((p1 &&& (9223372036854775807 : Int64)).toUInt64 >>> (((p2 &&& (2147483647 : Int32)) % (64 : Int32)) &&& 0x3f).toInt64.toUInt64).toInt64)), .second, .unset, .unset]) rfl ?_
    exact kt
  exact S14 _ _ _ _ X0 (Nat.le_trans (Nat.le_refl 0) (by decide)) (Nat.le_trans (Nat.le_refl 0) (by decide)) h0 e0 N0 (((p1 &&& (9223372036854775807 : Int64)).toUInt64 >>> (((p2 &&& (2147483647 : Int32)) % (64 : Int32)) &&& 0x3f).toInt64.toUInt64).toInt64) (Keep.refl h0 []) (own_v p1 p2)
set_option maxRecDepth 65536 in
set_option maxHeartbeats 40000000 in
theorem comes_1 {Post : Tables → Env → Array Value → State → Outcome → State → Prop} (hpost : ∀ tb e args s v u, (limb_1_1.after args s (.returned v) u = true ∧ limb_1_2.after args s (.returned v) u = true ∧ True) → FrameEnd s (.returned v) u (Jvm.fieldLocs frame_1_writes args s ++ Jvm.arrayLocs frame_1_arrays args s ++ Jvm.staticLocs frame_1_statics s) 16 128 → Post tb e args s (.returned v) u) :
    ArmFor flags0 classFile x code maxLocals ret World_1 tables_1 room_1 Calls_1 rest_1 Pre_1 Post := by
  intro l hfl _ _ p e ha hc hk s m args below hf hA hF happ hP
  obtain ⟨hcalls, hrest, hpre⟩ := hP
  obtain ⟨-, -, -, hnamed, -, -, -, hat⟩ := (Spec.applies_iff hf).mp happ
  obtain ⟨hg, hn⟩ := and_e (Cond.before_iff.mp (show (Jvm.Cond.and given_1 narrow_1).before args s = true from hpre))
  obtain ⟨g1, g2⟩ := and_e hg
  obtain ⟨g3, g4⟩ := and_e g2
  obtain ⟨w0, w1, rfl⟩ : ∃ w0 w1 : Value, args = #[w0, w1] := by
    have hs : args.size = 2 := by simpa [Cond.value, given_1] using g1
    obtain ⟨L⟩ := args
    match L, hs with
    | [w0, w1], _ => exact ⟨w0, w1, rfl⟩
  have hw := fun d (hd : d ∈ tables_1) => atoms_spec (ws := Jvm.Cond.code x code maxLocals ret :: tables_1) hat d (List.mem_cons_of_mem _ hd)
  obtain ⟨i0, ei0⟩ := isL_v g3
  obtain rfl : w0 = (.long i0) := Option.some.inj ei0
  obtain ⟨i1, ei1⟩ := is_v g4
  obtain rfl : w1 = (.int i1) := Option.some.inj ei1
  obtain ⟨n, o, h1, h2, h3, _, L, rfl, ⟨hv, N⟩, hq⟩ := rm_0 l s _ hw tables_1 i0 i1  s.heap s.heap.size (Nat.le_refl _)  p e ha hc hk s m _ below hf ((Spec.applies_iff_loose hf).mp happ).1 ⟨rfl, State.Warmed39.refl s, rfl⟩ trivial
  subst hv
  refine ⟨n, _, h1, h2, h3, hpost _ _ _ _ _ _ ⟨Cond.after_iff.mpr rfl, Cond.after_iff.mpr (eq_i res_at (Term.int_eval (1)) rfl), trivial⟩ ⟨hq.1, hq.2.1, (hq.2.2.sift fun y hy => Or.inr (N y hy)).mono (by decide) (by decide)⟩⟩
theorem main_1_1 : Claimed_1_1 := comes_1 fun _ _ _ _ _ _ h hF => ⟨h.1, hF⟩
theorem main_1_2 : Claimed_1_2 := comes_1 fun _ _ _ _ _ _ h hF => ⟨h.2.1, hF⟩
end Jvm.Pilot.@@N@@
namespace Jvm.Pilot.@@N@@
open Jvm Jvm.ClassFile Sem Op Lib Jvm.Free Jvm.Stand Jvm.Pilot.@@N@@.Jvm.D
/-! MADE BY PROGRAM (witnessworld.py) out of the Statement's table words and the real class files: 9 classes; the members and pool entries that the words name. The judged class is class 1, her method 3. -/
namespace start1
open Jvm.ClassFile
def u (s : String) : CpInfo := .utf8 (stringToUtf16 s)
/-- a pool by its gaps: so many unusable entries, then the entry; so many at the end -/
def gap : Nat → List CpInfo → List CpInfo
  | 0, r => r
  | n + 1, r => .unusable :: gap n r
def poolList (es : List (Nat × CpInfo)) (last : Nat) : List CpInfo := es.foldr (fun e r => gap e.1 (e.2 :: r)) (gap last [])
def pool (es : List (Nat × CpInfo)) (last : Nat) : Array CpInfo := ⟨poolList es last⟩
def fileOf (pool : Array CpInfo) (this : Nat) (attrs : Array Attribute := #[]) (ms : Array MethodInfo := #[]) (fl : Nat := 33) (sup : Nat := 0) (ifs : Array Nat := #[]) (fds : Array FieldInfo := #[]) : ClassFile where
  minorVersion := 0
  majorVersion := 65
  constantPool := pool
  accessFlags := fl
  thisClass := this
  superClass := sup
  interfaces := ifs
  fields := fds
  methods := ms
  attributes := attrs
def plain (name : String) (sup : Option ClassId) : Class where
  name := name
  kind := .ordinary
  loader := none
  accessFlags := 33
  super := sup
  interfaces := #[]
  cf := none
  fields := #[]
  methods := #[]
  instanceTypes := #[]
  staticTypes := #[]
  resolved := #[]
  callSites := []
  init := .initialized
  statics := none
  mirror := none

def pool0 : Array CpInfo := pool [(5, u "<init>"), (0, u "()V"), (1, .class_ 10), (1, u "java/lang/Object")] 113

def k0m0 : Method := { name := "<init>", desc := "()V", sig := { parameters := [], returnType := none }, accessFlags := 1, code := none }
/-- java/lang/Object -/
def k0 : Class := { plain "java/lang/Object" none with
  accessFlags := 33
  interfaces := #[]
  cf := some (fileOf pool0 8 #[] #[{ accessFlags := 1, nameIndex := 5, descriptorIndex := 6, attributes := #[] }] 33 0 #[] #[])
  fields := #[]
  methods := #[k0m0]
  instanceTypes := #[]
  staticTypes := #[]
  resolved := Array.replicate 124 none
  statics := none }

def pool1 : Array CpInfo := pool [(2, .class_ 4), (1, u "java/lang/Object"), (0, u "<init>"), (0, u "()V"), (0, .long 128), (1, .long 16384), (1, .long 2097152), (1, .long 268435456), (1, .long 34359738368), (1, .long 4398046511104), (1, .long 562949953421312), (1, .long 72057594037927936), (1, .long 127), (3, .long 9223372036854775807), (1, .integer 2147483647), (0, .methodref 31 32), (0, .class_ 33), (0, .nameAndType 34 35), (0, u "com/example/preamble/preamble/varint/Varint"), (0, u "encode"), (0, u "(J)[B"), (0, .methodref 37 38), (0, .class_ 39), (0, .nameAndType 40 41), (0, u "com/example/preamble/preamble/varint/VarintEncodePinLaw"), (0, u "expectedLength"), (0, u "(J)I"), (0, .methodref 37 43), (0, .nameAndType 44 45), (0, u "byteOk"), (0, u "([BJII)Z"), (3, u "law"), (0, u "(JI)Z")] 4

def k1m0 : Method := { name := "<init>", desc := "()V", sig := { parameters := [], returnType := none }, accessFlags := 2, code := none }
def k1c1 : Code := { maxStack := 4, maxLocals := 2, code := method_2_code, exceptionTable := #[], attributes := #[] }
def k1m1 : Method := { name := "expectedLength", desc := "(J)I", sig := { parameters := [.long], returnType := some .int }, accessFlags := 10, code := some k1c1 }
def k1c2 : Code := { maxStack := 4, maxLocals := 7, code := method_3_code, exceptionTable := #[], attributes := #[] }
def k1m2 : Method := { name := "byteOk", desc := "([BJII)Z", sig := { parameters := [(.array .byte), .long, .int, .int], returnType := some .boolean }, accessFlags := 10, code := some k1c2 }
def k1c3 : Code := { maxStack := 5, maxLocals := 7, code := code, exceptionTable := #[], attributes := #[] }
def k1m3 : Method := { name := "law", desc := "(JI)Z", sig := { parameters := [.long, .int], returnType := some .boolean }, accessFlags := 9, code := some k1c3 }
/-- com/example/preamble/preamble/varint/VarintEncodePinLaw -/
def k1 : Class := { plain "com/example/preamble/preamble/varint/VarintEncodePinLaw" (some 0) with
  accessFlags := 49
  interfaces := #[]
  cf := some (fileOf pool1 37 #[] #[{ accessFlags := 2, nameIndex := 5, descriptorIndex := 6, attributes := #[] }, { accessFlags := 10, nameIndex := 40, descriptorIndex := 41, attributes := #[] }, { accessFlags := 10, nameIndex := 44, descriptorIndex := 45, attributes := #[] }, { accessFlags := 9, nameIndex := 49, descriptorIndex := 50, attributes := #[] }] 49 2 #[] #[])
  fields := #[]
  methods := #[k1m0, k1m1, k1m2, k1m3]
  instanceTypes := #[]
  staticTypes := #[]
  resolved := Array.replicate 55 none
  statics := none }

def pool2 : Array CpInfo := pool [(2, .class_ 4), (1, u "java/lang/Object"), (0, u "<init>"), (0, u "()V"), (0, .methodref 8 9), (0, .class_ 10), (0, .nameAndType 11 12), (0, u "com/example/preamble/preamble/varint/Varint"), (0, u "requireUnsigned"), (0, u "(J)V"), (0, .methodref 8 14), (0, .nameAndType 15 16), (0, u "size"), (0, u "(J)I"), (0, .long 128), (13, .class_ 33), (1, u "com/example/preamble/preamble/varint/Varint$Decoded"), (3, .class_ 39), (1, u "com/example/preamble/preamble/varint/Varint$Source"), (25, u "MAX_LENGTH"), (0, u "I"), (5, u "encode"), (0, u "(J)[B")] 51

def k2m0 : Method := { name := "<init>", desc := "()V", sig := { parameters := [], returnType := none }, accessFlags := 2, code := none }
def k2c1 : Code := { maxStack := 4, maxLocals := 5, code := prog_19_method_2_code, exceptionTable := #[], attributes := #[] }
def k2m1 : Method := { name := "size", desc := "(J)I", sig := { parameters := [.long], returnType := some .int }, accessFlags := 9, code := some k2c1 }
def k2c2 : Code := { maxStack := 6, maxLocals := 6, code := prog_19_method_3_code, exceptionTable := #[], attributes := #[] }
def k2m2 : Method := { name := "encode", desc := "(J)[B", sig := { parameters := [.long], returnType := some (.array .byte) }, accessFlags := 9, code := some k2c2 }
def k2c3 : Code := { maxStack := 4, maxLocals := 2, code := prog_19_method_7_code, exceptionTable := #[], attributes := #[] }
def k2m3 : Method := { name := "requireUnsigned", desc := "(J)V", sig := { parameters := [.long], returnType := none }, accessFlags := 10, code := some k2c3 }
/-- com/example/preamble/preamble/varint/Varint -/
def k2 : Class := { plain "com/example/preamble/preamble/varint/Varint" (some 0) with
  accessFlags := 49
  interfaces := #[]
  cf := some (fileOf pool2 8 #[.nestMembers #[37, 31]] #[{ accessFlags := 2, nameIndex := 5, descriptorIndex := 6, attributes := #[] }, { accessFlags := 9, nameIndex := 15, descriptorIndex := 16, attributes := #[] }, { accessFlags := 9, nameIndex := 72, descriptorIndex := 73, attributes := #[] }, { accessFlags := 10, nameIndex := 11, descriptorIndex := 12, attributes := #[] }] 49 2 #[] #[{ accessFlags := 25, nameIndex := 65, descriptorIndex := 66, attributes := #[] }])
  fields := #[{ name := "MAX_LENGTH", type := .int, accessFlags := 25, slot := 0, constantValue := 0 }]
  methods := #[k2m0, k2m1, k2m2, k2m3]
  instanceTypes := #[]
  staticTypes := #[.int]
  resolved := Array.replicate 125 none
  statics := none }

def pool3 : Array CpInfo := pool [(1, u "java/lang/Cloneable"), (0, .class_ 1), (0, u "java/lang/Object"), (0, .class_ 3)] 3

/-- java/lang/Cloneable -/
def k3 : Class := { plain "java/lang/Cloneable" (some 0) with
  accessFlags := 1537
  interfaces := #[]
  cf := some (fileOf pool3 2 #[] #[] 1537 4 #[] #[])
  fields := #[]
  methods := #[]
  instanceTypes := #[]
  staticTypes := #[]
  resolved := Array.replicate 8 none
  statics := none }

def pool4 : Array CpInfo := pool [(1, u "java/io/Serializable"), (0, .class_ 1), (0, u "java/lang/Object"), (0, .class_ 3)] 3

/-- java/io/Serializable -/
def k4 : Class := { plain "java/io/Serializable" (some 0) with
  accessFlags := 1537
  interfaces := #[]
  cf := some (fileOf pool4 2 #[] #[] 1537 4 #[] #[])
  fields := #[]
  methods := #[]
  instanceTypes := #[]
  staticTypes := #[]
  resolved := Array.replicate 8 none
  statics := none }

/-- the primitive byte -/
def k5 : Class := { plain "byte" none with kind := .primitive 'B', accessFlags := 0x411 }
/-- [B -/
def k6 : Class := { plain "[B" (some 0) with kind := .array 5 .byte, interfaces := #[3, 4], accessFlags := 1041 }

/-- the primitive int -/
def k7 : Class := { plain "int" none with kind := .primitive 'I', accessFlags := 0x411 }
/-- [I -/
def k8 : Class := { plain "[I" (some 0) with kind := .array 7 .int, interfaces := #[3, 4], accessFlags := 1041 }

def heap : Heap := #[]
def classes : Array Class := #[k0, k1, k2, k3, k4, k5, k6, k7, k8]
def interned : List (Array UInt16 × Addr) := []
def slotsUsed : Nat := 0
def theMethod : MethodId := ⟨1, 3⟩
def args0 : Array Value := #[.long 500, .int 3]
def aboutOver (below : List Frame) : State where
  vm := { classes := classes, interned := interned.toArray }
  heap := heap
  slotsUsed := slotsUsed
  threads := #[{ frames := .invoking theMethod args0 :: below }]
def below0 : List Frame := [.native { method := ⟨0, 0⟩, args := #[] }]
def about1 : State := aboutOver below0
def p0 : Program := .bare "" "" ""
def e0 : Env := launch0.env 0 0 0
theorem w_frames : about1.frames = Frame.invoking theMethod args0 :: below0 := rfl
set_option maxRecDepth 65536 in
theorem w_args : argsFit about1.vm theMethod args0 = true := by decide +kernel
set_option maxRecDepth 65536 in
theorem w_heap : heapFits about1 = true := by decide +kernel
set_option maxRecDepth 65536 in
theorem w_runnable : about1.curStatus? = some .runnable := by decide +kernel
set_option maxRecDepth 65536 in
theorem w_alone : about1.alone = true := by decide +kernel
set_option maxRecDepth 65536 in
theorem w_named : about1.methodNamed? x = some theMethod := by decide +kernel
set_option maxRecDepth 65536 in
theorem w_hears : about1.hears theMethod below0 = true := by decide +kernel
set_option maxRecDepth 65536 in
theorem w_ripe : about1.ripe theMethod args0 below0 = true := by decide +kernel
theorem w_running : about1.status = .running := rfl
set_option maxRecDepth 65536 in
theorem w_room : about1.hasRoom e0.platform room_1 = true :=
  launch0.hasRoom_least _ room_1 (by decide +kernel) (by decide +kernel) (by decide +kernel) (by decide +kernel) (by decide +kernel) (by decide +kernel)
theorem allAtoms_all (ts : List Jvm.Cond) (a : Array Jvm.Value) (st : Jvm.State) : (allAtoms ts).before a st = ts.all (fun c => c.before a st) := by
  induction ts with
  | nil => rfl
  | cons c t ih =>
    show (Jvm.Cond.and c (allAtoms t)).before a st = _
    rw [Jvm.Cond.before_and, ih, List.all_cons]
def words1 : List Jvm.Cond := Jvm.Cond.code x code maxLocals ret :: tables_1
/-- a 'code' word, met by the world's own term for the bytes: nothing is compared byte by byte -/
theorem code_word {y : MethodName} {bytes : ByteArray} {mx : Nat} {rt : Option FieldType} {a : Array Value} {s : State} {m : MethodId} {meth : Method} {c : Code} (h1 : s.methodNamed? y = some m) (h2 : s.vm.method? m = some meth) (h3 : meth.code = some c) (h4 : c.code = bytes)
    (h5 : (c.maxLocals == mx && c.exceptionTable.isEmpty && decide (c.maxStack ≤ mostOperands) && decide (meth.sig.returnType = rt) && !meth.locks && decide (parseMethodDescriptor y.desc = some meth.sig)) = true) : (Jvm.Cond.code y bytes mx rt).before a s = true := by
  simp only [Bool.and_eq_true, beq_iff_eq, Bool.not_eq_true', decide_eq_true_eq] at h5
  obtain ⟨⟨⟨⟨⟨g1, g2⟩, g3⟩, g4⟩, g5⟩, g6⟩ := h5
  simp [Cond.before, Cond.holds, Cond.value, h1, h2, h3, h4, g1, g2, g3, g4, g5, g6]
def isCode : Jvm.Cond → Bool
  | .code _ _ _ _ => true
  | _ => false
theorem all_split {L : List Jvm.Cond} {P : Jvm.Cond → Bool} (h1 : L.all (fun c => isCode c || P c) = true) (h2 : ∀ c ∈ L.filter isCode, P c = true) : L.all P = true := by
  refine List.all_eq_true.mpr fun c hc => ?_
  have h := List.all_eq_true.mp h1 c hc
  rcases Bool.eq_false_or_eq_true (isCode c) with hi | hi
  · exact h2 c (List.mem_filter.mpr ⟨hc, hi⟩)
  · simpa [hi] using h
set_option maxRecDepth 65536 in
theorem w_c0 : (Jvm.Cond.code x code maxLocals ret).before args0 about1 = true := code_word (m := ⟨1, 3⟩) (meth := k1m3) (c := k1c3) (by decide +kernel) rfl rfl rfl (by decide +kernel)
set_option maxRecDepth 65536 in
theorem w_c1 : (Jvm.Cond.code ({ cls := "com/example/preamble/preamble/varint/Varint", name := "encode", desc := "(J)[B" } : Jvm.MethodName) prog_19_method_3_code (6 : Nat) (Option.some (Jvm.ClassFile.FieldType.array Jvm.ClassFile.FieldType.byte))).before args0 about1 = true := code_word (m := ⟨2, 2⟩) (meth := k2m2) (c := k2c2) (by decide +kernel) rfl rfl rfl (by decide +kernel)
set_option maxRecDepth 65536 in
theorem w_c2 : (Jvm.Cond.code ({ cls := "com/example/preamble/preamble/varint/Varint", name := "size", desc := "(J)I" } : Jvm.MethodName) prog_19_method_2_code (5 : Nat) (Option.some Jvm.ClassFile.FieldType.int)).before args0 about1 = true := code_word (m := ⟨2, 1⟩) (meth := k2m1) (c := k2c1) (by decide +kernel) rfl rfl rfl (by decide +kernel)
set_option maxRecDepth 65536 in
theorem w_c3 : (Jvm.Cond.code ({ cls := "com/example/preamble/preamble/varint/Varint", name := "requireUnsigned", desc := "(J)V" } : Jvm.MethodName) prog_19_method_7_code (2 : Nat) (Option.none : Option Jvm.ClassFile.FieldType)).before args0 about1 = true := code_word (m := ⟨2, 3⟩) (meth := k2m3) (c := k2c3) (by decide +kernel) rfl rfl rfl (by decide +kernel)
set_option maxRecDepth 65536 in
theorem w_c4 : (Jvm.Cond.code ({ cls := "com/example/preamble/preamble/varint/VarintEncodePinLaw", name := "expectedLength", desc := "(J)I" } : Jvm.MethodName) method_2_code (2 : Nat) (Option.some Jvm.ClassFile.FieldType.int)).before args0 about1 = true := code_word (m := ⟨1, 1⟩) (meth := k1m1) (c := k1c1) (by decide +kernel) rfl rfl rfl (by decide +kernel)
set_option maxRecDepth 65536 in
theorem w_c5 : (Jvm.Cond.code ({ cls := "com/example/preamble/preamble/varint/VarintEncodePinLaw", name := "byteOk", desc := "([BJII)Z" } : Jvm.MethodName) method_3_code (7 : Nat) (Option.some Jvm.ClassFile.FieldType.boolean)).before args0 about1 = true := code_word (m := ⟨1, 2⟩) (meth := k1m2) (c := k1c2) (by decide +kernel) rfl rfl rfl (by decide +kernel)
def codes1 : List Jvm.Cond := [Jvm.Cond.code x code maxLocals ret, Jvm.Cond.code ({ cls := "com/example/preamble/preamble/varint/Varint", name := "encode", desc := "(J)[B" } : Jvm.MethodName) prog_19_method_3_code (6 : Nat) (Option.some (Jvm.ClassFile.FieldType.array Jvm.ClassFile.FieldType.byte)), Jvm.Cond.code ({ cls := "com/example/preamble/preamble/varint/Varint", name := "size", desc := "(J)I" } : Jvm.MethodName) prog_19_method_2_code (5 : Nat) (Option.some Jvm.ClassFile.FieldType.int), Jvm.Cond.code ({ cls := "com/example/preamble/preamble/varint/Varint", name := "requireUnsigned", desc := "(J)V" } : Jvm.MethodName) prog_19_method_7_code (2 : Nat) (Option.none : Option Jvm.ClassFile.FieldType), Jvm.Cond.code ({ cls := "com/example/preamble/preamble/varint/VarintEncodePinLaw", name := "expectedLength", desc := "(J)I" } : Jvm.MethodName) method_2_code (2 : Nat) (Option.some Jvm.ClassFile.FieldType.int), Jvm.Cond.code ({ cls := "com/example/preamble/preamble/varint/VarintEncodePinLaw", name := "byteOk", desc := "([BJII)Z" } : Jvm.MethodName) method_3_code (7 : Nat) (Option.some Jvm.ClassFile.FieldType.boolean)]
set_option maxRecDepth 65536 in
theorem codes_eq : words1.filter isCode = codes1 := rfl
theorem w_codes : ∀ c ∈ words1.filter isCode, c.before args0 about1 = true := by
  rw [codes_eq]
  intro c hc
  simp only [codes1, List.mem_cons, List.not_mem_nil, or_false] at hc
  rcases hc with rfl | rfl | rfl | rfl | rfl | rfl
  · exact w_c0
  · exact w_c1
  · exact w_c2
  · exact w_c3
  · exact w_c4
  · exact w_c5
set_option maxRecDepth 65536 in
theorem w_t1 : (words1.take 24).all (fun c => isCode c || c.before args0 about1) = true := by decide +kernel
set_option maxRecDepth 65536 in
theorem w_t2 : (words1.drop 24).all (fun c => isCode c || c.before args0 about1) = true := by decide +kernel
theorem w_tables : (allAtoms (Jvm.Cond.code x code maxLocals ret :: tables_1)).before args0 about1 = true := by
  rw [allAtoms_all]
  show words1.all (fun c => c.before args0 about1) = true
  refine all_split ?_ w_codes
  rw [← List.take_append_drop 24 words1, List.all_append, w_t1, w_t2]
  rfl
set_option maxRecDepth 65536 in
theorem w_case : (Jvm.Cond.and given_1 narrow_1).before args0 about1 = true := by decide +kernel
theorem w_applies : (headSpec (Jvm.Cond.code x code maxLocals ret :: tables_1) room_1).applies x e0.platform about1 = true :=
  (Spec.applies_iff w_frames).mpr ⟨w_running, w_runnable, w_alone, w_named, w_hears, w_ripe, w_room, w_tables⟩
theorem atStart : AtStart classFile x code maxLocals ret World_1 tables_1 room_1 Calls_1 rest_1 Pre_1 launch0 p0 e0 about1 theMethod args0 below0 :=
  ⟨lists_1, trivial, launch0.admits_env _ _ _, launch0.least_env, fairChoices_fair.cas, fairChoices_fair.clock, w_frames, w_args, w_heap, w_applies, trivial, trivial, w_case⟩
end start1
theorem witness_1 : WitnessClaimed_1 := ⟨start1.p0, start1.e0, start1.about1, start1.theMethod, start1.args0, start1.below0, start1.atStart⟩
end Jvm.Pilot.@@N@@
