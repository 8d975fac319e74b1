import JvmDerived
import JvmDerived.Pilot.@@N@@Statement
import JvmDerived.Pilot.@@N@@Code
set_option linter.unusedVariables false
set_option linter.unusedSimpArgs false
namespace Jvm.RoadKit
open Sem ClassFile Op Lib Jvm.Stand Jvm.Free Jvm.LawKit
section New
variable {p : Program} {l : Launch} {e : Env} {R : Room} {s : State} {m : MethodId} {args : Array Value} {below : List Frame} {meth : Method} {c : Code} {T : State} {locs : List Loc} {cells slots : Nat}
theorem retI (X : Stand p l e R s m args below meth c T locs cells slots) (hx : p.tables.exec = Jvm.exec) {pc : Nat} {Ls : Array Slot} {z : Int32} {rest : List Value} (hret : meth.sig.returnType = some .int) (hd : decode c.code pc = .ok (.ireturn, 1)) {fs : List Frame}
    (hl : ∀ (f : JFrame) (acts : List Action), f.method = m → f.locked = none → f.entered = [] → (doReturn e (T.setTop f) acts (some (.int z))).1 = T.setFrames fs) : Steps p.tables e below (T.setTop (mkF m pc Ls (.int z :: rest))) (T.setFrames fs) := by
  have hm' : T.vm.method? m = some meth := X.method'
  have hn : narrow .int (.int z) = .int z := rfl
  show Steps p.tables e below (T.setTop { method := m, pc := pc, locals := Ls, stack := _ :: rest, locked := none }) _
  jvm_step X.here [X.here.top, hx, hd, hm', hret, hn]
  first | (intro acts; rw [hl _ acts rfl rfl rfl]) | rw [hl _ _ rfl rfl rfl]
  exact Steps.refl _
/-- from here the walk comes to a good end -/
def Go (p : Program) (e : Env) (below : List Frame) (s : State) (Q : Option Value → Heap → List Loc → Prop) (C S : Nat) (T : State) (f : JFrame) : Prop :=
  ∃ s₂ o, Steps p.tables e below (T.setTop f) s₂ ∧ s₂.status = .running ∧ Ended s₂ below o ∧ ∃ v L, o = .returned v ∧ Q v s₂.heap L ∧ FrameEnd s o s₂ L C S
theorem Go.step {Q : Option Value → Heap → List Loc → Prop} {C S : Nat} {T' : State} {f f' : JFrame} (k : ∀ t, Steps p.tables e below (T'.setTop f') t → Steps p.tables e below (T.setTop f) t) (h : Go p e below s Q C S T' f') : Go p e below s Q C S T f := by
  obtain ⟨s₂, o, h1, h2⟩ := h
  exact ⟨s₂, o, k _ h1, h2⟩
theorem Go.cast {Q : Option Value → Heap → List Loc → Prop} {C S : Nat} {f f' : JFrame} (q : f = f') (h : Go p e below s Q C S T f') : Go p e below s Q C S T f := q ▸ h
theorem Go.fin (X : Stand p l e R s m args below meth c T locs cells slots) {Q : Option Value → Heap → List Loc → Prop} {C S : Nat} {f : JFrame} {v : Option Value} (hv : meth.sig.returnType = none → v = none) (hl : meth.locks = false) (hQ : Q v T.heap locs) (hc : cells ≤ C) (hs : slots ≤ S)
    (k : ∀ fs, (∀ (f : JFrame) (acts : List Action), f.method = m → f.locked = none → f.entered = [] → (doReturn e (T.setTop f) acts v).1 = T.setFrames fs) → Steps p.tables e below (T.setTop f) (T.setFrames fs)) : Go p e below s Q C S T f := by
  obtain ⟨fs, hr, hrun, hended, hW, hsame⟩ := X.leave (v := v) hv hl
  exact ⟨_, _, k fs hr, hrun, hended, v, locs, rfl, hQ, ⟨_, rfl⟩, hW, hsame.mono hc hs⟩
theorem own_lrem (x y : Int64) : x - (x / y) * y = x % y := lrem_mod x y
theorem own_irem (x y : Int32) : x - (x / y) * y = x % y := by
  apply Int32.toInt_inj.mp
  have h1 := Int32.le_toInt (x % y)
  have h2 := Int32.toInt_lt (x % y)
  rw [Int32.toInt_sub, Int32.toInt_mul, Int32.toInt_div, Int.bmod_mul_bmod, Int.sub_bmod_bmod, Int.mul_comm (x.toInt.tdiv y.toInt), ← Int.tmod_def, ← Int32.toInt_mod]
  exact Int.bmod_eq_of_le_mul_two (by omega) (by omega)
theorem own_fin {x : Int32} {n : Nat} (h0 : 0 ≤ x.toInt) (h1 : x.toInt < n) (h2 : n ≤ 2147483648) : ∃ k : Fin n, x = Int32.ofNat k.val := by
  refine ⟨⟨x.toInt.toNat, by omega⟩, Int32.toInt_inj.mp ?_⟩
  have q : (x.toInt.toNat).toInt32.toInt = x.toInt.toNat := len_toInt (by omega)
  show x.toInt = (x.toInt.toNat).toInt32.toInt
  rw [q]; omega
theorem own_i2c {x : Int32} (h0 : 0 ≤ x.toInt) (h1 : x.toInt < 65536) : x.toUInt32.toUInt16.toUInt32.toInt32 = x := Int32.toInt_inj.mp (by have := c_i2c x; omega)
theorem own_rem (x y : Int32) (h0 : 0 ≤ x.toInt) : (x % y).toInt = x.toInt % y.toInt := by rw [Int32.toInt_mod, (tr _ _).1 h0]
theorem own_remL (x y : Int64) (h0 : 0 ≤ x.toInt) : (x % y).toInt = x.toInt % y.toInt := by rw [Int64.toInt_mod, (tr _ _).1 h0]
theorem own_div (x y : Int32) (h0 : 0 ≤ x.toInt) (h1 : 0 < y.toInt) : (x / y).toInt = x.toInt / y.toInt := (c_idiv x y _ rfl (fun q => by rw [q] at h1; exact absurd h1 (by decide))).1 h0
theorem own_add {x y : Int32} (h0 : -2147483648 ≤ x.toInt + y.toInt) (h1 : x.toInt + y.toInt < 2147483648) : (x + y).toInt = x.toInt + y.toInt := by have := c_iadd x y; have := rng32 (x + y); omega
theorem own_sub {x y : Int32} (h0 : -2147483648 ≤ x.toInt - y.toInt) (h1 : x.toInt - y.toInt < 2147483648) : (x - y).toInt = x.toInt - y.toInt := by have := c_isub x y; have := rng32 (x - y); omega
theorem own_mul {x y : Int32} (h0 : -2147483648 ≤ x.toInt * y.toInt) (h1 : x.toInt * y.toInt < 2147483648) : (x * y).toInt = x.toInt * y.toInt := by have := c_imul x y; have := rng32 (x * y); omega
theorem own_nat {j : Int32} (h0 : 0 ≤ j.toInt) : (j.toNatClampNeg : Int) = j.toInt := by simp only [Int32.toNatClampNeg]; omega
section Heaps
variable {Z : State} {h h' : Heap} {a b : Addr} {ty : FieldType} {vs : List Value} {sl : Nat} {v : Value} {ws : List Addr}
/-- an array and all that lies in it -/
def VA (Z : State) (h : Heap) (a : Addr) (ty : FieldType) (vs : List Value) : Prop := ∃ c : Cell, Arr Z h a c ty ∧ c.slots.toList = vs ∧ vs.length < 2 ^ 31
theorem VA.lt (F : VA Z h a ty vs) : a < h.size := by obtain ⟨c, A, -⟩ := F; exact A.lt
theorem VA.len (F : VA Z h a ty vs) : vs.length < 2 ^ 31 := by obtain ⟨c, A, -, r⟩ := F; exact r
theorem VA.ext (F : VA Z h a ty vs) (E : Ext h h') : VA Z h' a ty vs := by obtain ⟨c, A, r⟩ := F; exact ⟨c, A.ext E, r⟩
theorem VA.other (F : VA Z h b ty vs) (W : Wr h h' a sl v) (q : b ≠ a) : VA Z h' b ty vs := by obtain ⟨c, A, r⟩ := F; exact ⟨c, A.other W q, r⟩
theorem VA.keep (F : VA Z h a ty vs) (K : Keep h h' ws) (q : a ∉ ws) : VA Z h' a ty vs := by obtain ⟨c, A, r⟩ := F; exact ⟨c, ⟨K.2.1 a c A.1 q, A.2⟩, r⟩
theorem VA.new {k : ClassId} {n : Int32} (A : Arr Z h a (newA k ty n) ty) (q : ¬ n < 0) : VA Z h a ty (List.replicate n.toNatClampNeg (defaultValue ty)) :=
  ⟨_, A, by simp [newA], by rw [List.length_replicate]; exact (back32 q).2⟩
theorem VA.inb (F : VA Z h a ty vs) {j : Int32} (h0 : 0 ≤ j.toInt) (h1 : j.toInt < vs.length) : ∃ c : Cell, Arr Z h a c ty ∧ ¬ (j < 0 ∨ c.slots.size ≤ j.toNatClampNeg) ∧ c.slots[j.toNatClampNeg]? = vs[j.toNatClampNeg]? ∧ ∀ h' v, Wr h h' a j.toNatClampNeg v → VA Z h' a ty (vs.set j.toNatClampNeg v) := by
  obtain ⟨c, A, rfl, r⟩ := F
  have hj := own_nat h0
  rw [Array.length_toList] at h1
  refine ⟨c, A, ?_, (Array.getElem?_toList ..).symm, fun h' v W => ⟨_, A.same W, ?_, ?_⟩⟩
  · rw [Int32.lt_iff_toInt_lt]
    have k0 : (0 : Int32).toInt = 0 := rfl
    omega
  · simp [Cell.setSlot]
  · rw [List.length_set]; exact r
theorem VA.ne_exa {C : String} {a0 : Array Value} {k : Nat} (F : VA Z h b ty vs) (G : Exa Z h a C) (wi : (Cond.instantiable C k).before a0 Z = true) : a ≠ b := by obtain ⟨c, A, -⟩ := F; exact ne_arr G wi A
end Heaps
theorem own_cat1 {v : Value} (h : v.isRef = true) : v.category = 1 := by cases v <;> simp_all [Value.isRef, Value.category]
theorem own_psel {y : MethodName} {n : Nat} (wi : (Cond.instantiable y.cls n).before args s = true) (hpriv : s.PrivateAt y) (hinst : (Cond.instanceMethod y).before args s = true) (hy : y.cls ≠ "java/lang/invoke/MethodHandle" ∧ y.cls ≠ "java/lang/invoke/VarHandle") : (Cond.selects y.cls y y).before args s = true := by
  obtain ⟨c, k, h1, h2, -, h4, -, -⟩ := Cond.instantiable_spec wi
  exact selects_self_of_private h1 h2 (by cases q : k.isInterface; rfl; rw [q] at h4; simp at h4) hpriv hinst hy
section Steps2
variable {Z : State} {h : Heap} {a : Addr} {a0 : Array Value}
theorem ldI (X : Stand p l e R s m args below meth c T locs cells slots) (hx : p.tables.exec = Jvm.exec) (hZ : Z.Warmed39 s.vm) (eT : T.heap = h) {vs : List Int32} (F : VA Z h a .int (vs.map Value.int)) {j : Int32} (h0 : 0 ≤ j.toInt) (h1 : j.toInt < vs.length)
    {g : JFrame} (hg : g.method = m) {rest : List Value} (hs : g.stack = .int j :: .ref a :: rest) (hd : decode c.code g.pc = .ok (.iaload, 1)) (target : State)
    (k : Steps p.tables e below (T.setTop { g with pc := g.pc + 1, stack := .int (vs.getD j.toNatClampNeg 0) :: rest }) target) : Steps p.tables e below (T.setTop g) target := by
  obtain ⟨cl, A, q1, q2, -⟩ := F.inb h0 (by rw [List.length_map]; exact h1)
  have hj := own_nat h0
  refine X.iaload hx (j := j) (v := .int (vs.getD j.toNatClampNeg 0)) (by rw [eT]; exact A.1) (State.isArrayOf_alike hZ.alike A.2.1) A.2.2 q1 ?_ hg hs hd target k
  rw [q2, List.getElem?_map, List.getD_eq_getElem?_getD, List.getElem?_eq_getElem (by omega)]; rfl
theorem ldJ (X : Stand p l e R s m args below meth c T locs cells slots) (hx : p.tables.exec = Jvm.exec) (hZ : Z.Warmed39 s.vm) (eT : T.heap = h) {vs : List Int64} (F : VA Z h a .long (vs.map Value.long)) {j : Int32} (h0 : 0 ≤ j.toInt) (h1 : j.toInt < vs.length)
    {g : JFrame} (hg : g.method = m) {rest : List Value} (hs : g.stack = .int j :: .ref a :: rest) (hd : decode c.code g.pc = .ok (.laload, 1)) (target : State)
    (k : Steps p.tables e below (T.setTop { g with pc := g.pc + 1, stack := .long (vs.getD j.toNatClampNeg 0) :: rest }) target) : Steps p.tables e below (T.setTop g) target := by
  obtain ⟨cl, A, q1, q2, -⟩ := F.inb h0 (by rw [List.length_map]; exact h1)
  have hj := own_nat h0
  refine X.laload hx (j := j) (v := .long (vs.getD j.toNatClampNeg 0)) (by rw [eT]; exact A.1) (State.isArrayOf_alike hZ.alike A.2.1) A.2.2 q1 ?_ hg hs hd target k
  rw [q2, List.getElem?_map, List.getD_eq_getElem?_getD, List.getElem?_eq_getElem (by omega)]; rfl
theorem ldB (X : Stand p l e R s m args below meth c T locs cells slots) (hx : p.tables.exec = Jvm.exec) (hZ : Z.Warmed39 s.vm) (eT : T.heap = h) {vs : List Int32} (F : VA Z h a .byte (vs.map Value.int)) {j : Int32} (h0 : 0 ≤ j.toInt) (h1 : j.toInt < vs.length)
    {g : JFrame} (hg : g.method = m) {rest : List Value} (hs : g.stack = .int j :: .ref a :: rest) (hd : decode c.code g.pc = .ok (.baload, 1)) (target : State)
    (k : Steps p.tables e below (T.setTop { g with pc := g.pc + 1, stack := .int (vs.getD j.toNatClampNeg 0) :: rest }) target) : Steps p.tables e below (T.setTop g) target := by
  obtain ⟨cl, A, q1, q2, -⟩ := F.inb h0 (by rw [List.length_map]; exact h1)
  have hj := own_nat h0
  refine X.baloadBytes hx (j := j) (v := .int (vs.getD j.toNatClampNeg 0)) (by rw [eT]; exact A.1) (State.isArrayOf_alike hZ.alike A.2.1) A.2.2 q1 ?_ hg hs hd target k
  rw [q2, List.getElem?_map, List.getD_eq_getElem?_getD, List.getElem?_eq_getElem (by omega)]; rfl
theorem ldR (X : Stand p l e R s m args below meth c T locs cells slots) (hx : p.tables.exec = Jvm.exec) (hZ : Z.Warmed39 s.vm) (eT : T.heap = h) {ty : FieldType} {vs : List Addr} (F : VA Z h a ty (vs.map Value.ref)) (hty : ty.isReference = true) {j : Int32} (h0 : 0 ≤ j.toInt) (h1 : j.toInt < vs.length)
    {g : JFrame} (hg : g.method = m) {rest : List Value} (hs : g.stack = .int j :: .ref a :: rest) (hd : decode c.code g.pc = .ok (.aaload, 1)) (target : State)
    (k : Steps p.tables e below (T.setTop { g with pc := g.pc + 1, stack := .ref (vs.getD j.toNatClampNeg 0) :: rest }) target) : Steps p.tables e below (T.setTop g) target := by
  obtain ⟨cl, A, q1, q2, -⟩ := F.inb h0 (by rw [List.length_map]; exact h1)
  have hj := own_nat h0
  refine X.aaload hx (j := j) (v := .ref (vs.getD j.toNatClampNeg 0)) (by rw [eT]; exact A.1) (State.isArrayOf_alike hZ.alike A.2.1) hty A.2.2 q1 ?_ hg hs hd target k
  rw [q2, List.getElem?_map, List.getD_eq_getElem?_getD, List.getElem?_eq_getElem (by omega)]; rfl
theorem lenA (X : Stand p l e R s m args below meth c T locs cells slots) (hx : p.tables.exec = Jvm.exec) (hZ : Z.Warmed39 s.vm) (eT : T.heap = h) {ty : FieldType} {vs : List Value} (F : VA Z h a ty vs) {n : Int32} (hn : (vs.length : Int) = n.toInt)
    {g : JFrame} (hg : g.method = m) {rest : List Value} (hs : g.stack = .ref a :: rest) (hd : decode c.code g.pc = .ok (.arraylength, 1)) (target : State)
    (k : Steps p.tables e below (T.setTop { g with pc := g.pc + 1, stack := .int n :: rest }) target) : Steps p.tables e below (T.setTop g) target := by
  obtain ⟨cl, A, rfl, r⟩ := F
  refine X.arraylength hx (by rw [eT]; exact A.1) (State.isArrayOf_alike hZ.alike A.2.1) hg hs hd target ?_
  have e : cl.slots.size.toInt32 = n := Int32.toInt_inj.mp (by rw [len_toInt (by rw [← Array.length_toList]; exact r), ← hn, Array.length_toList])
  rw [e]; exact k
theorem putI (X : Stand p l e R s m args below meth c T locs cells slots) (hx : p.tables.exec = Jvm.exec) (hZ : Z.Warmed39 s.vm) (eT : T.heap = h) {vs : List Int32} (F : VA Z h a .int (vs.map Value.int)) {j x : Int32} (h0 : 0 ≤ j.toInt) (h1 : j.toInt < vs.length)
    {g : JFrame} (hg : g.method = m) {rest : List Value} (hs : g.stack = .int x :: .int j :: .ref a :: rest) (hd : decode c.code g.pc = .ok (.iastore, 1)) :
    ∃ T' h', Stand p l e R s m args below meth c T' (locs ++ [⟨a, j.toNatClampNeg⟩]) cells slots ∧ T'.heap = h' ∧ Wr h h' a j.toNatClampNeg (.int x) ∧ VA Z h' a .int ((vs.set j.toNatClampNeg x).map Value.int) ∧ ∀ target, Steps p.tables e below (T'.setTop { g with pc := g.pc + 1, stack := rest }) target → Steps p.tables e below (T.setTop g) target := by
  obtain ⟨cl, A, q1, q2, q3⟩ := F.inb h0 (by rw [List.length_map]; exact h1)
  obtain ⟨T', h', X', e', W, st⟩ := stI X hx hZ eT A q1 hg hs hd
  exact ⟨T', h', X', e', W, by rw [List.map_set]; exact q3 _ _ W, st⟩
theorem putJ (X : Stand p l e R s m args below meth c T locs cells slots) (hx : p.tables.exec = Jvm.exec) (hZ : Z.Warmed39 s.vm) (eT : T.heap = h) {vs : List Int64} (F : VA Z h a .long (vs.map Value.long)) {j : Int32} {x : Int64} (h0 : 0 ≤ j.toInt) (h1 : j.toInt < vs.length)
    {g : JFrame} (hg : g.method = m) {rest : List Value} (hs : g.stack = .long x :: .int j :: .ref a :: rest) (hd : decode c.code g.pc = .ok (.lastore, 1)) :
    ∃ T' h', Stand p l e R s m args below meth c T' (locs ++ [⟨a, j.toNatClampNeg⟩]) cells slots ∧ T'.heap = h' ∧ Wr h h' a j.toNatClampNeg (.long x) ∧ VA Z h' a .long ((vs.set j.toNatClampNeg x).map Value.long) ∧ ∀ target, Steps p.tables e below (T'.setTop { g with pc := g.pc + 1, stack := rest }) target → Steps p.tables e below (T.setTop g) target := by
  obtain ⟨cl, A, q1, q2, q3⟩ := F.inb h0 (by rw [List.length_map]; exact h1)
  obtain ⟨T', h', X', e', W, st⟩ := stJ X hx hZ eT A q1 hg hs hd
  exact ⟨T', h', X', e', W, by rw [List.map_set]; exact q3 _ _ W, st⟩
theorem putB (X : Stand p l e R s m args below meth c T locs cells slots) (hx : p.tables.exec = Jvm.exec) (hZ : Z.Warmed39 s.vm) (eT : T.heap = h) {vs : List Int32} (F : VA Z h a .byte (vs.map Value.int)) {j x : Int32} (h0 : 0 ≤ j.toInt) (h1 : j.toInt < vs.length)
    {g : JFrame} (hg : g.method = m) {rest : List Value} (hs : g.stack = .int x :: .int j :: .ref a :: rest) (hd : decode c.code g.pc = .ok (.bastore, 1)) :
    ∃ T' h', Stand p l e R s m args below meth c T' (locs ++ [⟨a, j.toNatClampNeg⟩]) cells slots ∧ T'.heap = h' ∧ Wr h h' a j.toNatClampNeg (.int (nar .byte x)) ∧ VA Z h' a .byte ((vs.set j.toNatClampNeg (nar .byte x)).map Value.int) ∧ ∀ target, Steps p.tables e below (T'.setTop { g with pc := g.pc + 1, stack := rest }) target → Steps p.tables e below (T.setTop g) target := by
  obtain ⟨cl, A, q1, q2, q3⟩ := F.inb h0 (by rw [List.length_map]; exact h1)
  obtain ⟨T', h', X', e', W, st⟩ := stB X hx hZ eT A q1 hg hs hd
  exact ⟨T', h', X', e', W, by rw [List.map_set]; exact q3 _ _ W, st⟩
theorem newI (X : Stand p l e R s m args below meth c T locs cells slots) (hx : p.tables.exec = Jvm.exec) (hZ : Z.Warmed39 s.vm) (w : (Cond.arrayClass .int).before a0 Z = true) (eT : T.heap = h) {g : JFrame} (hg : g.method = m) (hd : decode c.code g.pc = .ok (.newarray .int, 2)) {n : Int32} {rest : List Value} (hs : g.stack = .int n :: rest)
    (hn : 0 ≤ n.toInt) {cap : Nat} (hcap : n.toInt ≤ cap) (hb : cap * 8 ≤ 536870912) (hc : cells + 1 ≤ R.cells) (hl : slots + cap ≤ R.slots) :
    ∃ T' h', Stand p l e R s m args below meth c T' locs (cells + 1) (slots + cap) ∧ T'.heap = h' ∧ Ext h h' ∧ VA Z h' h.size .int ((List.replicate n.toInt.toNat (0 : Int32)).map Value.int) ∧
      ∀ target, Steps p.tables e below (T'.setTop { g with pc := g.pc + 2, stack := .ref h.size :: rest }) target → Steps p.tables e below (T.setTop g) target := by
  have q : ¬ n < 0 := by rw [Int32.lt_iff_toInt_lt]; have k0 : (0 : Int32).toInt = 0 := rfl; omega
  have en : n.toNatClampNeg = n.toInt.toNat := rfl
  obtain ⟨T', h', cA, X', e', E, A, st⟩ := newP X hx hZ (aty := .int) w eT hg hd hs q (cap := cap) (by rw [en]; omega) hb hc hl
  have V1 : VA Z h' h.size .int (List.replicate n.toNatClampNeg (Value.int (0 : Int32))) := VA.new A q
  rw [en] at V1
  refine ⟨T', h', X', e', E, ?_, st⟩
  rw [List.map_replicate]
  exact V1
theorem newJ (X : Stand p l e R s m args below meth c T locs cells slots) (hx : p.tables.exec = Jvm.exec) (hZ : Z.Warmed39 s.vm) (w : (Cond.arrayClass .long).before a0 Z = true) (eT : T.heap = h) {g : JFrame} (hg : g.method = m) (hd : decode c.code g.pc = .ok (.newarray .long, 2)) {n : Int32} {rest : List Value} (hs : g.stack = .int n :: rest)
    (hn : 0 ≤ n.toInt) {cap : Nat} (hcap : n.toInt ≤ cap) (hb : cap * 8 ≤ 536870912) (hc : cells + 1 ≤ R.cells) (hl : slots + cap ≤ R.slots) :
    ∃ T' h', Stand p l e R s m args below meth c T' locs (cells + 1) (slots + cap) ∧ T'.heap = h' ∧ Ext h h' ∧ VA Z h' h.size .long ((List.replicate n.toInt.toNat (0 : Int64)).map Value.long) ∧
      ∀ target, Steps p.tables e below (T'.setTop { g with pc := g.pc + 2, stack := .ref h.size :: rest }) target → Steps p.tables e below (T.setTop g) target := by
  have q : ¬ n < 0 := by rw [Int32.lt_iff_toInt_lt]; have k0 : (0 : Int32).toInt = 0 := rfl; omega
  have en : n.toNatClampNeg = n.toInt.toNat := rfl
  obtain ⟨T', h', cA, X', e', E, A, st⟩ := newP X hx hZ (aty := .long) w eT hg hd hs q (cap := cap) (by rw [en]; omega) hb hc hl
  have V1 : VA Z h' h.size .long (List.replicate n.toNatClampNeg (Value.long (0 : Int64))) := VA.new A q
  rw [en] at V1
  refine ⟨T', h', X', e', E, ?_, st⟩
  rw [List.map_replicate]
  exact V1
theorem newB (X : Stand p l e R s m args below meth c T locs cells slots) (hx : p.tables.exec = Jvm.exec) (hZ : Z.Warmed39 s.vm) (w : (Cond.arrayClass .byte).before a0 Z = true) (eT : T.heap = h) {g : JFrame} (hg : g.method = m) (hd : decode c.code g.pc = .ok (.newarray .byte, 2)) {n : Int32} {rest : List Value} (hs : g.stack = .int n :: rest)
    (hn : 0 ≤ n.toInt) {cap : Nat} (hcap : n.toInt ≤ cap) (hb : cap * 8 ≤ 536870912) (hc : cells + 1 ≤ R.cells) (hl : slots + cap ≤ R.slots) :
    ∃ T' h', Stand p l e R s m args below meth c T' locs (cells + 1) (slots + cap) ∧ T'.heap = h' ∧ Ext h h' ∧ VA Z h' h.size .byte ((List.replicate n.toInt.toNat (0 : Int32)).map Value.int) ∧
      ∀ target, Steps p.tables e below (T'.setTop { g with pc := g.pc + 2, stack := .ref h.size :: rest }) target → Steps p.tables e below (T.setTop g) target := by
  have q : ¬ n < 0 := by rw [Int32.lt_iff_toInt_lt]; have k0 : (0 : Int32).toInt = 0 := rfl; omega
  have en : n.toNatClampNeg = n.toInt.toNat := rfl
  obtain ⟨T', h', cA, X', e', E, A, st⟩ := newP X hx hZ (aty := .byte) w eT hg hd hs q (cap := cap) (by rw [en]; omega) hb hc hl
  have V1 : VA Z h' h.size .byte (List.replicate n.toNatClampNeg (Value.int (0 : Int32))) := VA.new A q
  rw [en] at V1
  refine ⟨T', h', X', e', E, ?_, st⟩
  rw [List.map_replicate]
  exact V1
theorem ldZ (X : Stand p l e R s m args below meth c T locs cells slots) (hx : p.tables.exec = Jvm.exec) (hZ : Z.Warmed39 s.vm) (eT : T.heap = h) {vs : List Int32} (F : VA Z h a .boolean (vs.map Value.int)) {j : Int32} (h0 : 0 ≤ j.toInt) (h1 : j.toInt < vs.length)
    {g : JFrame} (hg : g.method = m) {rest : List Value} (hs : g.stack = .int j :: .ref a :: rest) (hd : decode c.code g.pc = .ok (.baload, 1)) (target : State)
    (k : Steps p.tables e below (T.setTop { g with pc := g.pc + 1, stack := .int (vs.getD j.toNatClampNeg 0) :: rest }) target) : Steps p.tables e below (T.setTop g) target := by
  obtain ⟨cl, A, q1, q2, -⟩ := F.inb h0 (by rw [List.length_map]; exact h1)
  have hj := own_nat h0
  refine X.baloadBooleans hx (j := j) (v := .int (vs.getD j.toNatClampNeg 0)) (by rw [eT]; exact A.1) (State.isArrayOf_alike hZ.alike A.2.1) A.2.2 q1 ?_ hg hs hd target k
  rw [q2, List.getElem?_map, List.getD_eq_getElem?_getD, List.getElem?_eq_getElem (by omega)]; rfl
theorem putZ (X : Stand p l e R s m args below meth c T locs cells slots) (hx : p.tables.exec = Jvm.exec) (hZ : Z.Warmed39 s.vm) (eT : T.heap = h) {vs : List Int32} (F : VA Z h a .boolean (vs.map Value.int)) {j x : Int32} (h0 : 0 ≤ j.toInt) (h1 : j.toInt < vs.length)
    {g : JFrame} (hg : g.method = m) {rest : List Value} (hs : g.stack = .int x :: .int j :: .ref a :: rest) (hd : decode c.code g.pc = .ok (.bastore, 1)) :
    ∃ T' h', Stand p l e R s m args below meth c T' (locs ++ [⟨a, j.toNatClampNeg⟩]) cells slots ∧ T'.heap = h' ∧ Wr h h' a j.toNatClampNeg (.int (nar .boolean x)) ∧ VA Z h' a .boolean ((vs.set j.toNatClampNeg (nar .boolean x)).map Value.int) ∧ ∀ target, Steps p.tables e below (T'.setTop { g with pc := g.pc + 1, stack := rest }) target → Steps p.tables e below (T.setTop g) target := by
  obtain ⟨cl, A, q1, q2, q3⟩ := F.inb h0 (by rw [List.length_map]; exact h1)
  obtain ⟨T', h', X', e', W, st⟩ := stZ X hx hZ eT A q1 hg hs hd
  exact ⟨T', h', X', e', W, by rw [List.map_set]; exact q3 _ _ W, st⟩
theorem newZ (X : Stand p l e R s m args below meth c T locs cells slots) (hx : p.tables.exec = Jvm.exec) (hZ : Z.Warmed39 s.vm) (w : (Cond.arrayClass .boolean).before a0 Z = true) (eT : T.heap = h) {g : JFrame} (hg : g.method = m) (hd : decode c.code g.pc = .ok (.newarray .boolean, 2)) {n : Int32} {rest : List Value} (hs : g.stack = .int n :: rest)
    (hn : 0 ≤ n.toInt) {cap : Nat} (hcap : n.toInt ≤ cap) (hb : cap * 8 ≤ 536870912) (hc : cells + 1 ≤ R.cells) (hl : slots + cap ≤ R.slots) :
    ∃ T' h', Stand p l e R s m args below meth c T' locs (cells + 1) (slots + cap) ∧ T'.heap = h' ∧ Ext h h' ∧ VA Z h' h.size .boolean ((List.replicate n.toInt.toNat (0 : Int32)).map Value.int) ∧
      ∀ target, Steps p.tables e below (T'.setTop { g with pc := g.pc + 2, stack := .ref h.size :: rest }) target → Steps p.tables e below (T.setTop g) target := by
  have q : ¬ n < 0 := by rw [Int32.lt_iff_toInt_lt]; have k0 : (0 : Int32).toInt = 0 := rfl; omega
  have en : n.toNatClampNeg = n.toInt.toNat := rfl
  obtain ⟨T', h', cA, X', e', E, A, st⟩ := newP X hx hZ (aty := .boolean) w eT hg hd hs q (cap := cap) (by rw [en]; omega) hb hc hl
  have V1 : VA Z h' h.size .boolean (List.replicate n.toNatClampNeg (Value.int (0 : Int32))) := VA.new A q
  rw [en] at V1
  refine ⟨T', h', X', e', E, ?_, st⟩
  rw [List.map_replicate]
  exact V1
end Steps2
end New
end Jvm.RoadKit
namespace Jvm.Pilot.@@N@@
open Jvm Jvm.ClassFile Sem Op Lib Jvm.Free Jvm.Stand Jvm.LawKit Jvm.RoadKit Bundle Jvm.Pilot.@@N@@.Jvm.D
def own_R (b : Int) (l : List Int32) : Prop := ∀ x ∈ l, -1 ≤ x.toInt ∧ x.toInt < b
def own_I (wl fl ll cl nl pl : List Int32) : Prop := wl.length = 3 ∧ fl.length = 2 ∧ ll.length = 2 ∧ cl.length = 2 ∧ nl.length = 3 ∧ pl.length = 3 ∧ own_R 2 wl ∧ own_R 3 ll ∧ own_R 3 nl ∧ own_R 3 pl
theorem own_get {b : Int} {l : List Int32} (h : own_R b l) {j : Int32} (h0 : 0 ≤ j.toInt) (h1 : j.toInt < l.length) : -1 ≤ (l.getD j.toNatClampNeg 0).toInt ∧ (l.getD j.toNatClampNeg 0).toInt < b := by
  apply h
  have q := own_nat h0
  rw [List.getD_eq_getElem?_getD, List.getElem?_eq_getElem (by omega)]
  exact List.getElem_mem _
theorem own_set {b : Int} {l : List Int32} (h : own_R b l) (i : Nat) {v : Int32} (hv : -1 ≤ v.toInt ∧ v.toInt < b) : own_R b (l.set i v) := fun x hx => (List.mem_or_eq_of_mem_set hx).elim (h x) (fun q => q ▸ hv)
theorem own_pos1 {b : Int} {x : Int32} (h : -1 ≤ x.toInt ∧ x.toInt < b) (hn : ¬ x = (-1 : Int32)) : 0 ≤ x.toInt ∧ x.toInt < b := by
  have km : (-1 : Int32).toInt = -1 := by decide
  have : ¬ x.toInt = -1 := fun q => hn (Int32.toInt_inj.mp (by rw [q, km]))
  omega
theorem own_m1 {b : Int} (h : 0 < b) : -1 ≤ (-1 : Int32).toInt ∧ (-1 : Int32).toInt < b := by
  have km : (-1 : Int32).toInt = -1 := by decide
  omega
theorem own_ix {j : Int32} {l : List Int32} {b : Nat} (h : 0 ≤ j.toInt ∧ j.toInt < b) (hl : l.length = b) : 0 ≤ j.toInt ∧ j.toInt < (l.length : Int) := by omega
theorem own_ixs {j v : Int32} {l : List Int32} {b i : Nat} (h : 0 ≤ j.toInt ∧ j.toInt < b) (hl : l.length = b) : 0 ≤ j.toInt ∧ j.toInt < ((l.set i v).length : Int) := by rw [List.length_set]; omega
theorem d3_0 : decode jdk_65_method_103_code 0 = .ok (.iconst 0, 1) := by decide +kernel
theorem d3_1 : decode jdk_65_method_103_code 1 = .ok (.istore_n 2, 1) := by decide +kernel
theorem d3_2 : decode jdk_65_method_103_code 2 = .ok (.aload_n 0, 1) := by decide +kernel
theorem d3_3 : decode jdk_65_method_103_code 3 = .ok (.arraylength, 1) := by decide +kernel
theorem d3_4 : decode jdk_65_method_103_code 4 = .ok (.istore_n 3, 1) := by decide +kernel
theorem d3_5 : decode jdk_65_method_103_code 5 = .ok (.iload_n 2, 1) := by decide +kernel
theorem d3_6 : decode jdk_65_method_103_code 6 = .ok (.iload_n 3, 1) := by decide +kernel
theorem d3_7 : decode jdk_65_method_103_code 7 = .ok (.if_icmp .ge 13, 3) := by decide +kernel
theorem d3_10 : decode jdk_65_method_103_code 10 = .ok (.aload_n 0, 1) := by decide +kernel
theorem d3_11 : decode jdk_65_method_103_code 11 = .ok (.iload_n 2, 1) := by decide +kernel
theorem d3_12 : decode jdk_65_method_103_code 12 = .ok (.iload_n 1, 1) := by decide +kernel
theorem d3_13 : decode jdk_65_method_103_code 13 = .ok (.iastore, 1) := by decide +kernel
theorem d3_14 : decode jdk_65_method_103_code 14 = .ok (.iinc 2 1, 3) := by decide +kernel
theorem d3_17 : decode jdk_65_method_103_code 17 = .ok (.goto (-12), 3) := by decide +kernel
theorem d3_20 : decode jdk_65_method_103_code 20 = .ok (.return_, 1) := by decide +kernel
theorem pn_0 : plainName "java/util/Arrays" = true := by first | (simp [plainName, overriddenIn]; done) | decide +kernel
theorem ef_fill2 (m : MethodId) (x0 : Addr) (x1 : Int32) : entryFrame m #[(.ref x0), (.int x1)] 4 = mkF m 0 #[.val (.ref x0), .val (.int x1), .unset, .unset] [] := by first | (simp [entryFrame, mkF, argsToLocals, Value.category]; done) | rfl
def fill2 (v1 : Int32) (y0 : Int32) (y1 : Int32) : List Int32 := [v1, v1]
def Qfill2 (Z : State) (a : Addr) (v1 : Int32) (y0 : Int32) (y1 : Int32) (RES : List Int32) (h0 : Heap) (n0 : Nat) (v : Option Value) (h : Heap) (L : List Loc) : Prop := v = none ∧ Fr n0 L ∧ Keep h0 h [a] ∧ VA Z h a .int (RES.map Value.int)
set_option maxRecDepth 65536 in
set_option maxHeartbeats 40000000 in
theorem rm_fill2 (l : Launch) (Z : State) (a0 : Array Value) (hw : ∀ d ∈ tables_1, d.before a0 Z = true) (ws : List Jvm.Cond) (a : Addr) (v1 : Int32) (y0 : Int32) (y1 : Int32) (h0 : Heap) (n0 : Nat) (Z0 : n0 ≤ h0.size) (F0 : VA Z h0 a .int ([y0, y1].map Value.int)) (g_a : n0 ≤ a) :
    MetFree l (⟨"java/util/Arrays", "fill", "([II)V"⟩ : MethodName) (head1 (Jvm.Cond.code (⟨"java/util/Arrays", "fill", "([II)V"⟩ : MethodName) jdk_65_method_103_code 4 none :: ws) ({ frames := 0, cells := 0, slots := 0, locals := 0 } : Room)) (fun A_ U => A_ = #[(.ref a), (.int v1)] ∧ Z.Warmed39 U.vm ∧ U.heap = h0) (fun _ _ _ _ _ => True) (fun _ U o U' => ∃ v L, o = .returned v ∧ Qfill2 Z a v1 y0 y1 (fill2 v1 y0 y1) h0 n0 v U'.heap L ∧ FrameEnd U o U' L ({ frames := 0, cells := 0, slots := 0, locals := 0 } : Room).cells ({ frames := 0, cells := 0, slots := 0, locals := 0 } : Room).slots) := by
  refine MetFree.of_bodySF (plainFor_of_name pn_0) hisR ?_
  intro p e s m args below meth c s₁ Bd hml0 hP hK
  obtain ⟨rfl, hZ, hh⟩ := hP
  have hx := Bd.exec
  have hby := Bd.bytes
  have hml : c.maxLocals = 4 := hml0
  have hown : s.vm.findClass "java/util/Arrays" = some m.cls := findClass_of_methodNamed Bd.named
  have hnm := (name_of_methodNamed Bd.named Bd.method).1
  have X0 : Stand p l e ({ frames := 0, cells := 0, slots := 0, locals := 0 } : Room) s m #[(.ref a), (.int v1)] below meth c s₁ [] 0 0 := Stand.of_body Bd
  have e0 : s₁.heap = h0 := by rw [← hh, Bd.state]; rfl
  have N0 := Fr.nil n0
  obtain ⟨RES, hf⟩ : ∃ z, z = fill2 v1 y0 y1 := ⟨_, rfl⟩
  rw [← hf]
  rw [fill2] at hf
  suffices HGO : Go p e below s (Qfill2 Z a v1 y0 y1 RES h0 n0) ({ frames := 0, cells := 0, slots := 0, locals := 0 } : Room).cells ({ frames := 0, cells := 0, slots := 0, locals := 0 } : Room).slots s₁ (mkF m 0 #[.val (.ref a), .val (.int v1), .unset, .unset] []) from Go.cast (ef_fill2 m a v1) HGO
  have ln1 : (([y0, y1].map Value.int).length : Int) = ((2 : Int32)).toInt := (by rfl)
  have ix2 : 0 ≤ ((0 : Int32)).toInt ∧ ((0 : Int32)).toInt < (([y0, y1]).length : Int) := by constructor <;> first | decide | (simp; done)
  obtain ⟨T3, h3, X3, e3, W3, V3, st3⟩ := putI X0 hx hZ e0 F0 ix2.1 ix2.2 (g := (mkF m 13 #[.val (.ref a), .val (.int v1), .val (.int (0 : Int32)), .val (.int (2 : Int32))] [(.int v1), (.int (0 : Int32)), (.ref a)])) rfl rfl (hb hby d3_13)
  have G4 : VA Z h3 a .int ([v1, y1].map Value.int) := V3
  have N3 := Fr.snoc X3 N0 g_a
  have K3 : Keep h0 h3 [a] := Keep.wr (Keep.refl h0 [a]) W3 (Or.inl (List.mem_of_getElem? (i := 0) rfl))
  have Z3 : n0 ≤ h3.size := Nat.le_trans Z0 K3.1
  have ix5 : 0 ≤ ((1 : Int32)).toInt ∧ ((1 : Int32)).toInt < (([v1, y1]).length : Int) := by constructor <;> first | decide | (simp; done)
  obtain ⟨T6, h6, X6, e6, W6, V6, st6⟩ := putI X3 hx hZ e3 G4 ix5.1 ix5.2 (g := (mkF m 13 #[.val (.ref a), .val (.int v1), .val (.int (1 : Int32)), .val (.int (2 : Int32))] [(.int v1), (.int (1 : Int32)), (.ref a)])) rfl rfl (hb hby d3_13)
  have G7 : VA Z h6 a .int ([v1, v1].map Value.int) := V6
  have N6 := Fr.snoc X6 N3 g_a
  have K6 : Keep h0 h6 [a] := Keep.wr K3 W6 (Or.inl (List.mem_of_getElem? (i := 0) rfl))
  have Z6 : n0 ≤ h6.size := Nat.le_trans Z0 K6.1
  refine Go.step (T' := T6) (f' := (mkF m 20 #[.val (.ref a), .val (.int v1), .val (.int (2 : Int32)), .val (.int (2 : Int32))] [])) (fun t kt => ?_) ?_
  · show Steps p.tables e below (s₁.setTop (mkF m 0 #[.val (.ref a), .val (.int v1), .unset, .unset] [])) _
    refine XS.iconst X0.here hx rfl (hb hby d3_0) ?_
    show Steps p.tables e below (s₁.setTop (mkF m 1 #[.val (.ref a), .val (.int v1), .unset, .unset] [(.int (0 : Int32))])) _
    refine XS.istoreN X0.here hx rfl (hb hby d3_1) rfl (l' := #[.val (.ref a), .val (.int v1), .val (.int (0 : Int32)), .unset]) rfl ?_
    show Steps p.tables e below (s₁.setTop (mkF m 2 #[.val (.ref a), .val (.int v1), .val (.int (0 : Int32)), .unset] [])) _
    refine XS.aloadN X0.here hx rfl (hb hby d3_2) rfl rfl ?_
    show Steps p.tables e below (s₁.setTop (mkF m 3 #[.val (.ref a), .val (.int v1), .val (.int (0 : Int32)), .unset] [(.ref a)])) _
    refine lenA X0 hx hZ e0 F0 (n := (2 : Int32)) ln1 (g := (mkF m 3 #[.val (.ref a), .val (.int v1), .val (.int (0 : Int32)), .unset] [(.ref a)])) rfl rfl (hb hby d3_3) _ ?_
    show Steps p.tables e below (s₁.setTop (mkF m 4 #[.val (.ref a), .val (.int v1), .val (.int (0 : Int32)), .unset] [(.int (2 : Int32))])) _
    refine XS.istoreN X0.here hx rfl (hb hby d3_4) rfl (l' := #[.val (.ref a), .val (.int v1), .val (.int (0 : Int32)), .val (.int (2 : Int32))]) rfl ?_
    show Steps p.tables e below (s₁.setTop (mkF m 5 #[.val (.ref a), .val (.int v1), .val (.int (0 : Int32)), .val (.int (2 : Int32))] [])) _
    refine XS.iloadN X0.here hx rfl (hb hby d3_5) rfl ?_
    show Steps p.tables e below (s₁.setTop (mkF m 6 #[.val (.ref a), .val (.int v1), .val (.int (0 : Int32)), .val (.int (2 : Int32))] [(.int (0 : Int32))])) _
    refine XS.iloadN X0.here hx rfl (hb hby d3_6) rfl ?_
    show Steps p.tables e below (s₁.setTop (mkF m 7 #[.val (.ref a), .val (.int v1), .val (.int (0 : Int32)), .val (.int (2 : Int32))] [(.int (2 : Int32)), (.int (0 : Int32))])) _
    refine XS.icmpNo X0.here hx rfl (hb hby d3_7) rfl (tlt (by decide : ((0 : Int32) < (2 : Int32)))).2.1 ?_
    show Steps p.tables e below (s₁.setTop (mkF m 10 #[.val (.ref a), .val (.int v1), .val (.int (0 : Int32)), .val (.int (2 : Int32))] [])) _
    refine XS.aloadN X0.here hx rfl (hb hby d3_10) rfl rfl ?_
    show Steps p.tables e below (s₁.setTop (mkF m 11 #[.val (.ref a), .val (.int v1), .val (.int (0 : Int32)), .val (.int (2 : Int32))] [(.ref a)])) _
    refine XS.iloadN X0.here hx rfl (hb hby d3_11) rfl ?_
    show Steps p.tables e below (s₁.setTop (mkF m 12 #[.val (.ref a), .val (.int v1), .val (.int (0 : Int32)), .val (.int (2 : Int32))] [(.int (0 : Int32)), (.ref a)])) _
    refine XS.iloadN X0.here hx rfl (hb hby d3_12) rfl ?_
    show Steps p.tables e below (s₁.setTop (mkF m 13 #[.val (.ref a), .val (.int v1), .val (.int (0 : Int32)), .val (.int (2 : Int32))] [(.int v1), (.int (0 : Int32)), (.ref a)])) _
    refine st3 _ ?_
    show Steps p.tables e below (T3.setTop (mkF m 14 #[.val (.ref a), .val (.int v1), .val (.int (0 : Int32)), .val (.int (2 : Int32))] [])) _
    refine XS.iinc X3.here hx rfl (hb hby d3_14) rfl (l' := #[.val (.ref a), .val (.int v1), .val (.int (1 : Int32)), .val (.int (2 : Int32))]) rfl ?_
    show Steps p.tables e below (T3.setTop (mkF m 17 #[.val (.ref a), .val (.int v1), .val (.int (1 : Int32)), .val (.int (2 : Int32))] [])) _
    refine XS.goto X3.here hx rfl (pc0 := 17) (pc' := 5) rfl (hb hby d3_17) (by decide) (by decide) ?_
    show Steps p.tables e below (T3.setTop (mkF m 5 #[.val (.ref a), .val (.int v1), .val (.int (1 : Int32)), .val (.int (2 : Int32))] [])) _
    refine XS.iloadN X3.here hx rfl (hb hby d3_5) rfl ?_
    show Steps p.tables e below (T3.setTop (mkF m 6 #[.val (.ref a), .val (.int v1), .val (.int (1 : Int32)), .val (.int (2 : Int32))] [(.int (1 : Int32))])) _
    refine XS.iloadN X3.here hx rfl (hb hby d3_6) rfl ?_
    show Steps p.tables e below (T3.setTop (mkF m 7 #[.val (.ref a), .val (.int v1), .val (.int (1 : Int32)), .val (.int (2 : Int32))] [(.int (2 : Int32)), (.int (1 : Int32))])) _
    refine XS.icmpNo X3.here hx rfl (hb hby d3_7) rfl (tlt (by decide : ((1 : Int32) < (2 : Int32)))).2.1 ?_
    show Steps p.tables e below (T3.setTop (mkF m 10 #[.val (.ref a), .val (.int v1), .val (.int (1 : Int32)), .val (.int (2 : Int32))] [])) _
    refine XS.aloadN X3.here hx rfl (hb hby d3_10) rfl rfl ?_
    show Steps p.tables e below (T3.setTop (mkF m 11 #[.val (.ref a), .val (.int v1), .val (.int (1 : Int32)), .val (.int (2 : Int32))] [(.ref a)])) _
    refine XS.iloadN X3.here hx rfl (hb hby d3_11) rfl ?_
    show Steps p.tables e below (T3.setTop (mkF m 12 #[.val (.ref a), .val (.int v1), .val (.int (1 : Int32)), .val (.int (2 : Int32))] [(.int (1 : Int32)), (.ref a)])) _
    refine XS.iloadN X3.here hx rfl (hb hby d3_12) rfl ?_
    show Steps p.tables e below (T3.setTop (mkF m 13 #[.val (.ref a), .val (.int v1), .val (.int (1 : Int32)), .val (.int (2 : Int32))] [(.int v1), (.int (1 : Int32)), (.ref a)])) _
    refine st6 _ ?_
    show Steps p.tables e below (T6.setTop (mkF m 14 #[.val (.ref a), .val (.int v1), .val (.int (1 : Int32)), .val (.int (2 : Int32))] [])) _
    refine XS.iinc X6.here hx rfl (hb hby d3_14) rfl (l' := #[.val (.ref a), .val (.int v1), .val (.int (2 : Int32)), .val (.int (2 : Int32))]) rfl ?_
    show Steps p.tables e below (T6.setTop (mkF m 17 #[.val (.ref a), .val (.int v1), .val (.int (2 : Int32)), .val (.int (2 : Int32))] [])) _
    refine XS.goto X6.here hx rfl (pc0 := 17) (pc' := 5) rfl (hb hby d3_17) (by decide) (by decide) ?_
    show Steps p.tables e below (T6.setTop (mkF m 5 #[.val (.ref a), .val (.int v1), .val (.int (2 : Int32)), .val (.int (2 : Int32))] [])) _
    refine XS.iloadN X6.here hx rfl (hb hby d3_5) rfl ?_
    show Steps p.tables e below (T6.setTop (mkF m 6 #[.val (.ref a), .val (.int v1), .val (.int (2 : Int32)), .val (.int (2 : Int32))] [(.int (2 : Int32))])) _
    refine XS.iloadN X6.here hx rfl (hb hby d3_6) rfl ?_
    show Steps p.tables e below (T6.setTop (mkF m 7 #[.val (.ref a), .val (.int v1), .val (.int (2 : Int32)), .val (.int (2 : Int32))] [(.int (2 : Int32)), (.int (2 : Int32))])) _
    refine XS.icmpYes X6.here hx rfl (pc0 := 7) (pc' := 20) rfl (hb hby d3_7) rfl (flt (by decide : ¬ ((2 : Int32) < (2 : Int32)))).2.1 (by decide) (by decide) ?_
    exact kt
  refine Go.fin X6 (v := none) (fun _ => rfl) Bd.notSynchronized ?_ (Nat.le_trans (Nat.le_refl 0) (by decide)) (Nat.le_trans (Nat.le_refl 0) (by decide)) (fun fs hr => X6.returnOut hx Bd.returns (hb hby d3_20) hr)
  · show Qfill2 Z a v1 y0 y1 RES h0 n0 _ T6.heap _
    rw [e6, hf]
    exact ⟨rfl, N6, K6, G7⟩
theorem ef_fill3 (m : MethodId) (x0 : Addr) (x1 : Int32) : entryFrame m #[(.ref x0), (.int x1)] 4 = mkF m 0 #[.val (.ref x0), .val (.int x1), .unset, .unset] [] := by first | (simp [entryFrame, mkF, argsToLocals, Value.category]; done) | rfl
def fill3 (v1 : Int32) (y0 : Int32) (y1 : Int32) (y2 : Int32) : List Int32 := [v1, v1, v1]
def Qfill3 (Z : State) (a : Addr) (v1 : Int32) (y0 : Int32) (y1 : Int32) (y2 : Int32) (RES : List Int32) (h0 : Heap) (n0 : Nat) (v : Option Value) (h : Heap) (L : List Loc) : Prop := v = none ∧ Fr n0 L ∧ Keep h0 h [a] ∧ VA Z h a .int (RES.map Value.int)
set_option maxRecDepth 65536 in
set_option maxHeartbeats 40000000 in
theorem rm_fill3 (l : Launch) (Z : State) (a0 : Array Value) (hw : ∀ d ∈ tables_1, d.before a0 Z = true) (ws : List Jvm.Cond) (a : Addr) (v1 : Int32) (y0 : Int32) (y1 : Int32) (y2 : Int32) (h0 : Heap) (n0 : Nat) (Z0 : n0 ≤ h0.size) (F0 : VA Z h0 a .int ([y0, y1, y2].map Value.int)) (g_a : n0 ≤ a) :
    MetFree l (⟨"java/util/Arrays", "fill", "([II)V"⟩ : MethodName) (head1 (Jvm.Cond.code (⟨"java/util/Arrays", "fill", "([II)V"⟩ : MethodName) jdk_65_method_103_code 4 none :: ws) ({ frames := 0, cells := 0, slots := 0, locals := 0 } : Room)) (fun A_ U => A_ = #[(.ref a), (.int v1)] ∧ Z.Warmed39 U.vm ∧ U.heap = h0) (fun _ _ _ _ _ => True) (fun _ U o U' => ∃ v L, o = .returned v ∧ Qfill3 Z a v1 y0 y1 y2 (fill3 v1 y0 y1 y2) h0 n0 v U'.heap L ∧ FrameEnd U o U' L ({ frames := 0, cells := 0, slots := 0, locals := 0 } : Room).cells ({ frames := 0, cells := 0, slots := 0, locals := 0 } : Room).slots) := by
  refine MetFree.of_bodySF (plainFor_of_name pn_0) hisR ?_
  intro p e s m args below meth c s₁ Bd hml0 hP hK
  obtain ⟨rfl, hZ, hh⟩ := hP
  have hx := Bd.exec
  have hby := Bd.bytes
  have hml : c.maxLocals = 4 := hml0
  have hown : s.vm.findClass "java/util/Arrays" = some m.cls := findClass_of_methodNamed Bd.named
  have hnm := (name_of_methodNamed Bd.named Bd.method).1
  have X0 : Stand p l e ({ frames := 0, cells := 0, slots := 0, locals := 0 } : Room) s m #[(.ref a), (.int v1)] below meth c s₁ [] 0 0 := Stand.of_body Bd
  have e0 : s₁.heap = h0 := by rw [← hh, Bd.state]; rfl
  have N0 := Fr.nil n0
  obtain ⟨RES, hf⟩ : ∃ z, z = fill3 v1 y0 y1 y2 := ⟨_, rfl⟩
  rw [← hf]
  rw [fill3] at hf
  suffices HGO : Go p e below s (Qfill3 Z a v1 y0 y1 y2 RES h0 n0) ({ frames := 0, cells := 0, slots := 0, locals := 0 } : Room).cells ({ frames := 0, cells := 0, slots := 0, locals := 0 } : Room).slots s₁ (mkF m 0 #[.val (.ref a), .val (.int v1), .unset, .unset] []) from Go.cast (ef_fill3 m a v1) HGO
  have ln1 : (([y0, y1, y2].map Value.int).length : Int) = ((3 : Int32)).toInt := (by rfl)
  have ix2 : 0 ≤ ((0 : Int32)).toInt ∧ ((0 : Int32)).toInt < (([y0, y1, y2]).length : Int) := by constructor <;> first | decide | (simp; done)
  obtain ⟨T3, h3, X3, e3, W3, V3, st3⟩ := putI X0 hx hZ e0 F0 ix2.1 ix2.2 (g := (mkF m 13 #[.val (.ref a), .val (.int v1), .val (.int (0 : Int32)), .val (.int (3 : Int32))] [(.int v1), (.int (0 : Int32)), (.ref a)])) rfl rfl (hb hby d3_13)
  have G4 : VA Z h3 a .int ([v1, y1, y2].map Value.int) := V3
  have N3 := Fr.snoc X3 N0 g_a
  have K3 : Keep h0 h3 [a] := Keep.wr (Keep.refl h0 [a]) W3 (Or.inl (List.mem_of_getElem? (i := 0) rfl))
  have Z3 : n0 ≤ h3.size := Nat.le_trans Z0 K3.1
  have ix5 : 0 ≤ ((1 : Int32)).toInt ∧ ((1 : Int32)).toInt < (([v1, y1, y2]).length : Int) := by constructor <;> first | decide | (simp; done)
  obtain ⟨T6, h6, X6, e6, W6, V6, st6⟩ := putI X3 hx hZ e3 G4 ix5.1 ix5.2 (g := (mkF m 13 #[.val (.ref a), .val (.int v1), .val (.int (1 : Int32)), .val (.int (3 : Int32))] [(.int v1), (.int (1 : Int32)), (.ref a)])) rfl rfl (hb hby d3_13)
  have G7 : VA Z h6 a .int ([v1, v1, y2].map Value.int) := V6
  have N6 := Fr.snoc X6 N3 g_a
  have K6 : Keep h0 h6 [a] := Keep.wr K3 W6 (Or.inl (List.mem_of_getElem? (i := 0) rfl))
  have Z6 : n0 ≤ h6.size := Nat.le_trans Z0 K6.1
  have ix8 : 0 ≤ ((2 : Int32)).toInt ∧ ((2 : Int32)).toInt < (([v1, v1, y2]).length : Int) := by constructor <;> first | decide | (simp; done)
  obtain ⟨T9, h9, X9, e9, W9, V9, st9⟩ := putI X6 hx hZ e6 G7 ix8.1 ix8.2 (g := (mkF m 13 #[.val (.ref a), .val (.int v1), .val (.int (2 : Int32)), .val (.int (3 : Int32))] [(.int v1), (.int (2 : Int32)), (.ref a)])) rfl rfl (hb hby d3_13)
  have G10 : VA Z h9 a .int ([v1, v1, v1].map Value.int) := V9
  have N9 := Fr.snoc X9 N6 g_a
  have K9 : Keep h0 h9 [a] := Keep.wr K6 W9 (Or.inl (List.mem_of_getElem? (i := 0) rfl))
  have Z9 : n0 ≤ h9.size := Nat.le_trans Z0 K9.1
  refine Go.step (T' := T9) (f' := (mkF m 20 #[.val (.ref a), .val (.int v1), .val (.int (3 : Int32)), .val (.int (3 : Int32))] [])) (fun t kt => ?_) ?_
  · show Steps p.tables e below (s₁.setTop (mkF m 0 #[.val (.ref a), .val (.int v1), .unset, .unset] [])) _
    refine XS.iconst X0.here hx rfl (hb hby d3_0) ?_
    show Steps p.tables e below (s₁.setTop (mkF m 1 #[.val (.ref a), .val (.int v1), .unset, .unset] [(.int (0 : Int32))])) _
    refine XS.istoreN X0.here hx rfl (hb hby d3_1) rfl (l' := #[.val (.ref a), .val (.int v1), .val (.int (0 : Int32)), .unset]) rfl ?_
    show Steps p.tables e below (s₁.setTop (mkF m 2 #[.val (.ref a), .val (.int v1), .val (.int (0 : Int32)), .unset] [])) _
    refine XS.aloadN X0.here hx rfl (hb hby d3_2) rfl rfl ?_
    show Steps p.tables e below (s₁.setTop (mkF m 3 #[.val (.ref a), .val (.int v1), .val (.int (0 : Int32)), .unset] [(.ref a)])) _
    refine lenA X0 hx hZ e0 F0 (n := (3 : Int32)) ln1 (g := (mkF m 3 #[.val (.ref a), .val (.int v1), .val (.int (0 : Int32)), .unset] [(.ref a)])) rfl rfl (hb hby d3_3) _ ?_
    show Steps p.tables e below (s₁.setTop (mkF m 4 #[.val (.ref a), .val (.int v1), .val (.int (0 : Int32)), .unset] [(.int (3 : Int32))])) _
    refine XS.istoreN X0.here hx rfl (hb hby d3_4) rfl (l' := #[.val (.ref a), .val (.int v1), .val (.int (0 : Int32)), .val (.int (3 : Int32))]) rfl ?_
    show Steps p.tables e below (s₁.setTop (mkF m 5 #[.val (.ref a), .val (.int v1), .val (.int (0 : Int32)), .val (.int (3 : Int32))] [])) _
    refine XS.iloadN X0.here hx rfl (hb hby d3_5) rfl ?_
    show Steps p.tables e below (s₁.setTop (mkF m 6 #[.val (.ref a), .val (.int v1), .val (.int (0 : Int32)), .val (.int (3 : Int32))] [(.int (0 : Int32))])) _
    refine XS.iloadN X0.here hx rfl (hb hby d3_6) rfl ?_
    show Steps p.tables e below (s₁.setTop (mkF m 7 #[.val (.ref a), .val (.int v1), .val (.int (0 : Int32)), .val (.int (3 : Int32))] [(.int (3 : Int32)), (.int (0 : Int32))])) _
    refine XS.icmpNo X0.here hx rfl (hb hby d3_7) rfl (tlt (by decide : ((0 : Int32) < (3 : Int32)))).2.1 ?_
    show Steps p.tables e below (s₁.setTop (mkF m 10 #[.val (.ref a), .val (.int v1), .val (.int (0 : Int32)), .val (.int (3 : Int32))] [])) _
    refine XS.aloadN X0.here hx rfl (hb hby d3_10) rfl rfl ?_
    show Steps p.tables e below (s₁.setTop (mkF m 11 #[.val (.ref a), .val (.int v1), .val (.int (0 : Int32)), .val (.int (3 : Int32))] [(.ref a)])) _
    refine XS.iloadN X0.here hx rfl (hb hby d3_11) rfl ?_
    show Steps p.tables e below (s₁.setTop (mkF m 12 #[.val (.ref a), .val (.int v1), .val (.int (0 : Int32)), .val (.int (3 : Int32))] [(.int (0 : Int32)), (.ref a)])) _
    refine XS.iloadN X0.here hx rfl (hb hby d3_12) rfl ?_
    show Steps p.tables e below (s₁.setTop (mkF m 13 #[.val (.ref a), .val (.int v1), .val (.int (0 : Int32)), .val (.int (3 : Int32))] [(.int v1), (.int (0 : Int32)), (.ref a)])) _
    refine st3 _ ?_
    show Steps p.tables e below (T3.setTop (mkF m 14 #[.val (.ref a), .val (.int v1), .val (.int (0 : Int32)), .val (.int (3 : Int32))] [])) _
    refine XS.iinc X3.here hx rfl (hb hby d3_14) rfl (l' := #[.val (.ref a), .val (.int v1), .val (.int (1 : Int32)), .val (.int (3 : Int32))]) rfl ?_
    show Steps p.tables e below (T3.setTop (mkF m 17 #[.val (.ref a), .val (.int v1), .val (.int (1 : Int32)), .val (.int (3 : Int32))] [])) _
    refine XS.goto X3.here hx rfl (pc0 := 17) (pc' := 5) rfl (hb hby d3_17) (by decide) (by decide) ?_
    show Steps p.tables e below (T3.setTop (mkF m 5 #[.val (.ref a), .val (.int v1), .val (.int (1 : Int32)), .val (.int (3 : Int32))] [])) _
    refine XS.iloadN X3.here hx rfl (hb hby d3_5) rfl ?_
    show Steps p.tables e below (T3.setTop (mkF m 6 #[.val (.ref a), .val (.int v1), .val (.int (1 : Int32)), .val (.int (3 : Int32))] [(.int (1 : Int32))])) _
    refine XS.iloadN X3.here hx rfl (hb hby d3_6) rfl ?_
    show Steps p.tables e below (T3.setTop (mkF m 7 #[.val (.ref a), .val (.int v1), .val (.int (1 : Int32)), .val (.int (3 : Int32))] [(.int (3 : Int32)), (.int (1 : Int32))])) _
    refine XS.icmpNo X3.here hx rfl (hb hby d3_7) rfl (tlt (by decide : ((1 : Int32) < (3 : Int32)))).2.1 ?_
    show Steps p.tables e below (T3.setTop (mkF m 10 #[.val (.ref a), .val (.int v1), .val (.int (1 : Int32)), .val (.int (3 : Int32))] [])) _
    refine XS.aloadN X3.here hx rfl (hb hby d3_10) rfl rfl ?_
    show Steps p.tables e below (T3.setTop (mkF m 11 #[.val (.ref a), .val (.int v1), .val (.int (1 : Int32)), .val (.int (3 : Int32))] [(.ref a)])) _
    refine XS.iloadN X3.here hx rfl (hb hby d3_11) rfl ?_
    show Steps p.tables e below (T3.setTop (mkF m 12 #[.val (.ref a), .val (.int v1), .val (.int (1 : Int32)), .val (.int (3 : Int32))] [(.int (1 : Int32)), (.ref a)])) _
    refine XS.iloadN X3.here hx rfl (hb hby d3_12) rfl ?_
    show Steps p.tables e below (T3.setTop (mkF m 13 #[.val (.ref a), .val (.int v1), .val (.int (1 : Int32)), .val (.int (3 : Int32))] [(.int v1), (.int (1 : Int32)), (.ref a)])) _
    refine st6 _ ?_
    show Steps p.tables e below (T6.setTop (mkF m 14 #[.val (.ref a), .val (.int v1), .val (.int (1 : Int32)), .val (.int (3 : Int32))] [])) _
    refine XS.iinc X6.here hx rfl (hb hby d3_14) rfl (l' := #[.val (.ref a), .val (.int v1), .val (.int (2 : Int32)), .val (.int (3 : Int32))]) rfl ?_
    show Steps p.tables e below (T6.setTop (mkF m 17 #[.val (.ref a), .val (.int v1), .val (.int (2 : Int32)), .val (.int (3 : Int32))] [])) _
    refine XS.goto X6.here hx rfl (pc0 := 17) (pc' := 5) rfl (hb hby d3_17) (by decide) (by decide) ?_
    show Steps p.tables e below (T6.setTop (mkF m 5 #[.val (.ref a), .val (.int v1), .val (.int (2 : Int32)), .val (.int (3 : Int32))] [])) _
    refine XS.iloadN X6.here hx rfl (hb hby d3_5) rfl ?_
    show Steps p.tables e below (T6.setTop (mkF m 6 #[.val (.ref a), .val (.int v1), .val (.int (2 : Int32)), .val (.int (3 : Int32))] [(.int (2 : Int32))])) _
    refine XS.iloadN X6.here hx rfl (hb hby d3_6) rfl ?_
    show Steps p.tables e below (T6.setTop (mkF m 7 #[.val (.ref a), .val (.int v1), .val (.int (2 : Int32)), .val (.int (3 : Int32))] [(.int (3 : Int32)), (.int (2 : Int32))])) _
    refine XS.icmpNo X6.here hx rfl (hb hby d3_7) rfl (tlt (by decide : ((2 : Int32) < (3 : Int32)))).2.1 ?_
    show Steps p.tables e below (T6.setTop (mkF m 10 #[.val (.ref a), .val (.int v1), .val (.int (2 : Int32)), .val (.int (3 : Int32))] [])) _
    refine XS.aloadN X6.here hx rfl (hb hby d3_10) rfl rfl ?_
    show Steps p.tables e below (T6.setTop (mkF m 11 #[.val (.ref a), .val (.int v1), .val (.int (2 : Int32)), .val (.int (3 : Int32))] [(.ref a)])) _
    refine XS.iloadN X6.here hx rfl (hb hby d3_11) rfl ?_
    show Steps p.tables e below (T6.setTop (mkF m 12 #[.val (.ref a), .val (.int v1), .val (.int (2 : Int32)), .val (.int (3 : Int32))] [(.int (2 : Int32)), (.ref a)])) _
    refine XS.iloadN X6.here hx rfl (hb hby d3_12) rfl ?_
    show Steps p.tables e below (T6.setTop (mkF m 13 #[.val (.ref a), .val (.int v1), .val (.int (2 : Int32)), .val (.int (3 : Int32))] [(.int v1), (.int (2 : Int32)), (.ref a)])) _
    refine st9 _ ?_
    show Steps p.tables e below (T9.setTop (mkF m 14 #[.val (.ref a), .val (.int v1), .val (.int (2 : Int32)), .val (.int (3 : Int32))] [])) _
    refine XS.iinc X9.here hx rfl (hb hby d3_14) rfl (l' := #[.val (.ref a), .val (.int v1), .val (.int (3 : Int32)), .val (.int (3 : Int32))]) rfl ?_
    show Steps p.tables e below (T9.setTop (mkF m 17 #[.val (.ref a), .val (.int v1), .val (.int (3 : Int32)), .val (.int (3 : Int32))] [])) _
    refine XS.goto X9.here hx rfl (pc0 := 17) (pc' := 5) rfl (hb hby d3_17) (by decide) (by decide) ?_
    show Steps p.tables e below (T9.setTop (mkF m 5 #[.val (.ref a), .val (.int v1), .val (.int (3 : Int32)), .val (.int (3 : Int32))] [])) _
    refine XS.iloadN X9.here hx rfl (hb hby d3_5) rfl ?_
    show Steps p.tables e below (T9.setTop (mkF m 6 #[.val (.ref a), .val (.int v1), .val (.int (3 : Int32)), .val (.int (3 : Int32))] [(.int (3 : Int32))])) _
    refine XS.iloadN X9.here hx rfl (hb hby d3_6) rfl ?_
    show Steps p.tables e below (T9.setTop (mkF m 7 #[.val (.ref a), .val (.int v1), .val (.int (3 : Int32)), .val (.int (3 : Int32))] [(.int (3 : Int32)), (.int (3 : Int32))])) _
    refine XS.icmpYes X9.here hx rfl (pc0 := 7) (pc' := 20) rfl (hb hby d3_7) rfl (flt (by decide : ¬ ((3 : Int32) < (3 : Int32)))).2.1 (by decide) (by decide) ?_
    exact kt
  refine Go.fin X9 (v := none) (fun _ => rfl) Bd.notSynchronized ?_ (Nat.le_trans (Nat.le_refl 0) (by decide)) (Nat.le_trans (Nat.le_refl 0) (by decide)) (fun fs hr => X9.returnOut hx Bd.returns (hb hby d3_20) hr)
  · show Qfill3 Z a v1 y0 y1 y2 RES h0 n0 _ T9.heap _
    rw [e9, hf]
    exact ⟨rfl, N9, K9, G10⟩
theorem pd_0 : parseMethodDescriptor "([II)V" = some ⟨[(.array .int), .int], none⟩ := by decide +kernel
theorem d1_0 : decode prog_13_method_1_code 0 = .ok (.aload_n 0, 1) := by decide +kernel
theorem d1_1 : decode prog_13_method_1_code 1 = .ok (.invokespecial 1, 3) := by decide +kernel
theorem d1_4 : decode prog_13_method_1_code 4 = .ok (.aload_n 0, 1) := by decide +kernel
theorem d1_5 : decode prog_13_method_1_code 5 = .ok (.iload_n 1, 1) := by decide +kernel
theorem d1_6 : decode prog_13_method_1_code 6 = .ok (.newarray .int, 2) := by decide +kernel
theorem d1_8 : decode prog_13_method_1_code 8 = .ok (.putfield 7, 3) := by decide +kernel
theorem d1_11 : decode prog_13_method_1_code 11 = .ok (.aload_n 0, 1) := by decide +kernel
theorem d1_12 : decode prog_13_method_1_code 12 = .ok (.getfield 7, 3) := by decide +kernel
theorem d1_15 : decode prog_13_method_1_code 15 = .ok (.iconst (-1), 1) := by decide +kernel
theorem d1_16 : decode prog_13_method_1_code 16 = .ok (.invokestatic 15, 3) := by decide +kernel
theorem d1_19 : decode prog_13_method_1_code 19 = .ok (.aload_n 0, 1) := by decide +kernel
theorem d1_20 : decode prog_13_method_1_code 20 = .ok (.iload_n 2, 1) := by decide +kernel
theorem d1_21 : decode prog_13_method_1_code 21 = .ok (.newarray .int, 2) := by decide +kernel
theorem d1_23 : decode prog_13_method_1_code 23 = .ok (.putfield 21, 3) := by decide +kernel
theorem d1_26 : decode prog_13_method_1_code 26 = .ok (.aload_n 0, 1) := by decide +kernel
theorem d1_27 : decode prog_13_method_1_code 27 = .ok (.getfield 21, 3) := by decide +kernel
theorem d1_30 : decode prog_13_method_1_code 30 = .ok (.iconst (-1), 1) := by decide +kernel
theorem d1_31 : decode prog_13_method_1_code 31 = .ok (.invokestatic 15, 3) := by decide +kernel
theorem d1_34 : decode prog_13_method_1_code 34 = .ok (.aload_n 0, 1) := by decide +kernel
theorem d1_35 : decode prog_13_method_1_code 35 = .ok (.iload_n 2, 1) := by decide +kernel
theorem d1_36 : decode prog_13_method_1_code 36 = .ok (.newarray .int, 2) := by decide +kernel
theorem d1_38 : decode prog_13_method_1_code 38 = .ok (.putfield 24, 3) := by decide +kernel
theorem d1_41 : decode prog_13_method_1_code 41 = .ok (.aload_n 0, 1) := by decide +kernel
theorem d1_42 : decode prog_13_method_1_code 42 = .ok (.getfield 24, 3) := by decide +kernel
theorem d1_45 : decode prog_13_method_1_code 45 = .ok (.iconst (-1), 1) := by decide +kernel
theorem d1_46 : decode prog_13_method_1_code 46 = .ok (.invokestatic 15, 3) := by decide +kernel
theorem d1_49 : decode prog_13_method_1_code 49 = .ok (.aload_n 0, 1) := by decide +kernel
theorem d1_50 : decode prog_13_method_1_code 50 = .ok (.iload_n 2, 1) := by decide +kernel
theorem d1_51 : decode prog_13_method_1_code 51 = .ok (.newarray .int, 2) := by decide +kernel
theorem d1_53 : decode prog_13_method_1_code 53 = .ok (.putfield 27, 3) := by decide +kernel
theorem d1_56 : decode prog_13_method_1_code 56 = .ok (.aload_n 0, 1) := by decide +kernel
theorem d1_57 : decode prog_13_method_1_code 57 = .ok (.iload_n 1, 1) := by decide +kernel
theorem d1_58 : decode prog_13_method_1_code 58 = .ok (.newarray .int, 2) := by decide +kernel
theorem d1_60 : decode prog_13_method_1_code 60 = .ok (.putfield 30, 3) := by decide +kernel
theorem d1_63 : decode prog_13_method_1_code 63 = .ok (.aload_n 0, 1) := by decide +kernel
theorem d1_64 : decode prog_13_method_1_code 64 = .ok (.iload_n 1, 1) := by decide +kernel
theorem d1_65 : decode prog_13_method_1_code 65 = .ok (.newarray .int, 2) := by decide +kernel
theorem d1_67 : decode prog_13_method_1_code 67 = .ok (.putfield 33, 3) := by decide +kernel
theorem d1_70 : decode prog_13_method_1_code 70 = .ok (.return_, 1) := by decide +kernel
theorem pn_1 : plainName "com/example/knotwise/knotwise/Placement" = true := by first | (simp [plainName, overriddenIn]; done) | decide +kernel
theorem ef_iniP (m : MethodId) (x0 : Addr) (x1 : Int32) (x2 : Int32) : entryFrame m #[(.ref x0), (.int x1), (.int x2)] 3 = mkF m 0 #[.val (.ref x0), .val (.int x1), .val (.int x2)] [] := by first | (simp [entryFrame, mkF, argsToLocals, Value.category]; done) | rfl
def QiniP (Z : State) (a : Addr)  (h0 : Heap) (n0 : Nat) (v : Option Value) (h : Heap) (L : List Loc) : Prop := ∃ (aw : Addr), ∃ (af : Addr), ∃ (al : Addr), ∃ (ac : Addr), ∃ (an : Addr), ∃ (ap : Addr), v = none ∧ Fr n0 L ∧ Keep h0 h [a] ∧ h0.size ≤ aw ∧ h0.size ≤ af ∧ h0.size ≤ al ∧ h0.size ≤ ac ∧ h0.size ≤ an ∧ h0.size ≤ ap ∧ aw ≠ af ∧ aw ≠ al ∧ aw ≠ ac ∧ aw ≠ an ∧ aw ≠ ap ∧ af ≠ al ∧ af ≠ ac ∧ af ≠ an ∧ af ≠ ap ∧ al ≠ ac ∧ al ≠ an ∧ al ≠ ap ∧ ac ≠ an ∧ ac ≠ ap ∧ an ≠ ap ∧ Fld Z h a "com/example/knotwise/knotwise/Placement" "wives" "[I" (.ref aw) ∧ Fld Z h a "com/example/knotwise/knotwise/Placement" "first" "[I" (.ref af) ∧ Fld Z h a "com/example/knotwise/knotwise/Placement" "last" "[I" (.ref al) ∧ Fld Z h a "com/example/knotwise/knotwise/Placement" "count" "[I" (.ref ac) ∧ Fld Z h a "com/example/knotwise/knotwise/Placement" "next" "[I" (.ref an) ∧ Fld Z h a "com/example/knotwise/knotwise/Placement" "previous" "[I" (.ref ap) ∧ VA Z h aw .int ([(-1 : Int32), (-1 : Int32), (-1 : Int32)].map Value.int) ∧ VA Z h af .int ([(-1 : Int32), (-1 : Int32)].map Value.int) ∧ VA Z h al .int ([(-1 : Int32), (-1 : Int32)].map Value.int) ∧ VA Z h ac .int ([(0 : Int32), (0 : Int32)].map Value.int) ∧ VA Z h an .int ([(0 : Int32), (0 : Int32), (0 : Int32)].map Value.int) ∧ VA Z h ap .int ([(0 : Int32), (0 : Int32), (0 : Int32)].map Value.int)
set_option maxRecDepth 65536 in
set_option maxHeartbeats 40000000 in
theorem rm_iniP (l : Launch) (Z : State) (a0 : Array Value) (hw : ∀ d ∈ tables_1, d.before a0 Z = true) (ws : List Jvm.Cond) (a : Addr)  (h0 : Heap) (n0 : Nat) (Z0 : n0 ≤ h0.size) (F0 : Exa Z h0 a "com/example/knotwise/knotwise/Placement") (F1 : Fld Z h0 a "com/example/knotwise/knotwise/Placement" "wives" "[I" .null) (F2 : Fld Z h0 a "com/example/knotwise/knotwise/Placement" "first" "[I" .null) (F3 : Fld Z h0 a "com/example/knotwise/knotwise/Placement" "last" "[I" .null) (F4 : Fld Z h0 a "com/example/knotwise/knotwise/Placement" "count" "[I" .null) (F5 : Fld Z h0 a "com/example/knotwise/knotwise/Placement" "next" "[I" .null) (F6 : Fld Z h0 a "com/example/knotwise/knotwise/Placement" "previous" "[I" .null) (g_a : n0 ≤ a) :
    MetFree l (⟨"com/example/knotwise/knotwise/Placement", "<init>", "(II)V"⟩ : MethodName) (head1 (Jvm.Cond.code (⟨"com/example/knotwise/knotwise/Placement", "<init>", "(II)V"⟩ : MethodName) prog_13_method_1_code 3 none :: ws) ({ frames := 1, cells := 6, slots := 15, locals := 15 } : Room)) (fun A_ U => A_ = #[(.ref a), (.int (3 : Int32)), (.int (2 : Int32))] ∧ Z.Warmed39 U.vm ∧ U.heap = h0) (fun _ _ _ _ _ => True) (fun _ U o U' => ∃ v L, o = .returned v ∧ QiniP Z a h0 n0 v U'.heap L ∧ FrameEnd U o U' L ({ frames := 1, cells := 6, slots := 15, locals := 15 } : Room).cells ({ frames := 1, cells := 6, slots := 15, locals := 15 } : Room).slots) := by
  refine MetFree.of_bodySF (plainFor_of_name pn_1) hisR ?_
  intro p e s m args below meth c s₁ Bd hml0 hP hK
  obtain ⟨rfl, hZ, hh⟩ := hP
  have hx := Bd.exec
  have hby := Bd.bytes
  have hml : c.maxLocals = 3 := hml0
  have hown : s.vm.findClass "com/example/knotwise/knotwise/Placement" = some m.cls := findClass_of_methodNamed Bd.named
  have hnm := (name_of_methodNamed Bd.named Bd.method).1
  have X0 : Stand p l e ({ frames := 1, cells := 6, slots := 15, locals := 15 } : Room) s m #[(.ref a), (.int (3 : Int32)), (.int (2 : Int32))] below meth c s₁ [] 0 0 := Stand.of_body Bd
  have e0 : s₁.heap = h0 := by rw [← hh, Bd.state]; rfl
  have N0 := Fr.nil n0
  suffices HGO : Go p e below s (QiniP Z a h0 n0) ({ frames := 1, cells := 6, slots := 15, locals := 15 } : Room).cells ({ frames := 1, cells := 6, slots := 15, locals := 15 } : Room).slots s₁ (mkF m 0 #[.val (.ref a), .val (.int (3 : Int32)), .val (.int (2 : Int32))] []) from Go.cast (ef_iniP m a (3 : Int32) (2 : Int32)) HGO
  obtain ⟨T1, X1, e1, st1⟩ := initO X0 hx hZ hown (hw _ (List.mem_of_getElem? (i := 6) rfl)) (hw _ (List.mem_of_getElem? (i := 7) rfl)) (hw _ (List.mem_of_getElem? (i := 8) rfl)) e0 (g := (mkF m 1 #[.val (.ref a), .val (.int (3 : Int32)), .val (.int (2 : Int32))] [(.ref a)])) rfl (by rw [hml]; rfl) rfl (hb hby d1_1) (by decide) (W := 0) (by show 2 * 0 + _ ≤ _; exact Nat.le_of_eq rfl) (by decide)
  obtain ⟨T2, h2, X2, e2, E2, A2, st2⟩ := newI X1 hx hZ (hw _ (List.mem_of_getElem? (i := 9) rfl)) e1 (g := (mkF m 6 #[.val (.ref a), .val (.int (3 : Int32)), .val (.int (2 : Int32))] [(.int (3 : Int32)), (.ref a)])) rfl (hb hby d1_6) rfl (by decide) (cap := 3) (by decide) (by decide) (Nat.le_trans (Nat.add_le_add_right (Nat.le_refl 0) 1) (by decide)) (Nat.le_trans (Nat.add_le_add_right (Nat.le_refl 0) 3) (by decide))
  obtain ⟨b2, g2⟩ : ∃ z, z = h0.size := ⟨_, rfl⟩
  rw [← g2] at A2 st2
  have ne_a_b2 : a ≠ b2 := Nat.ne_of_lt (Nat.lt_of_lt_of_le F0.lt (Nat.le_of_eq g2.symm))
  have G3 : Exa Z h2 a "com/example/knotwise/knotwise/Placement" := F0.ext E2
  have G4 : Fld Z h2 a "com/example/knotwise/knotwise/Placement" "wives" "[I" .null := F1.ext E2
  have G5 : Fld Z h2 a "com/example/knotwise/knotwise/Placement" "first" "[I" .null := F2.ext E2
  have G6 : Fld Z h2 a "com/example/knotwise/knotwise/Placement" "last" "[I" .null := F3.ext E2
  have G7 : Fld Z h2 a "com/example/knotwise/knotwise/Placement" "count" "[I" .null := F4.ext E2
  have G8 : Fld Z h2 a "com/example/knotwise/knotwise/Placement" "next" "[I" .null := F5.ext E2
  have G9 : Fld Z h2 a "com/example/knotwise/knotwise/Placement" "previous" "[I" .null := F6.ext E2
  have g_b2 : n0 ≤ b2 := Nat.le_trans Z0 (Nat.le_of_eq g2.symm)
  have sz_b2 : h0.size ≤ b2 := Nat.le_trans (Keep.refl h0 [a]).1 (Nat.le_of_eq g2.symm)
  have K2 : Keep h0 h2 [a] := Keep.ext (Keep.refl h0 [a]) E2
  have Z2 : n0 ≤ h2.size := Nat.le_trans Z0 K2.1
  have G10 : VA Z h2 b2 .int ([(0 : Int32), (0 : Int32), (0 : Int32)].map Value.int) := A2
  obtain ⟨T11, h11, X11, e11, W11, st11⟩ := putF X2 hx hZ hown (host := "") (Or.inl (hw _ (List.mem_of_getElem? (i := 10) rfl))) Via.refl e2 G4 G3 (Or.inr ⟨(hw _ (List.mem_of_getElem? (i := 11) rfl)), rfl, hnm⟩) (hw _ (List.mem_of_getElem? (i := 1) rfl)) (ty := (.array .int)) (by decide) rfl rfl (g := (mkF m 8 #[.val (.ref a), .val (.int (3 : Int32)), .val (.int (2 : Int32))] [(.ref b2), (.ref a)])) rfl rfl (hb hby d1_8)
  have G12 : Exa Z h11 a "com/example/knotwise/knotwise/Placement" := G3.wr W11
  have G13 : Fld Z h11 a "com/example/knotwise/knotwise/Placement" "wives" "[I" (.ref b2) := G4.same W11
  have G14 : Fld Z h11 a "com/example/knotwise/knotwise/Placement" "first" "[I" .null := G5.other W11 (Or.inr (slot_ne (Or.inr (hw _ (List.mem_of_getElem? (i := 17) rfl))) (Or.inr (hw _ (List.mem_of_getElem? (i := 11) rfl))) (by decide) (t := (.array .int)) (t' := (.array .int)) (by decide) (by decide)))
  have G15 : Fld Z h11 a "com/example/knotwise/knotwise/Placement" "last" "[I" .null := G6.other W11 (Or.inr (slot_ne (Or.inr (hw _ (List.mem_of_getElem? (i := 19) rfl))) (Or.inr (hw _ (List.mem_of_getElem? (i := 11) rfl))) (by decide) (t := (.array .int)) (t' := (.array .int)) (by decide) (by decide)))
  have G16 : Fld Z h11 a "com/example/knotwise/knotwise/Placement" "count" "[I" .null := G7.other W11 (Or.inr (slot_ne (Or.inr (hw _ (List.mem_of_getElem? (i := 21) rfl))) (Or.inr (hw _ (List.mem_of_getElem? (i := 11) rfl))) (by decide) (t := (.array .int)) (t' := (.array .int)) (by decide) (by decide)))
  have G17 : Fld Z h11 a "com/example/knotwise/knotwise/Placement" "next" "[I" .null := G8.other W11 (Or.inr (slot_ne (Or.inr (hw _ (List.mem_of_getElem? (i := 23) rfl))) (Or.inr (hw _ (List.mem_of_getElem? (i := 11) rfl))) (by decide) (t := (.array .int)) (t' := (.array .int)) (by decide) (by decide)))
  have G18 : Fld Z h11 a "com/example/knotwise/knotwise/Placement" "previous" "[I" .null := G9.other W11 (Or.inr (slot_ne (Or.inr (hw _ (List.mem_of_getElem? (i := 25) rfl))) (Or.inr (hw _ (List.mem_of_getElem? (i := 11) rfl))) (by decide) (t := (.array .int)) (t' := (.array .int)) (by decide) (by decide)))
  have G19 : VA Z h11 b2 .int ([(0 : Int32), (0 : Int32), (0 : Int32)].map Value.int) := G10.other W11 (Ne.symm ne_a_b2)
  have N11 := Fr.snoc X11 N0 g_a
  have K11 : Keep h0 h11 [a] := Keep.wr K2 W11 (Or.inl (List.mem_of_getElem? (i := 0) rfl))
  have Z11 : n0 ≤ h11.size := Nat.le_trans Z0 K11.1
  obtain ⟨T20, X20, e20, st20⟩ := getF X11 hx hZ hown (host := "") (Or.inl (hw _ (List.mem_of_getElem? (i := 10) rfl))) Via.refl e11 G13 (g := (mkF m 12 #[.val (.ref a), .val (.int (3 : Int32)), .val (.int (2 : Int32))] [(.ref a)])) rfl rfl (hb hby d1_12)
  obtain ⟨_, _, ⟨T21, L21, k21, n21⟩, -, X21, ⟨Lc21, hQ21, l21, y21, z21⟩, st21⟩ := Jvm.LawKit.callS X20 hx (y := (⟨"java/util/Arrays", "fill", "([II)V"⟩ : MethodName)) hown (mvT hZ (hw _ (List.mem_of_getElem? (i := 12) rfl))) (mvT hZ (hw _ (List.mem_of_getElem? (i := 13) rfl))) (mvT hZ (hw _ (List.mem_of_getElem? (i := 14) rfl))) (mvT hZ (hw _ (List.mem_of_getElem? (i := 15) rfl))) (by decide) (backOf (W := 0) (rm_fill3 l Z a0 hw [] b2 (-1 : Int32) (0 : Int32) (0 : Int32) (0 : Int32) h11 n0 Z11 G19 g_b2 ) hZ (hw _ (List.mem_of_getElem? (i := 15) rfl)) (hw _ (List.mem_of_getElem? (i := 14) rfl)) (by decide) (by decide)) (g := (mkF m 16 #[.val (.ref a), .val (.int (3 : Int32)), .val (.int (2 : Int32))] [(.int (-1 : Int32)), (.ref b2)])) rfl (by rw [hml]; rfl) (argsL := [(.ref b2), (.int (-1 : Int32))]) (rest := []) (lenOf pd_0 rfl) rfl (by show 2 * 0 + _ ≤ _; exact Nat.le_of_eq rfl) (hb hby d1_16) (fun _ _ => ⟨rfl, e20, (Nat.le_trans (Nat.add_le_add_right (Nat.add_le_add_right (Nat.le_refl 0) 1) 0) (by decide)), (Nat.le_trans (Nat.add_le_add_right (Nat.add_le_add_right (Nat.le_refl 0) 3) 0) (by decide))⟩)
  dsimp only [Pt.U, Pt.locs, Pt.cells, Pt.slots] at X21 l21 y21 z21 st21 hQ21
  subst l21 y21 z21
  obtain ⟨rfl, N21q, Kq21, pf21_0⟩ := hQ21
  have G22 : Exa Z T21.heap a "com/example/knotwise/knotwise/Placement" := Exa.keep G12 Kq21
  have G23 : Fld Z T21.heap a "com/example/knotwise/knotwise/Placement" "wives" "[I" (.ref b2) := G13.keep Kq21 (ninS ne_a_b2 nin0)
  have G24 : Fld Z T21.heap a "com/example/knotwise/knotwise/Placement" "first" "[I" .null := G14.keep Kq21 (ninS ne_a_b2 nin0)
  have G25 : Fld Z T21.heap a "com/example/knotwise/knotwise/Placement" "last" "[I" .null := G15.keep Kq21 (ninS ne_a_b2 nin0)
  have G26 : Fld Z T21.heap a "com/example/knotwise/knotwise/Placement" "count" "[I" .null := G16.keep Kq21 (ninS ne_a_b2 nin0)
  have G27 : Fld Z T21.heap a "com/example/knotwise/knotwise/Placement" "next" "[I" .null := G17.keep Kq21 (ninS ne_a_b2 nin0)
  have G28 : Fld Z T21.heap a "com/example/knotwise/knotwise/Placement" "previous" "[I" .null := G18.keep Kq21 (ninS ne_a_b2 nin0)
  have G29 : VA Z T21.heap b2 .int ([(-1 : Int32), (-1 : Int32), (-1 : Int32)].map Value.int) := pf21_0
  have K21 : Keep h0 T21.heap [a] := Keep.trans K11 Kq21 (allS (Or.inr sz_b2) all0)
  have Z21 : n0 ≤ T21.heap.size := Nat.le_trans Z0 K21.1
  have N21 := Fr.app N11 N21q
  obtain ⟨T30, h30, X30, e30, E30, A30, st30⟩ := newI X21 hx hZ (hw _ (List.mem_of_getElem? (i := 9) rfl)) rfl (g := (mkF m 21 #[.val (.ref a), .val (.int (3 : Int32)), .val (.int (2 : Int32))] [(.int (2 : Int32)), (.ref a)])) rfl (hb hby d1_21) rfl (by decide) (cap := 2) (by decide) (by decide) (Nat.le_trans (Nat.add_le_add_right (Nat.add_le_add_right (Nat.add_le_add_right (Nat.le_refl 0) 1) 0) 1) (by decide)) (Nat.le_trans (Nat.add_le_add_right (Nat.add_le_add_right (Nat.add_le_add_right (Nat.le_refl 0) 3) 0) 2) (by decide))
  obtain ⟨b30, g30⟩ : ∃ z, z = T21.heap.size := ⟨_, rfl⟩
  rw [← g30] at A30 st30
  have ne_a_b30 : a ≠ b30 := Nat.ne_of_lt (Nat.lt_of_lt_of_le G22.lt (Nat.le_of_eq g30.symm))
  have ne_b2_b30 : b2 ≠ b30 := Nat.ne_of_lt (Nat.lt_of_lt_of_le G29.lt (Nat.le_of_eq g30.symm))
  have G31 : Exa Z h30 a "com/example/knotwise/knotwise/Placement" := G22.ext E30
  have G32 : Fld Z h30 a "com/example/knotwise/knotwise/Placement" "wives" "[I" (.ref b2) := G23.ext E30
  have G33 : Fld Z h30 a "com/example/knotwise/knotwise/Placement" "first" "[I" .null := G24.ext E30
  have G34 : Fld Z h30 a "com/example/knotwise/knotwise/Placement" "last" "[I" .null := G25.ext E30
  have G35 : Fld Z h30 a "com/example/knotwise/knotwise/Placement" "count" "[I" .null := G26.ext E30
  have G36 : Fld Z h30 a "com/example/knotwise/knotwise/Placement" "next" "[I" .null := G27.ext E30
  have G37 : Fld Z h30 a "com/example/knotwise/knotwise/Placement" "previous" "[I" .null := G28.ext E30
  have G38 : VA Z h30 b2 .int ([(-1 : Int32), (-1 : Int32), (-1 : Int32)].map Value.int) := G29.ext E30
  have g_b30 : n0 ≤ b30 := Nat.le_trans Z21 (Nat.le_of_eq g30.symm)
  have sz_b30 : h0.size ≤ b30 := Nat.le_trans K21.1 (Nat.le_of_eq g30.symm)
  have K30 : Keep h0 h30 [a] := Keep.ext K21 E30
  have Z30 : n0 ≤ h30.size := Nat.le_trans Z0 K30.1
  have G39 : VA Z h30 b30 .int ([(0 : Int32), (0 : Int32)].map Value.int) := A30
  obtain ⟨T40, h40, X40, e40, W40, st40⟩ := putF X30 hx hZ hown (host := "") (Or.inl (hw _ (List.mem_of_getElem? (i := 16) rfl))) Via.refl e30 G33 G31 (Or.inr ⟨(hw _ (List.mem_of_getElem? (i := 17) rfl)), rfl, hnm⟩) (hw _ (List.mem_of_getElem? (i := 1) rfl)) (ty := (.array .int)) (by decide) rfl rfl (g := (mkF m 23 #[.val (.ref a), .val (.int (3 : Int32)), .val (.int (2 : Int32))] [(.ref b30), (.ref a)])) rfl rfl (hb hby d1_23)
  have G41 : Exa Z h40 a "com/example/knotwise/knotwise/Placement" := G31.wr W40
  have G42 : Fld Z h40 a "com/example/knotwise/knotwise/Placement" "wives" "[I" (.ref b2) := G32.other W40 (Or.inr (slot_ne (Or.inr (hw _ (List.mem_of_getElem? (i := 11) rfl))) (Or.inr (hw _ (List.mem_of_getElem? (i := 17) rfl))) (by decide) (t := (.array .int)) (t' := (.array .int)) (by decide) (by decide)))
  have G43 : Fld Z h40 a "com/example/knotwise/knotwise/Placement" "first" "[I" (.ref b30) := G33.same W40
  have G44 : Fld Z h40 a "com/example/knotwise/knotwise/Placement" "last" "[I" .null := G34.other W40 (Or.inr (slot_ne (Or.inr (hw _ (List.mem_of_getElem? (i := 19) rfl))) (Or.inr (hw _ (List.mem_of_getElem? (i := 17) rfl))) (by decide) (t := (.array .int)) (t' := (.array .int)) (by decide) (by decide)))
  have G45 : Fld Z h40 a "com/example/knotwise/knotwise/Placement" "count" "[I" .null := G35.other W40 (Or.inr (slot_ne (Or.inr (hw _ (List.mem_of_getElem? (i := 21) rfl))) (Or.inr (hw _ (List.mem_of_getElem? (i := 17) rfl))) (by decide) (t := (.array .int)) (t' := (.array .int)) (by decide) (by decide)))
  have G46 : Fld Z h40 a "com/example/knotwise/knotwise/Placement" "next" "[I" .null := G36.other W40 (Or.inr (slot_ne (Or.inr (hw _ (List.mem_of_getElem? (i := 23) rfl))) (Or.inr (hw _ (List.mem_of_getElem? (i := 17) rfl))) (by decide) (t := (.array .int)) (t' := (.array .int)) (by decide) (by decide)))
  have G47 : Fld Z h40 a "com/example/knotwise/knotwise/Placement" "previous" "[I" .null := G37.other W40 (Or.inr (slot_ne (Or.inr (hw _ (List.mem_of_getElem? (i := 25) rfl))) (Or.inr (hw _ (List.mem_of_getElem? (i := 17) rfl))) (by decide) (t := (.array .int)) (t' := (.array .int)) (by decide) (by decide)))
  have G48 : VA Z h40 b2 .int ([(-1 : Int32), (-1 : Int32), (-1 : Int32)].map Value.int) := G38.other W40 (Ne.symm ne_a_b2)
  have G49 : VA Z h40 b30 .int ([(0 : Int32), (0 : Int32)].map Value.int) := G39.other W40 (Ne.symm ne_a_b30)
  have N40 := Fr.snoc X40 N21 g_a
  have K40 : Keep h0 h40 [a] := Keep.wr K30 W40 (Or.inl (List.mem_of_getElem? (i := 0) rfl))
  have Z40 : n0 ≤ h40.size := Nat.le_trans Z0 K40.1
  obtain ⟨T50, X50, e50, st50⟩ := getF X40 hx hZ hown (host := "") (Or.inl (hw _ (List.mem_of_getElem? (i := 16) rfl))) Via.refl e40 G43 (g := (mkF m 27 #[.val (.ref a), .val (.int (3 : Int32)), .val (.int (2 : Int32))] [(.ref a)])) rfl rfl (hb hby d1_27)
  obtain ⟨_, _, ⟨T51, L51, k51, n51⟩, -, X51, ⟨Lc51, hQ51, l51, y51, z51⟩, st51⟩ := Jvm.LawKit.callS X50 hx (y := (⟨"java/util/Arrays", "fill", "([II)V"⟩ : MethodName)) hown (mvT hZ (hw _ (List.mem_of_getElem? (i := 12) rfl))) (mvT hZ (hw _ (List.mem_of_getElem? (i := 13) rfl))) (mvT hZ (hw _ (List.mem_of_getElem? (i := 14) rfl))) (mvT hZ (hw _ (List.mem_of_getElem? (i := 15) rfl))) (by decide) (backOf (W := 0) (rm_fill2 l Z a0 hw [] b30 (-1 : Int32) (0 : Int32) (0 : Int32) h40 n0 Z40 G49 g_b30 ) hZ (hw _ (List.mem_of_getElem? (i := 15) rfl)) (hw _ (List.mem_of_getElem? (i := 14) rfl)) (by decide) (by decide)) (g := (mkF m 31 #[.val (.ref a), .val (.int (3 : Int32)), .val (.int (2 : Int32))] [(.int (-1 : Int32)), (.ref b30)])) rfl (by rw [hml]; rfl) (argsL := [(.ref b30), (.int (-1 : Int32))]) (rest := []) (lenOf pd_0 rfl) rfl (by show 2 * 0 + _ ≤ _; exact Nat.le_of_eq rfl) (hb hby d1_31) (fun _ _ => ⟨rfl, e50, (Nat.le_trans (Nat.add_le_add_right (Nat.add_le_add_right (Nat.add_le_add_right (Nat.add_le_add_right (Nat.le_refl 0) 1) 0) 1) 0) (by decide)), (Nat.le_trans (Nat.add_le_add_right (Nat.add_le_add_right (Nat.add_le_add_right (Nat.add_le_add_right (Nat.le_refl 0) 3) 0) 2) 0) (by decide))⟩)
  dsimp only [Pt.U, Pt.locs, Pt.cells, Pt.slots] at X51 l51 y51 z51 st51 hQ51
  subst l51 y51 z51
  obtain ⟨rfl, N51q, Kq51, pf51_0⟩ := hQ51
  have G52 : Exa Z T51.heap a "com/example/knotwise/knotwise/Placement" := Exa.keep G41 Kq51
  have G53 : Fld Z T51.heap a "com/example/knotwise/knotwise/Placement" "wives" "[I" (.ref b2) := G42.keep Kq51 (ninS ne_a_b30 nin0)
  have G54 : Fld Z T51.heap a "com/example/knotwise/knotwise/Placement" "first" "[I" (.ref b30) := G43.keep Kq51 (ninS ne_a_b30 nin0)
  have G55 : Fld Z T51.heap a "com/example/knotwise/knotwise/Placement" "last" "[I" .null := G44.keep Kq51 (ninS ne_a_b30 nin0)
  have G56 : Fld Z T51.heap a "com/example/knotwise/knotwise/Placement" "count" "[I" .null := G45.keep Kq51 (ninS ne_a_b30 nin0)
  have G57 : Fld Z T51.heap a "com/example/knotwise/knotwise/Placement" "next" "[I" .null := G46.keep Kq51 (ninS ne_a_b30 nin0)
  have G58 : Fld Z T51.heap a "com/example/knotwise/knotwise/Placement" "previous" "[I" .null := G47.keep Kq51 (ninS ne_a_b30 nin0)
  have G59 : VA Z T51.heap b2 .int ([(-1 : Int32), (-1 : Int32), (-1 : Int32)].map Value.int) := G48.keep Kq51 (ninS ne_b2_b30 nin0)
  have G60 : VA Z T51.heap b30 .int ([(-1 : Int32), (-1 : Int32)].map Value.int) := pf51_0
  have K51 : Keep h0 T51.heap [a] := Keep.trans K40 Kq51 (allS (Or.inr sz_b30) all0)
  have Z51 : n0 ≤ T51.heap.size := Nat.le_trans Z0 K51.1
  have N51 := Fr.app N40 N51q
  obtain ⟨T61, h61, X61, e61, E61, A61, st61⟩ := newI X51 hx hZ (hw _ (List.mem_of_getElem? (i := 9) rfl)) rfl (g := (mkF m 36 #[.val (.ref a), .val (.int (3 : Int32)), .val (.int (2 : Int32))] [(.int (2 : Int32)), (.ref a)])) rfl (hb hby d1_36) rfl (by decide) (cap := 2) (by decide) (by decide) (Nat.le_trans (Nat.add_le_add_right (Nat.add_le_add_right (Nat.add_le_add_right (Nat.add_le_add_right (Nat.add_le_add_right (Nat.le_refl 0) 1) 0) 1) 0) 1) (by decide)) (Nat.le_trans (Nat.add_le_add_right (Nat.add_le_add_right (Nat.add_le_add_right (Nat.add_le_add_right (Nat.add_le_add_right (Nat.le_refl 0) 3) 0) 2) 0) 2) (by decide))
  obtain ⟨b61, g61⟩ : ∃ z, z = T51.heap.size := ⟨_, rfl⟩
  rw [← g61] at A61 st61
  have ne_a_b61 : a ≠ b61 := Nat.ne_of_lt (Nat.lt_of_lt_of_le G52.lt (Nat.le_of_eq g61.symm))
  have ne_b2_b61 : b2 ≠ b61 := Nat.ne_of_lt (Nat.lt_of_lt_of_le G59.lt (Nat.le_of_eq g61.symm))
  have ne_b30_b61 : b30 ≠ b61 := Nat.ne_of_lt (Nat.lt_of_lt_of_le G60.lt (Nat.le_of_eq g61.symm))
  have G62 : Exa Z h61 a "com/example/knotwise/knotwise/Placement" := G52.ext E61
  have G63 : Fld Z h61 a "com/example/knotwise/knotwise/Placement" "wives" "[I" (.ref b2) := G53.ext E61
  have G64 : Fld Z h61 a "com/example/knotwise/knotwise/Placement" "first" "[I" (.ref b30) := G54.ext E61
  have G65 : Fld Z h61 a "com/example/knotwise/knotwise/Placement" "last" "[I" .null := G55.ext E61
  have G66 : Fld Z h61 a "com/example/knotwise/knotwise/Placement" "count" "[I" .null := G56.ext E61
  have G67 : Fld Z h61 a "com/example/knotwise/knotwise/Placement" "next" "[I" .null := G57.ext E61
  have G68 : Fld Z h61 a "com/example/knotwise/knotwise/Placement" "previous" "[I" .null := G58.ext E61
  have G69 : VA Z h61 b2 .int ([(-1 : Int32), (-1 : Int32), (-1 : Int32)].map Value.int) := G59.ext E61
  have G70 : VA Z h61 b30 .int ([(-1 : Int32), (-1 : Int32)].map Value.int) := G60.ext E61
  have g_b61 : n0 ≤ b61 := Nat.le_trans Z51 (Nat.le_of_eq g61.symm)
  have sz_b61 : h0.size ≤ b61 := Nat.le_trans K51.1 (Nat.le_of_eq g61.symm)
  have K61 : Keep h0 h61 [a] := Keep.ext K51 E61
  have Z61 : n0 ≤ h61.size := Nat.le_trans Z0 K61.1
  have G71 : VA Z h61 b61 .int ([(0 : Int32), (0 : Int32)].map Value.int) := A61
  obtain ⟨T72, h72, X72, e72, W72, st72⟩ := putF X61 hx hZ hown (host := "") (Or.inl (hw _ (List.mem_of_getElem? (i := 18) rfl))) Via.refl e61 G65 G62 (Or.inr ⟨(hw _ (List.mem_of_getElem? (i := 19) rfl)), rfl, hnm⟩) (hw _ (List.mem_of_getElem? (i := 1) rfl)) (ty := (.array .int)) (by decide) rfl rfl (g := (mkF m 38 #[.val (.ref a), .val (.int (3 : Int32)), .val (.int (2 : Int32))] [(.ref b61), (.ref a)])) rfl rfl (hb hby d1_38)
  have G73 : Exa Z h72 a "com/example/knotwise/knotwise/Placement" := G62.wr W72
  have G74 : Fld Z h72 a "com/example/knotwise/knotwise/Placement" "wives" "[I" (.ref b2) := G63.other W72 (Or.inr (slot_ne (Or.inr (hw _ (List.mem_of_getElem? (i := 11) rfl))) (Or.inr (hw _ (List.mem_of_getElem? (i := 19) rfl))) (by decide) (t := (.array .int)) (t' := (.array .int)) (by decide) (by decide)))
  have G75 : Fld Z h72 a "com/example/knotwise/knotwise/Placement" "first" "[I" (.ref b30) := G64.other W72 (Or.inr (slot_ne (Or.inr (hw _ (List.mem_of_getElem? (i := 17) rfl))) (Or.inr (hw _ (List.mem_of_getElem? (i := 19) rfl))) (by decide) (t := (.array .int)) (t' := (.array .int)) (by decide) (by decide)))
  have G76 : Fld Z h72 a "com/example/knotwise/knotwise/Placement" "last" "[I" (.ref b61) := G65.same W72
  have G77 : Fld Z h72 a "com/example/knotwise/knotwise/Placement" "count" "[I" .null := G66.other W72 (Or.inr (slot_ne (Or.inr (hw _ (List.mem_of_getElem? (i := 21) rfl))) (Or.inr (hw _ (List.mem_of_getElem? (i := 19) rfl))) (by decide) (t := (.array .int)) (t' := (.array .int)) (by decide) (by decide)))
  have G78 : Fld Z h72 a "com/example/knotwise/knotwise/Placement" "next" "[I" .null := G67.other W72 (Or.inr (slot_ne (Or.inr (hw _ (List.mem_of_getElem? (i := 23) rfl))) (Or.inr (hw _ (List.mem_of_getElem? (i := 19) rfl))) (by decide) (t := (.array .int)) (t' := (.array .int)) (by decide) (by decide)))
  have G79 : Fld Z h72 a "com/example/knotwise/knotwise/Placement" "previous" "[I" .null := G68.other W72 (Or.inr (slot_ne (Or.inr (hw _ (List.mem_of_getElem? (i := 25) rfl))) (Or.inr (hw _ (List.mem_of_getElem? (i := 19) rfl))) (by decide) (t := (.array .int)) (t' := (.array .int)) (by decide) (by decide)))
  have G80 : VA Z h72 b2 .int ([(-1 : Int32), (-1 : Int32), (-1 : Int32)].map Value.int) := G69.other W72 (Ne.symm ne_a_b2)
  have G81 : VA Z h72 b30 .int ([(-1 : Int32), (-1 : Int32)].map Value.int) := G70.other W72 (Ne.symm ne_a_b30)
  have G82 : VA Z h72 b61 .int ([(0 : Int32), (0 : Int32)].map Value.int) := G71.other W72 (Ne.symm ne_a_b61)
  have N72 := Fr.snoc X72 N51 g_a
  have K72 : Keep h0 h72 [a] := Keep.wr K61 W72 (Or.inl (List.mem_of_getElem? (i := 0) rfl))
  have Z72 : n0 ≤ h72.size := Nat.le_trans Z0 K72.1
  obtain ⟨T83, X83, e83, st83⟩ := getF X72 hx hZ hown (host := "") (Or.inl (hw _ (List.mem_of_getElem? (i := 18) rfl))) Via.refl e72 G76 (g := (mkF m 42 #[.val (.ref a), .val (.int (3 : Int32)), .val (.int (2 : Int32))] [(.ref a)])) rfl rfl (hb hby d1_42)
  obtain ⟨_, _, ⟨T84, L84, k84, n84⟩, -, X84, ⟨Lc84, hQ84, l84, y84, z84⟩, st84⟩ := Jvm.LawKit.callS X83 hx (y := (⟨"java/util/Arrays", "fill", "([II)V"⟩ : MethodName)) hown (mvT hZ (hw _ (List.mem_of_getElem? (i := 12) rfl))) (mvT hZ (hw _ (List.mem_of_getElem? (i := 13) rfl))) (mvT hZ (hw _ (List.mem_of_getElem? (i := 14) rfl))) (mvT hZ (hw _ (List.mem_of_getElem? (i := 15) rfl))) (by decide) (backOf (W := 0) (rm_fill2 l Z a0 hw [] b61 (-1 : Int32) (0 : Int32) (0 : Int32) h72 n0 Z72 G82 g_b61 ) hZ (hw _ (List.mem_of_getElem? (i := 15) rfl)) (hw _ (List.mem_of_getElem? (i := 14) rfl)) (by decide) (by decide)) (g := (mkF m 46 #[.val (.ref a), .val (.int (3 : Int32)), .val (.int (2 : Int32))] [(.int (-1 : Int32)), (.ref b61)])) rfl (by rw [hml]; rfl) (argsL := [(.ref b61), (.int (-1 : Int32))]) (rest := []) (lenOf pd_0 rfl) rfl (by show 2 * 0 + _ ≤ _; exact Nat.le_of_eq rfl) (hb hby d1_46) (fun _ _ => ⟨rfl, e83, (Nat.le_trans (Nat.add_le_add_right (Nat.add_le_add_right (Nat.add_le_add_right (Nat.add_le_add_right (Nat.add_le_add_right (Nat.add_le_add_right (Nat.le_refl 0) 1) 0) 1) 0) 1) 0) (by decide)), (Nat.le_trans (Nat.add_le_add_right (Nat.add_le_add_right (Nat.add_le_add_right (Nat.add_le_add_right (Nat.add_le_add_right (Nat.add_le_add_right (Nat.le_refl 0) 3) 0) 2) 0) 2) 0) (by decide))⟩)
  dsimp only [Pt.U, Pt.locs, Pt.cells, Pt.slots] at X84 l84 y84 z84 st84 hQ84
  subst l84 y84 z84
  obtain ⟨rfl, N84q, Kq84, pf84_0⟩ := hQ84
  have G85 : Exa Z T84.heap a "com/example/knotwise/knotwise/Placement" := Exa.keep G73 Kq84
  have G86 : Fld Z T84.heap a "com/example/knotwise/knotwise/Placement" "wives" "[I" (.ref b2) := G74.keep Kq84 (ninS ne_a_b61 nin0)
  have G87 : Fld Z T84.heap a "com/example/knotwise/knotwise/Placement" "first" "[I" (.ref b30) := G75.keep Kq84 (ninS ne_a_b61 nin0)
  have G88 : Fld Z T84.heap a "com/example/knotwise/knotwise/Placement" "last" "[I" (.ref b61) := G76.keep Kq84 (ninS ne_a_b61 nin0)
  have G89 : Fld Z T84.heap a "com/example/knotwise/knotwise/Placement" "count" "[I" .null := G77.keep Kq84 (ninS ne_a_b61 nin0)
  have G90 : Fld Z T84.heap a "com/example/knotwise/knotwise/Placement" "next" "[I" .null := G78.keep Kq84 (ninS ne_a_b61 nin0)
  have G91 : Fld Z T84.heap a "com/example/knotwise/knotwise/Placement" "previous" "[I" .null := G79.keep Kq84 (ninS ne_a_b61 nin0)
  have G92 : VA Z T84.heap b2 .int ([(-1 : Int32), (-1 : Int32), (-1 : Int32)].map Value.int) := G80.keep Kq84 (ninS ne_b2_b61 nin0)
  have G93 : VA Z T84.heap b30 .int ([(-1 : Int32), (-1 : Int32)].map Value.int) := G81.keep Kq84 (ninS ne_b30_b61 nin0)
  have G94 : VA Z T84.heap b61 .int ([(-1 : Int32), (-1 : Int32)].map Value.int) := pf84_0
  have K84 : Keep h0 T84.heap [a] := Keep.trans K72 Kq84 (allS (Or.inr sz_b61) all0)
  have Z84 : n0 ≤ T84.heap.size := Nat.le_trans Z0 K84.1
  have N84 := Fr.app N72 N84q
  obtain ⟨T95, h95, X95, e95, E95, A95, st95⟩ := newI X84 hx hZ (hw _ (List.mem_of_getElem? (i := 9) rfl)) rfl (g := (mkF m 51 #[.val (.ref a), .val (.int (3 : Int32)), .val (.int (2 : Int32))] [(.int (2 : Int32)), (.ref a)])) rfl (hb hby d1_51) rfl (by decide) (cap := 2) (by decide) (by decide) (Nat.le_trans (Nat.add_le_add_right (Nat.add_le_add_right (Nat.add_le_add_right (Nat.add_le_add_right (Nat.add_le_add_right (Nat.add_le_add_right (Nat.add_le_add_right (Nat.le_refl 0) 1) 0) 1) 0) 1) 0) 1) (by decide)) (Nat.le_trans (Nat.add_le_add_right (Nat.add_le_add_right (Nat.add_le_add_right (Nat.add_le_add_right (Nat.add_le_add_right (Nat.add_le_add_right (Nat.add_le_add_right (Nat.le_refl 0) 3) 0) 2) 0) 2) 0) 2) (by decide))
  obtain ⟨b95, g95⟩ : ∃ z, z = T84.heap.size := ⟨_, rfl⟩
  rw [← g95] at A95 st95
  have ne_a_b95 : a ≠ b95 := Nat.ne_of_lt (Nat.lt_of_lt_of_le G85.lt (Nat.le_of_eq g95.symm))
  have ne_b2_b95 : b2 ≠ b95 := Nat.ne_of_lt (Nat.lt_of_lt_of_le G92.lt (Nat.le_of_eq g95.symm))
  have ne_b30_b95 : b30 ≠ b95 := Nat.ne_of_lt (Nat.lt_of_lt_of_le G93.lt (Nat.le_of_eq g95.symm))
  have ne_b61_b95 : b61 ≠ b95 := Nat.ne_of_lt (Nat.lt_of_lt_of_le G94.lt (Nat.le_of_eq g95.symm))
  have G96 : Exa Z h95 a "com/example/knotwise/knotwise/Placement" := G85.ext E95
  have G97 : Fld Z h95 a "com/example/knotwise/knotwise/Placement" "wives" "[I" (.ref b2) := G86.ext E95
  have G98 : Fld Z h95 a "com/example/knotwise/knotwise/Placement" "first" "[I" (.ref b30) := G87.ext E95
  have G99 : Fld Z h95 a "com/example/knotwise/knotwise/Placement" "last" "[I" (.ref b61) := G88.ext E95
  have G100 : Fld Z h95 a "com/example/knotwise/knotwise/Placement" "count" "[I" .null := G89.ext E95
  have G101 : Fld Z h95 a "com/example/knotwise/knotwise/Placement" "next" "[I" .null := G90.ext E95
  have G102 : Fld Z h95 a "com/example/knotwise/knotwise/Placement" "previous" "[I" .null := G91.ext E95
  have G103 : VA Z h95 b2 .int ([(-1 : Int32), (-1 : Int32), (-1 : Int32)].map Value.int) := G92.ext E95
  have G104 : VA Z h95 b30 .int ([(-1 : Int32), (-1 : Int32)].map Value.int) := G93.ext E95
  have G105 : VA Z h95 b61 .int ([(-1 : Int32), (-1 : Int32)].map Value.int) := G94.ext E95
  have g_b95 : n0 ≤ b95 := Nat.le_trans Z84 (Nat.le_of_eq g95.symm)
  have sz_b95 : h0.size ≤ b95 := Nat.le_trans K84.1 (Nat.le_of_eq g95.symm)
  have K95 : Keep h0 h95 [a] := Keep.ext K84 E95
  have Z95 : n0 ≤ h95.size := Nat.le_trans Z0 K95.1
  have G106 : VA Z h95 b95 .int ([(0 : Int32), (0 : Int32)].map Value.int) := A95
  obtain ⟨T107, h107, X107, e107, W107, st107⟩ := putF X95 hx hZ hown (host := "") (Or.inl (hw _ (List.mem_of_getElem? (i := 20) rfl))) Via.refl e95 G100 G96 (Or.inr ⟨(hw _ (List.mem_of_getElem? (i := 21) rfl)), rfl, hnm⟩) (hw _ (List.mem_of_getElem? (i := 1) rfl)) (ty := (.array .int)) (by decide) rfl rfl (g := (mkF m 53 #[.val (.ref a), .val (.int (3 : Int32)), .val (.int (2 : Int32))] [(.ref b95), (.ref a)])) rfl rfl (hb hby d1_53)
  have G108 : Exa Z h107 a "com/example/knotwise/knotwise/Placement" := G96.wr W107
  have G109 : Fld Z h107 a "com/example/knotwise/knotwise/Placement" "wives" "[I" (.ref b2) := G97.other W107 (Or.inr (slot_ne (Or.inr (hw _ (List.mem_of_getElem? (i := 11) rfl))) (Or.inr (hw _ (List.mem_of_getElem? (i := 21) rfl))) (by decide) (t := (.array .int)) (t' := (.array .int)) (by decide) (by decide)))
  have G110 : Fld Z h107 a "com/example/knotwise/knotwise/Placement" "first" "[I" (.ref b30) := G98.other W107 (Or.inr (slot_ne (Or.inr (hw _ (List.mem_of_getElem? (i := 17) rfl))) (Or.inr (hw _ (List.mem_of_getElem? (i := 21) rfl))) (by decide) (t := (.array .int)) (t' := (.array .int)) (by decide) (by decide)))
  have G111 : Fld Z h107 a "com/example/knotwise/knotwise/Placement" "last" "[I" (.ref b61) := G99.other W107 (Or.inr (slot_ne (Or.inr (hw _ (List.mem_of_getElem? (i := 19) rfl))) (Or.inr (hw _ (List.mem_of_getElem? (i := 21) rfl))) (by decide) (t := (.array .int)) (t' := (.array .int)) (by decide) (by decide)))
  have G112 : Fld Z h107 a "com/example/knotwise/knotwise/Placement" "count" "[I" (.ref b95) := G100.same W107
  have G113 : Fld Z h107 a "com/example/knotwise/knotwise/Placement" "next" "[I" .null := G101.other W107 (Or.inr (slot_ne (Or.inr (hw _ (List.mem_of_getElem? (i := 23) rfl))) (Or.inr (hw _ (List.mem_of_getElem? (i := 21) rfl))) (by decide) (t := (.array .int)) (t' := (.array .int)) (by decide) (by decide)))
  have G114 : Fld Z h107 a "com/example/knotwise/knotwise/Placement" "previous" "[I" .null := G102.other W107 (Or.inr (slot_ne (Or.inr (hw _ (List.mem_of_getElem? (i := 25) rfl))) (Or.inr (hw _ (List.mem_of_getElem? (i := 21) rfl))) (by decide) (t := (.array .int)) (t' := (.array .int)) (by decide) (by decide)))
  have G115 : VA Z h107 b2 .int ([(-1 : Int32), (-1 : Int32), (-1 : Int32)].map Value.int) := G103.other W107 (Ne.symm ne_a_b2)
  have G116 : VA Z h107 b30 .int ([(-1 : Int32), (-1 : Int32)].map Value.int) := G104.other W107 (Ne.symm ne_a_b30)
  have G117 : VA Z h107 b61 .int ([(-1 : Int32), (-1 : Int32)].map Value.int) := G105.other W107 (Ne.symm ne_a_b61)
  have G118 : VA Z h107 b95 .int ([(0 : Int32), (0 : Int32)].map Value.int) := G106.other W107 (Ne.symm ne_a_b95)
  have N107 := Fr.snoc X107 N84 g_a
  have K107 : Keep h0 h107 [a] := Keep.wr K95 W107 (Or.inl (List.mem_of_getElem? (i := 0) rfl))
  have Z107 : n0 ≤ h107.size := Nat.le_trans Z0 K107.1
  obtain ⟨T119, h119, X119, e119, E119, A119, st119⟩ := newI X107 hx hZ (hw _ (List.mem_of_getElem? (i := 9) rfl)) e107 (g := (mkF m 58 #[.val (.ref a), .val (.int (3 : Int32)), .val (.int (2 : Int32))] [(.int (3 : Int32)), (.ref a)])) rfl (hb hby d1_58) rfl (by decide) (cap := 3) (by decide) (by decide) (Nat.le_trans (Nat.add_le_add_right (Nat.add_le_add_right (Nat.add_le_add_right (Nat.add_le_add_right (Nat.add_le_add_right (Nat.add_le_add_right (Nat.add_le_add_right (Nat.add_le_add_right (Nat.le_refl 0) 1) 0) 1) 0) 1) 0) 1) 1) (by decide)) (Nat.le_trans (Nat.add_le_add_right (Nat.add_le_add_right (Nat.add_le_add_right (Nat.add_le_add_right (Nat.add_le_add_right (Nat.add_le_add_right (Nat.add_le_add_right (Nat.add_le_add_right (Nat.le_refl 0) 3) 0) 2) 0) 2) 0) 2) 3) (by decide))
  obtain ⟨b119, g119⟩ : ∃ z, z = h107.size := ⟨_, rfl⟩
  rw [← g119] at A119 st119
  have ne_a_b119 : a ≠ b119 := Nat.ne_of_lt (Nat.lt_of_lt_of_le G108.lt (Nat.le_of_eq g119.symm))
  have ne_b2_b119 : b2 ≠ b119 := Nat.ne_of_lt (Nat.lt_of_lt_of_le G115.lt (Nat.le_of_eq g119.symm))
  have ne_b30_b119 : b30 ≠ b119 := Nat.ne_of_lt (Nat.lt_of_lt_of_le G116.lt (Nat.le_of_eq g119.symm))
  have ne_b61_b119 : b61 ≠ b119 := Nat.ne_of_lt (Nat.lt_of_lt_of_le G117.lt (Nat.le_of_eq g119.symm))
  have ne_b95_b119 : b95 ≠ b119 := Nat.ne_of_lt (Nat.lt_of_lt_of_le G118.lt (Nat.le_of_eq g119.symm))
  have G120 : Exa Z h119 a "com/example/knotwise/knotwise/Placement" := G108.ext E119
  have G121 : Fld Z h119 a "com/example/knotwise/knotwise/Placement" "wives" "[I" (.ref b2) := G109.ext E119
  have G122 : Fld Z h119 a "com/example/knotwise/knotwise/Placement" "first" "[I" (.ref b30) := G110.ext E119
  have G123 : Fld Z h119 a "com/example/knotwise/knotwise/Placement" "last" "[I" (.ref b61) := G111.ext E119
  have G124 : Fld Z h119 a "com/example/knotwise/knotwise/Placement" "count" "[I" (.ref b95) := G112.ext E119
  have G125 : Fld Z h119 a "com/example/knotwise/knotwise/Placement" "next" "[I" .null := G113.ext E119
  have G126 : Fld Z h119 a "com/example/knotwise/knotwise/Placement" "previous" "[I" .null := G114.ext E119
  have G127 : VA Z h119 b2 .int ([(-1 : Int32), (-1 : Int32), (-1 : Int32)].map Value.int) := G115.ext E119
  have G128 : VA Z h119 b30 .int ([(-1 : Int32), (-1 : Int32)].map Value.int) := G116.ext E119
  have G129 : VA Z h119 b61 .int ([(-1 : Int32), (-1 : Int32)].map Value.int) := G117.ext E119
  have G130 : VA Z h119 b95 .int ([(0 : Int32), (0 : Int32)].map Value.int) := G118.ext E119
  have g_b119 : n0 ≤ b119 := Nat.le_trans Z107 (Nat.le_of_eq g119.symm)
  have sz_b119 : h0.size ≤ b119 := Nat.le_trans K107.1 (Nat.le_of_eq g119.symm)
  have K119 : Keep h0 h119 [a] := Keep.ext K107 E119
  have Z119 : n0 ≤ h119.size := Nat.le_trans Z0 K119.1
  have G131 : VA Z h119 b119 .int ([(0 : Int32), (0 : Int32), (0 : Int32)].map Value.int) := A119
  obtain ⟨T132, h132, X132, e132, W132, st132⟩ := putF X119 hx hZ hown (host := "") (Or.inl (hw _ (List.mem_of_getElem? (i := 22) rfl))) Via.refl e119 G125 G120 (Or.inr ⟨(hw _ (List.mem_of_getElem? (i := 23) rfl)), rfl, hnm⟩) (hw _ (List.mem_of_getElem? (i := 1) rfl)) (ty := (.array .int)) (by decide) rfl rfl (g := (mkF m 60 #[.val (.ref a), .val (.int (3 : Int32)), .val (.int (2 : Int32))] [(.ref b119), (.ref a)])) rfl rfl (hb hby d1_60)
  have G133 : Exa Z h132 a "com/example/knotwise/knotwise/Placement" := G120.wr W132
  have G134 : Fld Z h132 a "com/example/knotwise/knotwise/Placement" "wives" "[I" (.ref b2) := G121.other W132 (Or.inr (slot_ne (Or.inr (hw _ (List.mem_of_getElem? (i := 11) rfl))) (Or.inr (hw _ (List.mem_of_getElem? (i := 23) rfl))) (by decide) (t := (.array .int)) (t' := (.array .int)) (by decide) (by decide)))
  have G135 : Fld Z h132 a "com/example/knotwise/knotwise/Placement" "first" "[I" (.ref b30) := G122.other W132 (Or.inr (slot_ne (Or.inr (hw _ (List.mem_of_getElem? (i := 17) rfl))) (Or.inr (hw _ (List.mem_of_getElem? (i := 23) rfl))) (by decide) (t := (.array .int)) (t' := (.array .int)) (by decide) (by decide)))
  have G136 : Fld Z h132 a "com/example/knotwise/knotwise/Placement" "last" "[I" (.ref b61) := G123.other W132 (Or.inr (slot_ne (Or.inr (hw _ (List.mem_of_getElem? (i := 19) rfl))) (Or.inr (hw _ (List.mem_of_getElem? (i := 23) rfl))) (by decide) (t := (.array .int)) (t' := (.array .int)) (by decide) (by decide)))
  have G137 : Fld Z h132 a "com/example/knotwise/knotwise/Placement" "count" "[I" (.ref b95) := G124.other W132 (Or.inr (slot_ne (Or.inr (hw _ (List.mem_of_getElem? (i := 21) rfl))) (Or.inr (hw _ (List.mem_of_getElem? (i := 23) rfl))) (by decide) (t := (.array .int)) (t' := (.array .int)) (by decide) (by decide)))
  have G138 : Fld Z h132 a "com/example/knotwise/knotwise/Placement" "next" "[I" (.ref b119) := G125.same W132
  have G139 : Fld Z h132 a "com/example/knotwise/knotwise/Placement" "previous" "[I" .null := G126.other W132 (Or.inr (slot_ne (Or.inr (hw _ (List.mem_of_getElem? (i := 25) rfl))) (Or.inr (hw _ (List.mem_of_getElem? (i := 23) rfl))) (by decide) (t := (.array .int)) (t' := (.array .int)) (by decide) (by decide)))
  have G140 : VA Z h132 b2 .int ([(-1 : Int32), (-1 : Int32), (-1 : Int32)].map Value.int) := G127.other W132 (Ne.symm ne_a_b2)
  have G141 : VA Z h132 b30 .int ([(-1 : Int32), (-1 : Int32)].map Value.int) := G128.other W132 (Ne.symm ne_a_b30)
  have G142 : VA Z h132 b61 .int ([(-1 : Int32), (-1 : Int32)].map Value.int) := G129.other W132 (Ne.symm ne_a_b61)
  have G143 : VA Z h132 b95 .int ([(0 : Int32), (0 : Int32)].map Value.int) := G130.other W132 (Ne.symm ne_a_b95)
  have G144 : VA Z h132 b119 .int ([(0 : Int32), (0 : Int32), (0 : Int32)].map Value.int) := G131.other W132 (Ne.symm ne_a_b119)
  have N132 := Fr.snoc X132 N107 g_a
  have K132 : Keep h0 h132 [a] := Keep.wr K119 W132 (Or.inl (List.mem_of_getElem? (i := 0) rfl))
  have Z132 : n0 ≤ h132.size := Nat.le_trans Z0 K132.1
  obtain ⟨T145, h145, X145, e145, E145, A145, st145⟩ := newI X132 hx hZ (hw _ (List.mem_of_getElem? (i := 9) rfl)) e132 (g := (mkF m 65 #[.val (.ref a), .val (.int (3 : Int32)), .val (.int (2 : Int32))] [(.int (3 : Int32)), (.ref a)])) rfl (hb hby d1_65) rfl (by decide) (cap := 3) (by decide) (by decide) (Nat.le_trans (Nat.add_le_add_right (Nat.add_le_add_right (Nat.add_le_add_right (Nat.add_le_add_right (Nat.add_le_add_right (Nat.add_le_add_right (Nat.add_le_add_right (Nat.add_le_add_right (Nat.add_le_add_right (Nat.le_refl 0) 1) 0) 1) 0) 1) 0) 1) 1) 1) (by decide)) (Nat.le_trans (Nat.add_le_add_right (Nat.add_le_add_right (Nat.add_le_add_right (Nat.add_le_add_right (Nat.add_le_add_right (Nat.add_le_add_right (Nat.add_le_add_right (Nat.add_le_add_right (Nat.add_le_add_right (Nat.le_refl 0) 3) 0) 2) 0) 2) 0) 2) 3) 3) (by decide))
  obtain ⟨b145, g145⟩ : ∃ z, z = h132.size := ⟨_, rfl⟩
  rw [← g145] at A145 st145
  have ne_a_b145 : a ≠ b145 := Nat.ne_of_lt (Nat.lt_of_lt_of_le G133.lt (Nat.le_of_eq g145.symm))
  have ne_b2_b145 : b2 ≠ b145 := Nat.ne_of_lt (Nat.lt_of_lt_of_le G140.lt (Nat.le_of_eq g145.symm))
  have ne_b30_b145 : b30 ≠ b145 := Nat.ne_of_lt (Nat.lt_of_lt_of_le G141.lt (Nat.le_of_eq g145.symm))
  have ne_b61_b145 : b61 ≠ b145 := Nat.ne_of_lt (Nat.lt_of_lt_of_le G142.lt (Nat.le_of_eq g145.symm))
  have ne_b95_b145 : b95 ≠ b145 := Nat.ne_of_lt (Nat.lt_of_lt_of_le G143.lt (Nat.le_of_eq g145.symm))
  have ne_b119_b145 : b119 ≠ b145 := Nat.ne_of_lt (Nat.lt_of_lt_of_le G144.lt (Nat.le_of_eq g145.symm))
  have G146 : Exa Z h145 a "com/example/knotwise/knotwise/Placement" := G133.ext E145
  have G147 : Fld Z h145 a "com/example/knotwise/knotwise/Placement" "wives" "[I" (.ref b2) := G134.ext E145
  have G148 : Fld Z h145 a "com/example/knotwise/knotwise/Placement" "first" "[I" (.ref b30) := G135.ext E145
  have G149 : Fld Z h145 a "com/example/knotwise/knotwise/Placement" "last" "[I" (.ref b61) := G136.ext E145
  have G150 : Fld Z h145 a "com/example/knotwise/knotwise/Placement" "count" "[I" (.ref b95) := G137.ext E145
  have G151 : Fld Z h145 a "com/example/knotwise/knotwise/Placement" "next" "[I" (.ref b119) := G138.ext E145
  have G152 : Fld Z h145 a "com/example/knotwise/knotwise/Placement" "previous" "[I" .null := G139.ext E145
  have G153 : VA Z h145 b2 .int ([(-1 : Int32), (-1 : Int32), (-1 : Int32)].map Value.int) := G140.ext E145
  have G154 : VA Z h145 b30 .int ([(-1 : Int32), (-1 : Int32)].map Value.int) := G141.ext E145
  have G155 : VA Z h145 b61 .int ([(-1 : Int32), (-1 : Int32)].map Value.int) := G142.ext E145
  have G156 : VA Z h145 b95 .int ([(0 : Int32), (0 : Int32)].map Value.int) := G143.ext E145
  have G157 : VA Z h145 b119 .int ([(0 : Int32), (0 : Int32), (0 : Int32)].map Value.int) := G144.ext E145
  have g_b145 : n0 ≤ b145 := Nat.le_trans Z132 (Nat.le_of_eq g145.symm)
  have sz_b145 : h0.size ≤ b145 := Nat.le_trans K132.1 (Nat.le_of_eq g145.symm)
  have K145 : Keep h0 h145 [a] := Keep.ext K132 E145
  have Z145 : n0 ≤ h145.size := Nat.le_trans Z0 K145.1
  have G158 : VA Z h145 b145 .int ([(0 : Int32), (0 : Int32), (0 : Int32)].map Value.int) := A145
  obtain ⟨T159, h159, X159, e159, W159, st159⟩ := putF X145 hx hZ hown (host := "") (Or.inl (hw _ (List.mem_of_getElem? (i := 24) rfl))) Via.refl e145 G152 G146 (Or.inr ⟨(hw _ (List.mem_of_getElem? (i := 25) rfl)), rfl, hnm⟩) (hw _ (List.mem_of_getElem? (i := 1) rfl)) (ty := (.array .int)) (by decide) rfl rfl (g := (mkF m 67 #[.val (.ref a), .val (.int (3 : Int32)), .val (.int (2 : Int32))] [(.ref b145), (.ref a)])) rfl rfl (hb hby d1_67)
  have G160 : Exa Z h159 a "com/example/knotwise/knotwise/Placement" := G146.wr W159
  have G161 : Fld Z h159 a "com/example/knotwise/knotwise/Placement" "wives" "[I" (.ref b2) := G147.other W159 (Or.inr (slot_ne (Or.inr (hw _ (List.mem_of_getElem? (i := 11) rfl))) (Or.inr (hw _ (List.mem_of_getElem? (i := 25) rfl))) (by decide) (t := (.array .int)) (t' := (.array .int)) (by decide) (by decide)))
  have G162 : Fld Z h159 a "com/example/knotwise/knotwise/Placement" "first" "[I" (.ref b30) := G148.other W159 (Or.inr (slot_ne (Or.inr (hw _ (List.mem_of_getElem? (i := 17) rfl))) (Or.inr (hw _ (List.mem_of_getElem? (i := 25) rfl))) (by decide) (t := (.array .int)) (t' := (.array .int)) (by decide) (by decide)))
  have G163 : Fld Z h159 a "com/example/knotwise/knotwise/Placement" "last" "[I" (.ref b61) := G149.other W159 (Or.inr (slot_ne (Or.inr (hw _ (List.mem_of_getElem? (i := 19) rfl))) (Or.inr (hw _ (List.mem_of_getElem? (i := 25) rfl))) (by decide) (t := (.array .int)) (t' := (.array .int)) (by decide) (by decide)))
  have G164 : Fld Z h159 a "com/example/knotwise/knotwise/Placement" "count" "[I" (.ref b95) := G150.other W159 (Or.inr (slot_ne (Or.inr (hw _ (List.mem_of_getElem? (i := 21) rfl))) (Or.inr (hw _ (List.mem_of_getElem? (i := 25) rfl))) (by decide) (t := (.array .int)) (t' := (.array .int)) (by decide) (by decide)))
  have G165 : Fld Z h159 a "com/example/knotwise/knotwise/Placement" "next" "[I" (.ref b119) := G151.other W159 (Or.inr (slot_ne (Or.inr (hw _ (List.mem_of_getElem? (i := 23) rfl))) (Or.inr (hw _ (List.mem_of_getElem? (i := 25) rfl))) (by decide) (t := (.array .int)) (t' := (.array .int)) (by decide) (by decide)))
  have G166 : Fld Z h159 a "com/example/knotwise/knotwise/Placement" "previous" "[I" (.ref b145) := G152.same W159
  have G167 : VA Z h159 b2 .int ([(-1 : Int32), (-1 : Int32), (-1 : Int32)].map Value.int) := G153.other W159 (Ne.symm ne_a_b2)
  have G168 : VA Z h159 b30 .int ([(-1 : Int32), (-1 : Int32)].map Value.int) := G154.other W159 (Ne.symm ne_a_b30)
  have G169 : VA Z h159 b61 .int ([(-1 : Int32), (-1 : Int32)].map Value.int) := G155.other W159 (Ne.symm ne_a_b61)
  have G170 : VA Z h159 b95 .int ([(0 : Int32), (0 : Int32)].map Value.int) := G156.other W159 (Ne.symm ne_a_b95)
  have G171 : VA Z h159 b119 .int ([(0 : Int32), (0 : Int32), (0 : Int32)].map Value.int) := G157.other W159 (Ne.symm ne_a_b119)
  have G172 : VA Z h159 b145 .int ([(0 : Int32), (0 : Int32), (0 : Int32)].map Value.int) := G158.other W159 (Ne.symm ne_a_b145)
  have N159 := Fr.snoc X159 N132 g_a
  have K159 : Keep h0 h159 [a] := Keep.wr K145 W159 (Or.inl (List.mem_of_getElem? (i := 0) rfl))
  have Z159 : n0 ≤ h159.size := Nat.le_trans Z0 K159.1
  refine Go.step (T' := T159) (f' := (mkF m 70 #[.val (.ref a), .val (.int (3 : Int32)), .val (.int (2 : Int32))] [])) (fun t kt => ?_) ?_
  · show Steps p.tables e below (s₁.setTop (mkF m 0 #[.val (.ref a), .val (.int (3 : Int32)), .val (.int (2 : Int32))] [])) _
    refine XS.aloadN X0.here hx rfl (hb hby d1_0) rfl rfl ?_
    show Steps p.tables e below (s₁.setTop (mkF m 1 #[.val (.ref a), .val (.int (3 : Int32)), .val (.int (2 : Int32))] [(.ref a)])) _
    refine st1 _ ?_
    show Steps p.tables e below (T1.setTop (mkF m 4 #[.val (.ref a), .val (.int (3 : Int32)), .val (.int (2 : Int32))] [])) _
    refine XS.aloadN X1.here hx rfl (hb hby d1_4) rfl rfl ?_
    show Steps p.tables e below (T1.setTop (mkF m 5 #[.val (.ref a), .val (.int (3 : Int32)), .val (.int (2 : Int32))] [(.ref a)])) _
    refine XS.iloadN X1.here hx rfl (hb hby d1_5) rfl ?_
    show Steps p.tables e below (T1.setTop (mkF m 6 #[.val (.ref a), .val (.int (3 : Int32)), .val (.int (2 : Int32))] [(.int (3 : Int32)), (.ref a)])) _
    refine st2 _ ?_
    show Steps p.tables e below (T2.setTop (mkF m 8 #[.val (.ref a), .val (.int (3 : Int32)), .val (.int (2 : Int32))] [(.ref b2), (.ref a)])) _
    refine st11 _ ?_
    show Steps p.tables e below (T11.setTop (mkF m 11 #[.val (.ref a), .val (.int (3 : Int32)), .val (.int (2 : Int32))] [])) _
    refine XS.aloadN X11.here hx rfl (hb hby d1_11) rfl rfl ?_
    show Steps p.tables e below (T11.setTop (mkF m 12 #[.val (.ref a), .val (.int (3 : Int32)), .val (.int (2 : Int32))] [(.ref a)])) _
    refine st20 _ ?_
    show Steps p.tables e below (T20.setTop (mkF m 15 #[.val (.ref a), .val (.int (3 : Int32)), .val (.int (2 : Int32))] [(.ref b2)])) _
    refine XS.iconst X20.here hx rfl (hb hby d1_15) ?_
    show Steps p.tables e below (T20.setTop (mkF m 16 #[.val (.ref a), .val (.int (3 : Int32)), .val (.int (2 : Int32))] [(.int (-1 : Int32)), (.ref b2)])) _
    refine st21 _ ?_
    show Steps p.tables e below (T21.setTop (mkF m 19 #[.val (.ref a), .val (.int (3 : Int32)), .val (.int (2 : Int32))] [])) _
    refine XS.aloadN X21.here hx rfl (hb hby d1_19) rfl rfl ?_
    show Steps p.tables e below (T21.setTop (mkF m 20 #[.val (.ref a), .val (.int (3 : Int32)), .val (.int (2 : Int32))] [(.ref a)])) _
    refine XS.iloadN X21.here hx rfl (hb hby d1_20) rfl ?_
    show Steps p.tables e below (T21.setTop (mkF m 21 #[.val (.ref a), .val (.int (3 : Int32)), .val (.int (2 : Int32))] [(.int (2 : Int32)), (.ref a)])) _
    refine st30 _ ?_
    show Steps p.tables e below (T30.setTop (mkF m 23 #[.val (.ref a), .val (.int (3 : Int32)), .val (.int (2 : Int32))] [(.ref b30), (.ref a)])) _
    refine st40 _ ?_
    show Steps p.tables e below (T40.setTop (mkF m 26 #[.val (.ref a), .val (.int (3 : Int32)), .val (.int (2 : Int32))] [])) _
    refine XS.aloadN X40.here hx rfl (hb hby d1_26) rfl rfl ?_
    show Steps p.tables e below (T40.setTop (mkF m 27 #[.val (.ref a), .val (.int (3 : Int32)), .val (.int (2 : Int32))] [(.ref a)])) _
    refine st50 _ ?_
    show Steps p.tables e below (T50.setTop (mkF m 30 #[.val (.ref a), .val (.int (3 : Int32)), .val (.int (2 : Int32))] [(.ref b30)])) _
    refine XS.iconst X50.here hx rfl (hb hby d1_30) ?_
    show Steps p.tables e below (T50.setTop (mkF m 31 #[.val (.ref a), .val (.int (3 : Int32)), .val (.int (2 : Int32))] [(.int (-1 : Int32)), (.ref b30)])) _
    refine st51 _ ?_
    show Steps p.tables e below (T51.setTop (mkF m 34 #[.val (.ref a), .val (.int (3 : Int32)), .val (.int (2 : Int32))] [])) _
    refine XS.aloadN X51.here hx rfl (hb hby d1_34) rfl rfl ?_
    show Steps p.tables e below (T51.setTop (mkF m 35 #[.val (.ref a), .val (.int (3 : Int32)), .val (.int (2 : Int32))] [(.ref a)])) _
    refine XS.iloadN X51.here hx rfl (hb hby d1_35) rfl ?_
    show Steps p.tables e below (T51.setTop (mkF m 36 #[.val (.ref a), .val (.int (3 : Int32)), .val (.int (2 : Int32))] [(.int (2 : Int32)), (.ref a)])) _
    refine st61 _ ?_
    show Steps p.tables e below (T61.setTop (mkF m 38 #[.val (.ref a), .val (.int (3 : Int32)), .val (.int (2 : Int32))] [(.ref b61), (.ref a)])) _
    refine st72 _ ?_
    show Steps p.tables e below (T72.setTop (mkF m 41 #[.val (.ref a), .val (.int (3 : Int32)), .val (.int (2 : Int32))] [])) _
    refine XS.aloadN X72.here hx rfl (hb hby d1_41) rfl rfl ?_
    show Steps p.tables e below (T72.setTop (mkF m 42 #[.val (.ref a), .val (.int (3 : Int32)), .val (.int (2 : Int32))] [(.ref a)])) _
    refine st83 _ ?_
    show Steps p.tables e below (T83.setTop (mkF m 45 #[.val (.ref a), .val (.int (3 : Int32)), .val (.int (2 : Int32))] [(.ref b61)])) _
    refine XS.iconst X83.here hx rfl (hb hby d1_45) ?_
    show Steps p.tables e below (T83.setTop (mkF m 46 #[.val (.ref a), .val (.int (3 : Int32)), .val (.int (2 : Int32))] [(.int (-1 : Int32)), (.ref b61)])) _
    refine st84 _ ?_
    show Steps p.tables e below (T84.setTop (mkF m 49 #[.val (.ref a), .val (.int (3 : Int32)), .val (.int (2 : Int32))] [])) _
    refine XS.aloadN X84.here hx rfl (hb hby d1_49) rfl rfl ?_
    show Steps p.tables e below (T84.setTop (mkF m 50 #[.val (.ref a), .val (.int (3 : Int32)), .val (.int (2 : Int32))] [(.ref a)])) _
    refine XS.iloadN X84.here hx rfl (hb hby d1_50) rfl ?_
    show Steps p.tables e below (T84.setTop (mkF m 51 #[.val (.ref a), .val (.int (3 : Int32)), .val (.int (2 : Int32))] [(.int (2 : Int32)), (.ref a)])) _
    refine st95 _ ?_
    show Steps p.tables e below (T95.setTop (mkF m 53 #[.val (.ref a), .val (.int (3 : Int32)), .val (.int (2 : Int32))] [(.ref b95), (.ref a)])) _
    refine st107 _ ?_
    show Steps p.tables e below (T107.setTop (mkF m 56 #[.val (.ref a), .val (.int (3 : Int32)), .val (.int (2 : Int32))] [])) _
    refine XS.aloadN X107.here hx rfl (hb hby d1_56) rfl rfl ?_
    show Steps p.tables e below (T107.setTop (mkF m 57 #[.val (.ref a), .val (.int (3 : Int32)), .val (.int (2 : Int32))] [(.ref a)])) _
    refine XS.iloadN X107.here hx rfl (hb hby d1_57) rfl ?_
    show Steps p.tables e below (T107.setTop (mkF m 58 #[.val (.ref a), .val (.int (3 : Int32)), .val (.int (2 : Int32))] [(.int (3 : Int32)), (.ref a)])) _
    refine st119 _ ?_
    show Steps p.tables e below (T119.setTop (mkF m 60 #[.val (.ref a), .val (.int (3 : Int32)), .val (.int (2 : Int32))] [(.ref b119), (.ref a)])) _
    refine st132 _ ?_
    show Steps p.tables e below (T132.setTop (mkF m 63 #[.val (.ref a), .val (.int (3 : Int32)), .val (.int (2 : Int32))] [])) _
    refine XS.aloadN X132.here hx rfl (hb hby d1_63) rfl rfl ?_
    show Steps p.tables e below (T132.setTop (mkF m 64 #[.val (.ref a), .val (.int (3 : Int32)), .val (.int (2 : Int32))] [(.ref a)])) _
    refine XS.iloadN X132.here hx rfl (hb hby d1_64) rfl ?_
    show Steps p.tables e below (T132.setTop (mkF m 65 #[.val (.ref a), .val (.int (3 : Int32)), .val (.int (2 : Int32))] [(.int (3 : Int32)), (.ref a)])) _
    refine st145 _ ?_
    show Steps p.tables e below (T145.setTop (mkF m 67 #[.val (.ref a), .val (.int (3 : Int32)), .val (.int (2 : Int32))] [(.ref b145), (.ref a)])) _
    refine st159 _ ?_
    exact kt
  refine Go.fin X159 (v := none) (fun _ => rfl) Bd.notSynchronized ?_ (Nat.le_trans (Nat.add_le_add_right (Nat.add_le_add_right (Nat.add_le_add_right (Nat.add_le_add_right (Nat.add_le_add_right (Nat.add_le_add_right (Nat.add_le_add_right (Nat.add_le_add_right (Nat.add_le_add_right (Nat.le_refl 0) 1) 0) 1) 0) 1) 0) 1) 1) 1) (by decide)) (Nat.le_trans (Nat.add_le_add_right (Nat.add_le_add_right (Nat.add_le_add_right (Nat.add_le_add_right (Nat.add_le_add_right (Nat.add_le_add_right (Nat.add_le_add_right (Nat.add_le_add_right (Nat.add_le_add_right (Nat.le_refl 0) 3) 0) 2) 0) 2) 0) 2) 3) 3) (by decide)) (fun fs hr => X159.returnOut hx Bd.returns (hb hby d1_70) hr)
  · show QiniP Z a h0 n0 _ T159.heap _
    rw [e159]
    exact ⟨b2, b30, b61, b95, b119, b145, rfl, N159, K159, sz_b2, sz_b30, sz_b61, sz_b95, sz_b119, sz_b145, ne_b2_b30, ne_b2_b61, ne_b2_b95, ne_b2_b119, ne_b2_b145, ne_b30_b61, ne_b30_b95, ne_b30_b119, ne_b30_b145, ne_b61_b95, ne_b61_b119, ne_b61_b145, ne_b95_b119, ne_b95_b145, ne_b119_b145, G161, G162, G163, G164, G165, G166, G167, G168, G169, G170, G171, G172⟩
theorem d6_0 : decode prog_13_method_7_code 0 = .ok (.aload_n 0, 1) := by decide +kernel
theorem d6_1 : decode prog_13_method_7_code 1 = .ok (.getfield 7, 3) := by decide +kernel
theorem d6_4 : decode prog_13_method_7_code 4 = .ok (.iload_n 1, 1) := by decide +kernel
theorem d6_5 : decode prog_13_method_7_code 5 = .ok (.iaload, 1) := by decide +kernel
theorem d6_6 : decode prog_13_method_7_code 6 = .ok (.istore_n 2, 1) := by decide +kernel
theorem d6_7 : decode prog_13_method_7_code 7 = .ok (.iload_n 2, 1) := by decide +kernel
theorem d6_8 : decode prog_13_method_7_code 8 = .ok (.iconst (-1), 1) := by decide +kernel
theorem d6_9 : decode prog_13_method_7_code 9 = .ok (.if_icmp .eq 104, 3) := by decide +kernel
theorem d6_12 : decode prog_13_method_7_code 12 = .ok (.aload_n 0, 1) := by decide +kernel
theorem d6_13 : decode prog_13_method_7_code 13 = .ok (.getfield 33, 3) := by decide +kernel
theorem d6_16 : decode prog_13_method_7_code 16 = .ok (.iload_n 1, 1) := by decide +kernel
theorem d6_17 : decode prog_13_method_7_code 17 = .ok (.iaload, 1) := by decide +kernel
theorem d6_18 : decode prog_13_method_7_code 18 = .ok (.iconst (-1), 1) := by decide +kernel
theorem d6_19 : decode prog_13_method_7_code 19 = .ok (.if_icmp .ne 18, 3) := by decide +kernel
theorem d6_22 : decode prog_13_method_7_code 22 = .ok (.aload_n 0, 1) := by decide +kernel
theorem d6_23 : decode prog_13_method_7_code 23 = .ok (.getfield 21, 3) := by decide +kernel
theorem d6_26 : decode prog_13_method_7_code 26 = .ok (.iload_n 2, 1) := by decide +kernel
theorem d6_27 : decode prog_13_method_7_code 27 = .ok (.aload_n 0, 1) := by decide +kernel
theorem d6_28 : decode prog_13_method_7_code 28 = .ok (.getfield 30, 3) := by decide +kernel
theorem d6_31 : decode prog_13_method_7_code 31 = .ok (.iload_n 1, 1) := by decide +kernel
theorem d6_32 : decode prog_13_method_7_code 32 = .ok (.iaload, 1) := by decide +kernel
theorem d6_33 : decode prog_13_method_7_code 33 = .ok (.iastore, 1) := by decide +kernel
theorem d6_34 : decode prog_13_method_7_code 34 = .ok (.goto 20, 3) := by decide +kernel
theorem d6_37 : decode prog_13_method_7_code 37 = .ok (.aload_n 0, 1) := by decide +kernel
theorem d6_38 : decode prog_13_method_7_code 38 = .ok (.getfield 30, 3) := by decide +kernel
theorem d6_41 : decode prog_13_method_7_code 41 = .ok (.aload_n 0, 1) := by decide +kernel
theorem d6_42 : decode prog_13_method_7_code 42 = .ok (.getfield 33, 3) := by decide +kernel
theorem d6_45 : decode prog_13_method_7_code 45 = .ok (.iload_n 1, 1) := by decide +kernel
theorem d6_46 : decode prog_13_method_7_code 46 = .ok (.iaload, 1) := by decide +kernel
theorem d6_47 : decode prog_13_method_7_code 47 = .ok (.aload_n 0, 1) := by decide +kernel
theorem d6_48 : decode prog_13_method_7_code 48 = .ok (.getfield 30, 3) := by decide +kernel
theorem d6_51 : decode prog_13_method_7_code 51 = .ok (.iload_n 1, 1) := by decide +kernel
theorem d6_52 : decode prog_13_method_7_code 52 = .ok (.iaload, 1) := by decide +kernel
theorem d6_53 : decode prog_13_method_7_code 53 = .ok (.iastore, 1) := by decide +kernel
theorem d6_54 : decode prog_13_method_7_code 54 = .ok (.aload_n 0, 1) := by decide +kernel
theorem d6_55 : decode prog_13_method_7_code 55 = .ok (.getfield 30, 3) := by decide +kernel
theorem d6_58 : decode prog_13_method_7_code 58 = .ok (.iload_n 1, 1) := by decide +kernel
theorem d6_59 : decode prog_13_method_7_code 59 = .ok (.iaload, 1) := by decide +kernel
theorem d6_60 : decode prog_13_method_7_code 60 = .ok (.iconst (-1), 1) := by decide +kernel
theorem d6_61 : decode prog_13_method_7_code 61 = .ok (.if_icmp .ne 18, 3) := by decide +kernel
theorem d6_64 : decode prog_13_method_7_code 64 = .ok (.aload_n 0, 1) := by decide +kernel
theorem d6_65 : decode prog_13_method_7_code 65 = .ok (.getfield 24, 3) := by decide +kernel
theorem d6_68 : decode prog_13_method_7_code 68 = .ok (.iload_n 2, 1) := by decide +kernel
theorem d6_69 : decode prog_13_method_7_code 69 = .ok (.aload_n 0, 1) := by decide +kernel
theorem d6_70 : decode prog_13_method_7_code 70 = .ok (.getfield 33, 3) := by decide +kernel
theorem d6_73 : decode prog_13_method_7_code 73 = .ok (.iload_n 1, 1) := by decide +kernel
theorem d6_74 : decode prog_13_method_7_code 74 = .ok (.iaload, 1) := by decide +kernel
theorem d6_75 : decode prog_13_method_7_code 75 = .ok (.iastore, 1) := by decide +kernel
theorem d6_76 : decode prog_13_method_7_code 76 = .ok (.goto 20, 3) := by decide +kernel
theorem d6_79 : decode prog_13_method_7_code 79 = .ok (.aload_n 0, 1) := by decide +kernel
theorem d6_80 : decode prog_13_method_7_code 80 = .ok (.getfield 33, 3) := by decide +kernel
theorem d6_83 : decode prog_13_method_7_code 83 = .ok (.aload_n 0, 1) := by decide +kernel
theorem d6_84 : decode prog_13_method_7_code 84 = .ok (.getfield 30, 3) := by decide +kernel
theorem d6_87 : decode prog_13_method_7_code 87 = .ok (.iload_n 1, 1) := by decide +kernel
theorem d6_88 : decode prog_13_method_7_code 88 = .ok (.iaload, 1) := by decide +kernel
theorem d6_89 : decode prog_13_method_7_code 89 = .ok (.aload_n 0, 1) := by decide +kernel
theorem d6_90 : decode prog_13_method_7_code 90 = .ok (.getfield 33, 3) := by decide +kernel
theorem d6_93 : decode prog_13_method_7_code 93 = .ok (.iload_n 1, 1) := by decide +kernel
theorem d6_94 : decode prog_13_method_7_code 94 = .ok (.iaload, 1) := by decide +kernel
theorem d6_95 : decode prog_13_method_7_code 95 = .ok (.iastore, 1) := by decide +kernel
theorem d6_96 : decode prog_13_method_7_code 96 = .ok (.aload_n 0, 1) := by decide +kernel
theorem d6_97 : decode prog_13_method_7_code 97 = .ok (.getfield 27, 3) := by decide +kernel
theorem d6_100 : decode prog_13_method_7_code 100 = .ok (.iload_n 2, 1) := by decide +kernel
theorem d6_101 : decode prog_13_method_7_code 101 = .ok (.dup2, 1) := by decide +kernel
theorem d6_102 : decode prog_13_method_7_code 102 = .ok (.iaload, 1) := by decide +kernel
theorem d6_103 : decode prog_13_method_7_code 103 = .ok (.iconst 1, 1) := by decide +kernel
theorem d6_104 : decode prog_13_method_7_code 104 = .ok (.isub, 1) := by decide +kernel
theorem d6_105 : decode prog_13_method_7_code 105 = .ok (.iastore, 1) := by decide +kernel
theorem d6_106 : decode prog_13_method_7_code 106 = .ok (.aload_n 0, 1) := by decide +kernel
theorem d6_107 : decode prog_13_method_7_code 107 = .ok (.getfield 7, 3) := by decide +kernel
theorem d6_110 : decode prog_13_method_7_code 110 = .ok (.iload_n 1, 1) := by decide +kernel
theorem d6_111 : decode prog_13_method_7_code 111 = .ok (.iconst (-1), 1) := by decide +kernel
theorem d6_112 : decode prog_13_method_7_code 112 = .ok (.iastore, 1) := by decide +kernel
theorem d6_113 : decode prog_13_method_7_code 113 = .ok (.return_, 1) := by decide +kernel
theorem ef_rmvF (m : MethodId) (x0 : Addr) (x1 : Int32) : entryFrame m #[(.ref x0), (.int x1)] 3 = mkF m 0 #[.val (.ref x0), .val (.int x1), .unset] [] := by first | (simp [entryFrame, mkF, argsToLocals, Value.category]; done) | rfl
def rmvF_96 (man : Int32) (wl : List Int32) (cl : List Int32) (x2 : Int32) (f1 : List Int32) (l1 : List Int32) (n1 : List Int32) (q1 : List Int32) : List Int32 × List Int32 × List Int32 × List Int32 × List Int32 × List Int32 := ((wl.set man.toNatClampNeg (-1 : Int32)), f1, l1, (cl.set x2.toNatClampNeg ((cl.getD x2.toNatClampNeg (0 : Int32)) - (1 : Int32))), n1, q1)
def rmvF_54 (man : Int32) (wl : List Int32) (ll : List Int32) (cl : List Int32) (pl : List Int32) (x2 : Int32) (f1 : List Int32) (n1 : List Int32) : List Int32 × List Int32 × List Int32 × List Int32 × List Int32 × List Int32 := (if (n1.getD man.toNatClampNeg (0 : Int32)) = (-1 : Int32) then (rmvF_96 man wl cl x2 f1 (ll.set x2.toNatClampNeg (pl.getD man.toNatClampNeg (0 : Int32))) n1 pl) else (rmvF_96 man wl cl x2 f1 ll n1 (pl.set (n1.getD man.toNatClampNeg (0 : Int32)).toNatClampNeg (pl.getD man.toNatClampNeg (0 : Int32)))))
def rmvF (man : Int32) (wl : List Int32) (fl : List Int32) (ll : List Int32) (cl : List Int32) (nl : List Int32) (pl : List Int32) : List Int32 × List Int32 × List Int32 × List Int32 × List Int32 × List Int32 := (if (wl.getD man.toNatClampNeg (0 : Int32)) = (-1 : Int32) then (wl, fl, ll, cl, nl, pl) else (if (pl.getD man.toNatClampNeg (0 : Int32)) = (-1 : Int32) then (rmvF_54 man wl ll cl pl (wl.getD man.toNatClampNeg (0 : Int32)) (fl.set (wl.getD man.toNatClampNeg (0 : Int32)).toNatClampNeg (nl.getD man.toNatClampNeg (0 : Int32))) nl) else (rmvF_54 man wl ll cl pl (wl.getD man.toNatClampNeg (0 : Int32)) fl (nl.set (pl.getD man.toNatClampNeg (0 : Int32)).toNatClampNeg (nl.getD man.toNatClampNeg (0 : Int32))))))
def QrmvF (Z : State) (a : Addr) (man : Int32) (aw : Addr) (af : Addr) (al : Addr) (ac : Addr) (an : Addr) (ap : Addr) (wl : List Int32) (fl : List Int32) (ll : List Int32) (cl : List Int32) (nl : List Int32) (pl : List Int32) (RES : List Int32 × List Int32 × List Int32 × List Int32 × List Int32 × List Int32) (h0 : Heap) (n0 : Nat) (v : Option Value) (h : Heap) (L : List Loc) : Prop := v = none ∧ Fr n0 L ∧ Keep h0 h [aw, af, al, ac, an, ap] ∧ VA Z h aw .int (RES.1.map Value.int) ∧ VA Z h af .int (RES.2.1.map Value.int) ∧ VA Z h al .int (RES.2.2.1.map Value.int) ∧ VA Z h ac .int (RES.2.2.2.1.map Value.int) ∧ VA Z h an .int (RES.2.2.2.2.1.map Value.int) ∧ VA Z h ap .int (RES.2.2.2.2.2.map Value.int)
set_option maxRecDepth 65536 in
set_option maxHeartbeats 40000000 in
theorem rm_rmvF (l : Launch) (Z : State) (a0 : Array Value) (hw : ∀ d ∈ tables_1, d.before a0 Z = true) (ws : List Jvm.Cond) (a : Addr) (man : Int32) (aw : Addr) (af : Addr) (al : Addr) (ac : Addr) (an : Addr) (ap : Addr) (wl : List Int32) (fl : List Int32) (ll : List Int32) (cl : List Int32) (nl : List Int32) (pl : List Int32) (h0 : Heap) (n0 : Nat) (Z0 : n0 ≤ h0.size) (F0 : Exa Z h0 a "com/example/knotwise/knotwise/Placement") (F1 : Fld Z h0 a "com/example/knotwise/knotwise/Placement" "wives" "[I" (.ref aw)) (F2 : Fld Z h0 a "com/example/knotwise/knotwise/Placement" "first" "[I" (.ref af)) (F3 : Fld Z h0 a "com/example/knotwise/knotwise/Placement" "last" "[I" (.ref al)) (F4 : Fld Z h0 a "com/example/knotwise/knotwise/Placement" "count" "[I" (.ref ac)) (F5 : Fld Z h0 a "com/example/knotwise/knotwise/Placement" "next" "[I" (.ref an)) (F6 : Fld Z h0 a "com/example/knotwise/knotwise/Placement" "previous" "[I" (.ref ap)) (F7 : VA Z h0 aw .int (wl.map Value.int)) (F8 : VA Z h0 af .int (fl.map Value.int)) (F9 : VA Z h0 al .int (ll.map Value.int)) (F10 : VA Z h0 ac .int (cl.map Value.int)) (F11 : VA Z h0 an .int (nl.map Value.int)) (F12 : VA Z h0 ap .int (pl.map Value.int)) (g_aw : n0 ≤ aw) (g_af : n0 ≤ af) (g_al : n0 ≤ al) (g_ac : n0 ≤ ac) (g_an : n0 ≤ an) (g_ap : n0 ≤ ap) (ne_a_aw : a ≠ aw) (ne_a_af : a ≠ af) (ne_a_al : a ≠ al) (ne_a_ac : a ≠ ac) (ne_a_an : a ≠ an) (ne_a_ap : a ≠ ap) (ne_aw_af : aw ≠ af) (ne_aw_al : aw ≠ al) (ne_aw_ac : aw ≠ ac) (ne_aw_an : aw ≠ an) (ne_aw_ap : aw ≠ ap) (ne_af_al : af ≠ al) (ne_af_ac : af ≠ ac) (ne_af_an : af ≠ an) (ne_af_ap : af ≠ ap) (ne_al_ac : al ≠ ac) (ne_al_an : al ≠ an) (ne_al_ap : al ≠ ap) (ne_ac_an : ac ≠ an) (ne_ac_ap : ac ≠ ap) (ne_an_ap : an ≠ ap) (hI : own_I wl fl ll cl nl pl) (hm : 0 ≤ man.toInt ∧ man.toInt < (3 : Nat)) :
    MetFree l (⟨"com/example/knotwise/knotwise/Placement", "remove", "(I)V"⟩ : MethodName) (head1 (Jvm.Cond.code (⟨"com/example/knotwise/knotwise/Placement", "remove", "(I)V"⟩ : MethodName) prog_13_method_7_code 3 none :: ws) ({ frames := 0, cells := 0, slots := 0, locals := 0 } : Room)) (fun A_ U => A_ = #[(.ref a), (.int man)] ∧ Z.Warmed39 U.vm ∧ U.heap = h0) (fun _ _ _ _ _ => True) (fun _ U o U' => ∃ v L, o = .returned v ∧ QrmvF Z a man aw af al ac an ap wl fl ll cl nl pl (rmvF man wl fl ll cl nl pl) h0 n0 v U'.heap L ∧ FrameEnd U o U' L ({ frames := 0, cells := 0, slots := 0, locals := 0 } : Room).cells ({ frames := 0, cells := 0, slots := 0, locals := 0 } : Room).slots) := by
  refine MetFree.of_bodySF (plainFor_of_name pn_1) hisR ?_
  intro p e s m args below meth c s₁ Bd hml0 hP hK
  obtain ⟨rfl, hZ, hh⟩ := hP
  have hx := Bd.exec
  have hby := Bd.bytes
  have hml : c.maxLocals = 3 := hml0
  have hown : s.vm.findClass "com/example/knotwise/knotwise/Placement" = some m.cls := findClass_of_methodNamed Bd.named
  have hnm := (name_of_methodNamed Bd.named Bd.method).1
  have X0 : Stand p l e ({ frames := 0, cells := 0, slots := 0, locals := 0 } : Room) s m #[(.ref a), (.int man)] below meth c s₁ [] 0 0 := Stand.of_body Bd
  have e0 : s₁.heap = h0 := by rw [← hh, Bd.state]; rfl
  have N0 := Fr.nil n0
  obtain ⟨hL1, hL2, hL3, hL4, hL5, hL6, hRw, hRl, hRn, hRp⟩ := id hI
  obtain ⟨RES, hf⟩ : ∃ z, z = rmvF man wl fl ll cl nl pl := ⟨_, rfl⟩
  rw [← hf]
  rw [rmvF] at hf
  suffices HGO : Go p e below s (QrmvF Z a man aw af al ac an ap wl fl ll cl nl pl RES h0 n0) ({ frames := 0, cells := 0, slots := 0, locals := 0 } : Room).cells ({ frames := 0, cells := 0, slots := 0, locals := 0 } : Room).slots s₁ (mkF m 0 #[.val (.ref a), .val (.int man), .unset] []) from Go.cast (ef_rmvF m a man) HGO
  have S96 : ∀ (T : State) (locs : List Loc) (cells slots : Nat) (X : Stand p l e ({ frames := 0, cells := 0, slots := 0, locals := 0 } : Room) s m #[(.ref a), (.int man)] below meth c T locs cells slots) (hcl : cells ≤ 0) (hsl : slots ≤ 0) (h : Heap) (eT : T.heap = h) (N : Fr n0 locs) (x2 : Int32)  (f1 : List Int32) (l1 : List Int32) (n1 : List Int32) (q1 : List Int32) (K : Keep h0 h [aw, af, al, ac, an, ap]) (fc0 : Exa Z h a "com/example/knotwise/knotwise/Placement") (fc1 : Fld Z h a "com/example/knotwise/knotwise/Placement" "wives" "[I" (.ref aw)) (fc2 : Fld Z h a "com/example/knotwise/knotwise/Placement" "first" "[I" (.ref af)) (fc3 : Fld Z h a "com/example/knotwise/knotwise/Placement" "last" "[I" (.ref al)) (fc4 : Fld Z h a "com/example/knotwise/knotwise/Placement" "count" "[I" (.ref ac)) (fc5 : Fld Z h a "com/example/knotwise/knotwise/Placement" "next" "[I" (.ref an)) (fc6 : Fld Z h a "com/example/knotwise/knotwise/Placement" "previous" "[I" (.ref ap)) (fc7 : VA Z h aw .int (wl.map Value.int)) (fc8 : VA Z h af .int (f1.map Value.int)) (fc9 : VA Z h al .int (l1.map Value.int)) (fc10 : VA Z h ac .int (cl.map Value.int)) (fc11 : VA Z h an .int (n1.map Value.int)) (fc12 : VA Z h ap .int (q1.map Value.int)) (hwo : 0 ≤ x2.toInt ∧ x2.toInt < (2 : Nat)) (hf : RES = rmvF_96 man wl cl x2 f1 l1 n1 q1), Go p e below s (QrmvF Z a man aw af al ac an ap wl fl ll cl nl pl RES h0 n0) ({ frames := 0, cells := 0, slots := 0, locals := 0 } : Room).cells ({ frames := 0, cells := 0, slots := 0, locals := 0 } : Room).slots T (mkF m 96 #[.val (.ref a), .val (.int man), .val (.int x2)] []) := by
    intro T locs cells slots X hcl hsl h eT N x2 f1 l1 n1 q1 K fc0 fc1 fc2 fc3 fc4 fc5 fc6 fc7 fc8 fc9 fc10 fc11 fc12 hwo hf
    have Zh : n0 ≤ h.size := Nat.le_trans Z0 K.1
    rw [rmvF_96] at hf
    obtain ⟨T1, X1, e1, st1⟩ := getF X hx hZ hown (host := "") (Or.inl (hw _ (List.mem_of_getElem? (i := 20) rfl))) Via.refl eT fc4 (g := (mkF m 97 #[.val (.ref a), .val (.int man), .val (.int x2)] [(.ref a)])) rfl rfl (hb hby d6_97)
    have ix2 : 0 ≤ (x2).toInt ∧ (x2).toInt < ((cl).length : Int) := own_ix hwo hL4
    have ix3 : 0 ≤ (x2).toInt ∧ (x2).toInt < ((cl).length : Int) := own_ix hwo hL4
    obtain ⟨T4, h4, X4, e4, W4, V4, st4⟩ := putI X1 hx hZ e1 fc10 ix3.1 ix3.2 (g := (mkF m 105 #[.val (.ref a), .val (.int man), .val (.int x2)] [(.int ((cl.getD x2.toNatClampNeg (0 : Int32)) - (1 : Int32))), (.int x2), (.ref ac)])) rfl rfl (hb hby d6_105)
    have G5 : Exa Z h4 a "com/example/knotwise/knotwise/Placement" := fc0.wr W4
    have G6 : Fld Z h4 a "com/example/knotwise/knotwise/Placement" "wives" "[I" (.ref aw) := fc1.other W4 (Or.inl ne_a_ac)
    have G7 : Fld Z h4 a "com/example/knotwise/knotwise/Placement" "first" "[I" (.ref af) := fc2.other W4 (Or.inl ne_a_ac)
    have G8 : Fld Z h4 a "com/example/knotwise/knotwise/Placement" "last" "[I" (.ref al) := fc3.other W4 (Or.inl ne_a_ac)
    have G9 : Fld Z h4 a "com/example/knotwise/knotwise/Placement" "count" "[I" (.ref ac) := fc4.other W4 (Or.inl ne_a_ac)
    have G10 : Fld Z h4 a "com/example/knotwise/knotwise/Placement" "next" "[I" (.ref an) := fc5.other W4 (Or.inl ne_a_ac)
    have G11 : Fld Z h4 a "com/example/knotwise/knotwise/Placement" "previous" "[I" (.ref ap) := fc6.other W4 (Or.inl ne_a_ac)
    have G12 : VA Z h4 aw .int (wl.map Value.int) := fc7.other W4 ne_aw_ac
    have G13 : VA Z h4 af .int (f1.map Value.int) := fc8.other W4 ne_af_ac
    have G14 : VA Z h4 al .int (l1.map Value.int) := fc9.other W4 ne_al_ac
    have G15 : VA Z h4 ac .int ((cl.set x2.toNatClampNeg ((cl.getD x2.toNatClampNeg (0 : Int32)) - (1 : Int32))).map Value.int) := V4
    have G16 : VA Z h4 an .int (n1.map Value.int) := fc11.other W4 (Ne.symm ne_ac_an)
    have G17 : VA Z h4 ap .int (q1.map Value.int) := fc12.other W4 (Ne.symm ne_ac_ap)
    have N4 := Fr.snoc X4 N g_ac
    have K4 : Keep h0 h4 [aw, af, al, ac, an, ap] := Keep.wr K W4 (Or.inl (List.mem_of_getElem? (i := 3) rfl))
    have Z4 : n0 ≤ h4.size := Nat.le_trans Z0 K4.1
    obtain ⟨T18, X18, e18, st18⟩ := getF X4 hx hZ hown (host := "") (Or.inl (hw _ (List.mem_of_getElem? (i := 10) rfl))) Via.refl e4 G6 (g := (mkF m 107 #[.val (.ref a), .val (.int man), .val (.int x2)] [(.ref a)])) rfl rfl (hb hby d6_107)
    have ix19 : 0 ≤ (man).toInt ∧ (man).toInt < ((wl).length : Int) := own_ix hm hL1
    obtain ⟨T20, h20, X20, e20, W20, V20, st20⟩ := putI X18 hx hZ e18 G12 ix19.1 ix19.2 (g := (mkF m 112 #[.val (.ref a), .val (.int man), .val (.int x2)] [(.int (-1 : Int32)), (.int man), (.ref aw)])) rfl rfl (hb hby d6_112)
    have G21 : Exa Z h20 a "com/example/knotwise/knotwise/Placement" := G5.wr W20
    have G22 : Fld Z h20 a "com/example/knotwise/knotwise/Placement" "wives" "[I" (.ref aw) := G6.other W20 (Or.inl ne_a_aw)
    have G23 : Fld Z h20 a "com/example/knotwise/knotwise/Placement" "first" "[I" (.ref af) := G7.other W20 (Or.inl ne_a_aw)
    have G24 : Fld Z h20 a "com/example/knotwise/knotwise/Placement" "last" "[I" (.ref al) := G8.other W20 (Or.inl ne_a_aw)
    have G25 : Fld Z h20 a "com/example/knotwise/knotwise/Placement" "count" "[I" (.ref ac) := G9.other W20 (Or.inl ne_a_aw)
    have G26 : Fld Z h20 a "com/example/knotwise/knotwise/Placement" "next" "[I" (.ref an) := G10.other W20 (Or.inl ne_a_aw)
    have G27 : Fld Z h20 a "com/example/knotwise/knotwise/Placement" "previous" "[I" (.ref ap) := G11.other W20 (Or.inl ne_a_aw)
    have G28 : VA Z h20 aw .int ((wl.set man.toNatClampNeg (-1 : Int32)).map Value.int) := V20
    have G29 : VA Z h20 af .int (f1.map Value.int) := G13.other W20 (Ne.symm ne_aw_af)
    have G30 : VA Z h20 al .int (l1.map Value.int) := G14.other W20 (Ne.symm ne_aw_al)
    have G31 : VA Z h20 ac .int ((cl.set x2.toNatClampNeg ((cl.getD x2.toNatClampNeg (0 : Int32)) - (1 : Int32))).map Value.int) := G15.other W20 (Ne.symm ne_aw_ac)
    have G32 : VA Z h20 an .int (n1.map Value.int) := G16.other W20 (Ne.symm ne_aw_an)
    have G33 : VA Z h20 ap .int (q1.map Value.int) := G17.other W20 (Ne.symm ne_aw_ap)
    have N20 := Fr.snoc X20 N4 g_aw
    have K20 : Keep h0 h20 [aw, af, al, ac, an, ap] := Keep.wr K4 W20 (Or.inl (List.mem_of_getElem? (i := 0) rfl))
    have Z20 : n0 ≤ h20.size := Nat.le_trans Z0 K20.1
    refine Go.step (T' := T20) (f' := (mkF m 113 #[.val (.ref a), .val (.int man), .val (.int x2)] [])) (fun t kt => ?_) ?_
    · show Steps p.tables e below (T.setTop (mkF m 96 #[.val (.ref a), .val (.int man), .val (.int x2)] [])) _
      refine XS.aloadN X.here hx rfl (hb hby d6_96) rfl rfl ?_
      show Steps p.tables e below (T.setTop (mkF m 97 #[.val (.ref a), .val (.int man), .val (.int x2)] [(.ref a)])) _
      refine st1 _ ?_
      show Steps p.tables e below (T1.setTop (mkF m 100 #[.val (.ref a), .val (.int man), .val (.int x2)] [(.ref ac)])) _
      refine XS.iloadN X1.here hx rfl (hb hby d6_100) rfl ?_
      show Steps p.tables e below (T1.setTop (mkF m 101 #[.val (.ref a), .val (.int man), .val (.int x2)] [(.int x2), (.ref ac)])) _
      refine XT.dup2 X1.here hx rfl (hb hby d6_101) rfl rfl rfl ?_
      show Steps p.tables e below (T1.setTop (mkF m 102 #[.val (.ref a), .val (.int man), .val (.int x2)] [(.int x2), (.ref ac), (.int x2), (.ref ac)])) _
      refine ldI X1 hx hZ e1 fc10 ix2.1 ix2.2 (g := (mkF m 102 #[.val (.ref a), .val (.int man), .val (.int x2)] [(.int x2), (.ref ac), (.int x2), (.ref ac)])) rfl rfl (hb hby d6_102) _ ?_
      show Steps p.tables e below (T1.setTop (mkF m 103 #[.val (.ref a), .val (.int man), .val (.int x2)] [(.int (cl.getD x2.toNatClampNeg (0 : Int32))), (.int x2), (.ref ac)])) _
      refine XS.iconst X1.here hx rfl (hb hby d6_103) ?_
      show Steps p.tables e below (T1.setTop (mkF m 104 #[.val (.ref a), .val (.int man), .val (.int x2)] [(.int (1 : Int32)), (.int (cl.getD x2.toNatClampNeg (0 : Int32))), (.int x2), (.ref ac)])) _
      refine XS.isub X1.here hx rfl (hb hby d6_104) rfl ?_
      show Steps p.tables e below (T1.setTop (mkF m 105 #[.val (.ref a), .val (.int man), .val (.int x2)] [(.int ((cl.getD x2.toNatClampNeg (0 : Int32)) - (1 : Int32))), (.int x2), (.ref ac)])) _
      refine st4 _ ?_
      show Steps p.tables e below (T4.setTop (mkF m 106 #[.val (.ref a), .val (.int man), .val (.int x2)] [])) _
      refine XS.aloadN X4.here hx rfl (hb hby d6_106) rfl rfl ?_
      show Steps p.tables e below (T4.setTop (mkF m 107 #[.val (.ref a), .val (.int man), .val (.int x2)] [(.ref a)])) _
      refine st18 _ ?_
      show Steps p.tables e below (T18.setTop (mkF m 110 #[.val (.ref a), .val (.int man), .val (.int x2)] [(.ref aw)])) _
      refine XS.iloadN X18.here hx rfl (hb hby d6_110) rfl ?_
      show Steps p.tables e below (T18.setTop (mkF m 111 #[.val (.ref a), .val (.int man), .val (.int x2)] [(.int man), (.ref aw)])) _
      refine XS.iconst X18.here hx rfl (hb hby d6_111) ?_
      show Steps p.tables e below (T18.setTop (mkF m 112 #[.val (.ref a), .val (.int man), .val (.int x2)] [(.int (-1 : Int32)), (.int man), (.ref aw)])) _
      refine st20 _ ?_
      exact kt
    refine Go.fin X20 (v := none) (fun _ => rfl) Bd.notSynchronized ?_ (Nat.le_trans hcl (by decide)) (Nat.le_trans hsl (by decide)) (fun fs hr => X20.returnOut hx Bd.returns (hb hby d6_113) hr)
    · show QrmvF Z a man aw af al ac an ap wl fl ll cl nl pl RES h0 n0 _ T20.heap _
      rw [e20, hf]
      exact ⟨rfl, N20, K20, G28, G29, G30, G31, G32, G33⟩
  have S54 : ∀ (T : State) (locs : List Loc) (cells slots : Nat) (X : Stand p l e ({ frames := 0, cells := 0, slots := 0, locals := 0 } : Room) s m #[(.ref a), (.int man)] below meth c T locs cells slots) (hcl : cells ≤ 0) (hsl : slots ≤ 0) (h : Heap) (eT : T.heap = h) (N : Fr n0 locs) (x2 : Int32)  (f1 : List Int32) (n1 : List Int32) (K : Keep h0 h [aw, af, al, ac, an, ap]) (fc0 : Exa Z h a "com/example/knotwise/knotwise/Placement") (fc1 : Fld Z h a "com/example/knotwise/knotwise/Placement" "wives" "[I" (.ref aw)) (fc2 : Fld Z h a "com/example/knotwise/knotwise/Placement" "first" "[I" (.ref af)) (fc3 : Fld Z h a "com/example/knotwise/knotwise/Placement" "last" "[I" (.ref al)) (fc4 : Fld Z h a "com/example/knotwise/knotwise/Placement" "count" "[I" (.ref ac)) (fc5 : Fld Z h a "com/example/knotwise/knotwise/Placement" "next" "[I" (.ref an)) (fc6 : Fld Z h a "com/example/knotwise/knotwise/Placement" "previous" "[I" (.ref ap)) (fc7 : VA Z h aw .int (wl.map Value.int)) (fc8 : VA Z h af .int (f1.map Value.int)) (fc9 : VA Z h al .int (ll.map Value.int)) (fc10 : VA Z h ac .int (cl.map Value.int)) (fc11 : VA Z h an .int (n1.map Value.int)) (fc12 : VA Z h ap .int (pl.map Value.int)) (hwo : 0 ≤ x2.toInt ∧ x2.toInt < (2 : Nat)) (hf1 : f1.length = 2) (hn1 : n1.length = 3) (hnr : own_R 3 n1) (hf : RES = rmvF_54 man wl ll cl pl x2 f1 n1), Go p e below s (QrmvF Z a man aw af al ac an ap wl fl ll cl nl pl RES h0 n0) ({ frames := 0, cells := 0, slots := 0, locals := 0 } : Room).cells ({ frames := 0, cells := 0, slots := 0, locals := 0 } : Room).slots T (mkF m 54 #[.val (.ref a), .val (.int man), .val (.int x2)] []) := by
    intro T locs cells slots X hcl hsl h eT N x2 f1 n1 K fc0 fc1 fc2 fc3 fc4 fc5 fc6 fc7 fc8 fc9 fc10 fc11 fc12 hwo hf1 hn1 hnr hf
    have Zh : n0 ≤ h.size := Nat.le_trans Z0 K.1
    rw [rmvF_54] at hf
    obtain ⟨T34, X34, e34, st34⟩ := getF X hx hZ hown (host := "") (Or.inl (hw _ (List.mem_of_getElem? (i := 22) rfl))) Via.refl eT fc5 (g := (mkF m 55 #[.val (.ref a), .val (.int man), .val (.int x2)] [(.ref a)])) rfl rfl (hb hby d6_55)
    have ix35 : 0 ≤ (man).toInt ∧ (man).toInt < ((n1).length : Int) := own_ix hm hn1
    refine Go.step (T' := T34) (f' := (mkF m 61 #[.val (.ref a), .val (.int man), .val (.int x2)] [(.int (-1 : Int32)), (.int (n1.getD man.toNatClampNeg (0 : Int32)))])) (fun t kt => ?_) ?_
    · show Steps p.tables e below (T.setTop (mkF m 54 #[.val (.ref a), .val (.int man), .val (.int x2)] [])) _
      refine XS.aloadN X.here hx rfl (hb hby d6_54) rfl rfl ?_
      show Steps p.tables e below (T.setTop (mkF m 55 #[.val (.ref a), .val (.int man), .val (.int x2)] [(.ref a)])) _
      refine st34 _ ?_
      show Steps p.tables e below (T34.setTop (mkF m 58 #[.val (.ref a), .val (.int man), .val (.int x2)] [(.ref an)])) _
      refine XS.iloadN X34.here hx rfl (hb hby d6_58) rfl ?_
      show Steps p.tables e below (T34.setTop (mkF m 59 #[.val (.ref a), .val (.int man), .val (.int x2)] [(.int man), (.ref an)])) _
      refine ldI X34 hx hZ e34 fc11 ix35.1 ix35.2 (g := (mkF m 59 #[.val (.ref a), .val (.int man), .val (.int x2)] [(.int man), (.ref an)])) rfl rfl (hb hby d6_59) _ ?_
      show Steps p.tables e below (T34.setTop (mkF m 60 #[.val (.ref a), .val (.int man), .val (.int x2)] [(.int (n1.getD man.toNatClampNeg (0 : Int32)))])) _
      refine XS.iconst X34.here hx rfl (hb hby d6_60) ?_
      exact kt
    by_cases hc36 : (n1.getD man.toNatClampNeg (0 : Int32)) = (-1 : Int32)
    · rw [if_pos hc36] at hf
      refine Go.step (T' := T34) (f' := (mkF m 64 #[.val (.ref a), .val (.int man), .val (.int x2)] [])) (fun t kt => ?_) ?_
      · show Steps p.tables e below (T34.setTop (mkF m 61 #[.val (.ref a), .val (.int man), .val (.int x2)] [(.int (-1 : Int32)), (.int (n1.getD man.toNatClampNeg (0 : Int32)))])) _
        refine XS.icmpNo X34.here hx rfl (hb hby d6_61) rfl (teq hc36).2 ?_
        exact kt
      obtain ⟨T37, X37, e37, st37⟩ := getF X34 hx hZ hown (host := "") (Or.inl (hw _ (List.mem_of_getElem? (i := 18) rfl))) Via.refl e34 fc3 (g := (mkF m 65 #[.val (.ref a), .val (.int man), .val (.int x2)] [(.ref a)])) rfl rfl (hb hby d6_65)
      obtain ⟨T38, X38, e38, st38⟩ := getF X37 hx hZ hown (host := "") (Or.inl (hw _ (List.mem_of_getElem? (i := 24) rfl))) Via.refl e37 fc6 (g := (mkF m 70 #[.val (.ref a), .val (.int man), .val (.int x2)] [(.ref a), (.int x2), (.ref al)])) rfl rfl (hb hby d6_70)
      have ix39 : 0 ≤ (man).toInt ∧ (man).toInt < ((pl).length : Int) := own_ix hm hL6
      have ix40 : 0 ≤ (x2).toInt ∧ (x2).toInt < ((ll).length : Int) := own_ix hwo hL3
      obtain ⟨T41, h41, X41, e41, W41, V41, st41⟩ := putI X38 hx hZ e38 fc9 ix40.1 ix40.2 (g := (mkF m 75 #[.val (.ref a), .val (.int man), .val (.int x2)] [(.int (pl.getD man.toNatClampNeg (0 : Int32))), (.int x2), (.ref al)])) rfl rfl (hb hby d6_75)
      have G42 : Exa Z h41 a "com/example/knotwise/knotwise/Placement" := fc0.wr W41
      have G43 : Fld Z h41 a "com/example/knotwise/knotwise/Placement" "wives" "[I" (.ref aw) := fc1.other W41 (Or.inl ne_a_al)
      have G44 : Fld Z h41 a "com/example/knotwise/knotwise/Placement" "first" "[I" (.ref af) := fc2.other W41 (Or.inl ne_a_al)
      have G45 : Fld Z h41 a "com/example/knotwise/knotwise/Placement" "last" "[I" (.ref al) := fc3.other W41 (Or.inl ne_a_al)
      have G46 : Fld Z h41 a "com/example/knotwise/knotwise/Placement" "count" "[I" (.ref ac) := fc4.other W41 (Or.inl ne_a_al)
      have G47 : Fld Z h41 a "com/example/knotwise/knotwise/Placement" "next" "[I" (.ref an) := fc5.other W41 (Or.inl ne_a_al)
      have G48 : Fld Z h41 a "com/example/knotwise/knotwise/Placement" "previous" "[I" (.ref ap) := fc6.other W41 (Or.inl ne_a_al)
      have G49 : VA Z h41 aw .int (wl.map Value.int) := fc7.other W41 ne_aw_al
      have G50 : VA Z h41 af .int (f1.map Value.int) := fc8.other W41 ne_af_al
      have G51 : VA Z h41 al .int ((ll.set x2.toNatClampNeg (pl.getD man.toNatClampNeg (0 : Int32))).map Value.int) := V41
      have G52 : VA Z h41 ac .int (cl.map Value.int) := fc10.other W41 (Ne.symm ne_al_ac)
      have G53 : VA Z h41 an .int (n1.map Value.int) := fc11.other W41 (Ne.symm ne_al_an)
      have G54 : VA Z h41 ap .int (pl.map Value.int) := fc12.other W41 (Ne.symm ne_al_ap)
      have N41 := Fr.snoc X41 N g_al
      have K41 : Keep h0 h41 [aw, af, al, ac, an, ap] := Keep.wr K W41 (Or.inl (List.mem_of_getElem? (i := 2) rfl))
      have Z41 : n0 ≤ h41.size := Nat.le_trans Z0 K41.1
      refine Go.step (T' := T41) (f' := (mkF m 96 #[.val (.ref a), .val (.int man), .val (.int x2)] [])) (fun t kt => ?_) ?_
      · show Steps p.tables e below (T34.setTop (mkF m 64 #[.val (.ref a), .val (.int man), .val (.int x2)] [])) _
        refine XS.aloadN X34.here hx rfl (hb hby d6_64) rfl rfl ?_
        show Steps p.tables e below (T34.setTop (mkF m 65 #[.val (.ref a), .val (.int man), .val (.int x2)] [(.ref a)])) _
        refine st37 _ ?_
        show Steps p.tables e below (T37.setTop (mkF m 68 #[.val (.ref a), .val (.int man), .val (.int x2)] [(.ref al)])) _
        refine XS.iloadN X37.here hx rfl (hb hby d6_68) rfl ?_
        show Steps p.tables e below (T37.setTop (mkF m 69 #[.val (.ref a), .val (.int man), .val (.int x2)] [(.int x2), (.ref al)])) _
        refine XS.aloadN X37.here hx rfl (hb hby d6_69) rfl rfl ?_
        show Steps p.tables e below (T37.setTop (mkF m 70 #[.val (.ref a), .val (.int man), .val (.int x2)] [(.ref a), (.int x2), (.ref al)])) _
        refine st38 _ ?_
        show Steps p.tables e below (T38.setTop (mkF m 73 #[.val (.ref a), .val (.int man), .val (.int x2)] [(.ref ap), (.int x2), (.ref al)])) _
        refine XS.iloadN X38.here hx rfl (hb hby d6_73) rfl ?_
        show Steps p.tables e below (T38.setTop (mkF m 74 #[.val (.ref a), .val (.int man), .val (.int x2)] [(.int man), (.ref ap), (.int x2), (.ref al)])) _
        refine ldI X38 hx hZ e38 fc12 ix39.1 ix39.2 (g := (mkF m 74 #[.val (.ref a), .val (.int man), .val (.int x2)] [(.int man), (.ref ap), (.int x2), (.ref al)])) rfl rfl (hb hby d6_74) _ ?_
        show Steps p.tables e below (T38.setTop (mkF m 75 #[.val (.ref a), .val (.int man), .val (.int x2)] [(.int (pl.getD man.toNatClampNeg (0 : Int32))), (.int x2), (.ref al)])) _
        refine st41 _ ?_
        show Steps p.tables e below (T41.setTop (mkF m 76 #[.val (.ref a), .val (.int man), .val (.int x2)] [])) _
        refine XS.goto X41.here hx rfl (pc0 := 76) (pc' := 96) rfl (hb hby d6_76) (by decide) (by decide) ?_
        exact kt
      exact S96 _ _ _ _ X41 (Nat.le_trans hcl (by decide)) (Nat.le_trans hsl (by decide)) h41 e41 N41 x2 f1 (ll.set x2.toNatClampNeg (pl.getD man.toNatClampNeg (0 : Int32))) n1 pl K41 G42 G43 G44 G45 G46 G47 G48 G49 G50 G51 G52 G53 G54 hwo hf
    · rw [if_neg hc36] at hf
      refine Go.step (T' := T34) (f' := (mkF m 79 #[.val (.ref a), .val (.int man), .val (.int x2)] [])) (fun t kt => ?_) ?_
      · show Steps p.tables e below (T34.setTop (mkF m 61 #[.val (.ref a), .val (.int man), .val (.int x2)] [(.int (-1 : Int32)), (.int (n1.getD man.toNatClampNeg (0 : Int32)))])) _
        refine XS.icmpYes X34.here hx rfl (pc0 := 61) (pc' := 79) rfl (hb hby d6_61) rfl (feq hc36).2 (by decide) (by decide) ?_
        exact kt
      obtain ⟨T55, X55, e55, st55⟩ := getF X34 hx hZ hown (host := "") (Or.inl (hw _ (List.mem_of_getElem? (i := 24) rfl))) Via.refl e34 fc6 (g := (mkF m 80 #[.val (.ref a), .val (.int man), .val (.int x2)] [(.ref a)])) rfl rfl (hb hby d6_80)
      obtain ⟨T56, X56, e56, st56⟩ := getF X55 hx hZ hown (host := "") (Or.inl (hw _ (List.mem_of_getElem? (i := 22) rfl))) Via.refl e55 fc5 (g := (mkF m 84 #[.val (.ref a), .val (.int man), .val (.int x2)] [(.ref a), (.ref ap)])) rfl rfl (hb hby d6_84)
      have ix57 : 0 ≤ (man).toInt ∧ (man).toInt < ((n1).length : Int) := own_ix hm hn1
      obtain ⟨T58, X58, e58, st58⟩ := getF X56 hx hZ hown (host := "") (Or.inl (hw _ (List.mem_of_getElem? (i := 24) rfl))) Via.refl e56 fc6 (g := (mkF m 90 #[.val (.ref a), .val (.int man), .val (.int x2)] [(.ref a), (.int (n1.getD man.toNatClampNeg (0 : Int32))), (.ref ap)])) rfl rfl (hb hby d6_90)
      have ix59 : 0 ≤ (man).toInt ∧ (man).toInt < ((pl).length : Int) := own_ix hm hL6
      have ix60 : 0 ≤ ((n1.getD man.toNatClampNeg (0 : Int32))).toInt ∧ ((n1.getD man.toNatClampNeg (0 : Int32))).toInt < ((pl).length : Int) := own_ix (own_pos1 (own_get hnr hm.1 (own_ix hm hn1).2) (by assumption)) hL6
      obtain ⟨T61, h61, X61, e61, W61, V61, st61⟩ := putI X58 hx hZ e58 fc12 ix60.1 ix60.2 (g := (mkF m 95 #[.val (.ref a), .val (.int man), .val (.int x2)] [(.int (pl.getD man.toNatClampNeg (0 : Int32))), (.int (n1.getD man.toNatClampNeg (0 : Int32))), (.ref ap)])) rfl rfl (hb hby d6_95)
      have G62 : Exa Z h61 a "com/example/knotwise/knotwise/Placement" := fc0.wr W61
      have G63 : Fld Z h61 a "com/example/knotwise/knotwise/Placement" "wives" "[I" (.ref aw) := fc1.other W61 (Or.inl ne_a_ap)
      have G64 : Fld Z h61 a "com/example/knotwise/knotwise/Placement" "first" "[I" (.ref af) := fc2.other W61 (Or.inl ne_a_ap)
      have G65 : Fld Z h61 a "com/example/knotwise/knotwise/Placement" "last" "[I" (.ref al) := fc3.other W61 (Or.inl ne_a_ap)
      have G66 : Fld Z h61 a "com/example/knotwise/knotwise/Placement" "count" "[I" (.ref ac) := fc4.other W61 (Or.inl ne_a_ap)
      have G67 : Fld Z h61 a "com/example/knotwise/knotwise/Placement" "next" "[I" (.ref an) := fc5.other W61 (Or.inl ne_a_ap)
      have G68 : Fld Z h61 a "com/example/knotwise/knotwise/Placement" "previous" "[I" (.ref ap) := fc6.other W61 (Or.inl ne_a_ap)
      have G69 : VA Z h61 aw .int (wl.map Value.int) := fc7.other W61 ne_aw_ap
      have G70 : VA Z h61 af .int (f1.map Value.int) := fc8.other W61 ne_af_ap
      have G71 : VA Z h61 al .int (ll.map Value.int) := fc9.other W61 ne_al_ap
      have G72 : VA Z h61 ac .int (cl.map Value.int) := fc10.other W61 ne_ac_ap
      have G73 : VA Z h61 an .int (n1.map Value.int) := fc11.other W61 ne_an_ap
      have G74 : VA Z h61 ap .int ((pl.set (n1.getD man.toNatClampNeg (0 : Int32)).toNatClampNeg (pl.getD man.toNatClampNeg (0 : Int32))).map Value.int) := V61
      have N61 := Fr.snoc X61 N g_ap
      have K61 : Keep h0 h61 [aw, af, al, ac, an, ap] := Keep.wr K W61 (Or.inl (List.mem_of_getElem? (i := 5) rfl))
      have Z61 : n0 ≤ h61.size := Nat.le_trans Z0 K61.1
      refine Go.step (T' := T61) (f' := (mkF m 96 #[.val (.ref a), .val (.int man), .val (.int x2)] [])) (fun t kt => ?_) ?_
      · show Steps p.tables e below (T34.setTop (mkF m 79 #[.val (.ref a), .val (.int man), .val (.int x2)] [])) _
        refine XS.aloadN X34.here hx rfl (hb hby d6_79) rfl rfl ?_
        show Steps p.tables e below (T34.setTop (mkF m 80 #[.val (.ref a), .val (.int man), .val (.int x2)] [(.ref a)])) _
        refine st55 _ ?_
        show Steps p.tables e below (T55.setTop (mkF m 83 #[.val (.ref a), .val (.int man), .val (.int x2)] [(.ref ap)])) _
        refine XS.aloadN X55.here hx rfl (hb hby d6_83) rfl rfl ?_
        show Steps p.tables e below (T55.setTop (mkF m 84 #[.val (.ref a), .val (.int man), .val (.int x2)] [(.ref a), (.ref ap)])) _
        refine st56 _ ?_
        show Steps p.tables e below (T56.setTop (mkF m 87 #[.val (.ref a), .val (.int man), .val (.int x2)] [(.ref an), (.ref ap)])) _
        refine XS.iloadN X56.here hx rfl (hb hby d6_87) rfl ?_
        show Steps p.tables e below (T56.setTop (mkF m 88 #[.val (.ref a), .val (.int man), .val (.int x2)] [(.int man), (.ref an), (.ref ap)])) _
        refine ldI X56 hx hZ e56 fc11 ix57.1 ix57.2 (g := (mkF m 88 #[.val (.ref a), .val (.int man), .val (.int x2)] [(.int man), (.ref an), (.ref ap)])) rfl rfl (hb hby d6_88) _ ?_
        show Steps p.tables e below (T56.setTop (mkF m 89 #[.val (.ref a), .val (.int man), .val (.int x2)] [(.int (n1.getD man.toNatClampNeg (0 : Int32))), (.ref ap)])) _
        refine XS.aloadN X56.here hx rfl (hb hby d6_89) rfl rfl ?_
        show Steps p.tables e below (T56.setTop (mkF m 90 #[.val (.ref a), .val (.int man), .val (.int x2)] [(.ref a), (.int (n1.getD man.toNatClampNeg (0 : Int32))), (.ref ap)])) _
        refine st58 _ ?_
        show Steps p.tables e below (T58.setTop (mkF m 93 #[.val (.ref a), .val (.int man), .val (.int x2)] [(.ref ap), (.int (n1.getD man.toNatClampNeg (0 : Int32))), (.ref ap)])) _
        refine XS.iloadN X58.here hx rfl (hb hby d6_93) rfl ?_
        show Steps p.tables e below (T58.setTop (mkF m 94 #[.val (.ref a), .val (.int man), .val (.int x2)] [(.int man), (.ref ap), (.int (n1.getD man.toNatClampNeg (0 : Int32))), (.ref ap)])) _
        refine ldI X58 hx hZ e58 fc12 ix59.1 ix59.2 (g := (mkF m 94 #[.val (.ref a), .val (.int man), .val (.int x2)] [(.int man), (.ref ap), (.int (n1.getD man.toNatClampNeg (0 : Int32))), (.ref ap)])) rfl rfl (hb hby d6_94) _ ?_
        show Steps p.tables e below (T58.setTop (mkF m 95 #[.val (.ref a), .val (.int man), .val (.int x2)] [(.int (pl.getD man.toNatClampNeg (0 : Int32))), (.int (n1.getD man.toNatClampNeg (0 : Int32))), (.ref ap)])) _
        refine st61 _ ?_
        exact kt
      exact S96 _ _ _ _ X61 (Nat.le_trans hcl (by decide)) (Nat.le_trans hsl (by decide)) h61 e61 N61 x2 f1 ll n1 (pl.set (n1.getD man.toNatClampNeg (0 : Int32)).toNatClampNeg (pl.getD man.toNatClampNeg (0 : Int32))) K61 G62 G63 G64 G65 G66 G67 G68 G69 G70 G71 G72 G73 G74 hwo hf
  obtain ⟨T75, X75, e75, st75⟩ := getF X0 hx hZ hown (host := "") (Or.inl (hw _ (List.mem_of_getElem? (i := 10) rfl))) Via.refl e0 F1 (g := (mkF m 1 #[.val (.ref a), .val (.int man), .unset] [(.ref a)])) rfl rfl (hb hby d6_1)
  have ix76 : 0 ≤ (man).toInt ∧ (man).toInt < ((wl).length : Int) := own_ix hm hL1
  refine Go.step (T' := T75) (f' := (mkF m 9 #[.val (.ref a), .val (.int man), .val (.int (wl.getD man.toNatClampNeg (0 : Int32)))] [(.int (-1 : Int32)), (.int (wl.getD man.toNatClampNeg (0 : Int32)))])) (fun t kt => ?_) ?_
  · show Steps p.tables e below (s₁.setTop (mkF m 0 #[.val (.ref a), .val (.int man), .unset] [])) _
    refine XS.aloadN X0.here hx rfl (hb hby d6_0) rfl rfl ?_
    show Steps p.tables e below (s₁.setTop (mkF m 1 #[.val (.ref a), .val (.int man), .unset] [(.ref a)])) _
    refine st75 _ ?_
    show Steps p.tables e below (T75.setTop (mkF m 4 #[.val (.ref a), .val (.int man), .unset] [(.ref aw)])) _
    refine XS.iloadN X75.here hx rfl (hb hby d6_4) rfl ?_
    show Steps p.tables e below (T75.setTop (mkF m 5 #[.val (.ref a), .val (.int man), .unset] [(.int man), (.ref aw)])) _
    refine ldI X75 hx hZ e75 F7 ix76.1 ix76.2 (g := (mkF m 5 #[.val (.ref a), .val (.int man), .unset] [(.int man), (.ref aw)])) rfl rfl (hb hby d6_5) _ ?_
    show Steps p.tables e below (T75.setTop (mkF m 6 #[.val (.ref a), .val (.int man), .unset] [(.int (wl.getD man.toNatClampNeg (0 : Int32)))])) _
    refine XS.istoreN X75.here hx rfl (hb hby d6_6) rfl (l' := #[.val (.ref a), .val (.int man), .val (.int (wl.getD man.toNatClampNeg (0 : Int32)))]) rfl ?_
    show Steps p.tables e below (T75.setTop (mkF m 7 #[.val (.ref a), .val (.int man), .val (.int (wl.getD man.toNatClampNeg (0 : Int32)))] [])) _
    refine XS.iloadN X75.here hx rfl (hb hby d6_7) rfl ?_
    show Steps p.tables e below (T75.setTop (mkF m 8 #[.val (.ref a), .val (.int man), .val (.int (wl.getD man.toNatClampNeg (0 : Int32)))] [(.int (wl.getD man.toNatClampNeg (0 : Int32)))])) _
    refine XS.iconst X75.here hx rfl (hb hby d6_8) ?_
    exact kt
  by_cases hc77 : (wl.getD man.toNatClampNeg (0 : Int32)) = (-1 : Int32)
  · rw [if_pos hc77] at hf
    refine Go.step (T' := T75) (f' := (mkF m 113 #[.val (.ref a), .val (.int man), .val (.int (wl.getD man.toNatClampNeg (0 : Int32)))] [])) (fun t kt => ?_) ?_
    · show Steps p.tables e below (T75.setTop (mkF m 9 #[.val (.ref a), .val (.int man), .val (.int (wl.getD man.toNatClampNeg (0 : Int32)))] [(.int (-1 : Int32)), (.int (wl.getD man.toNatClampNeg (0 : Int32)))])) _
      refine XS.icmpYes X75.here hx rfl (pc0 := 9) (pc' := 113) rfl (hb hby d6_9) rfl (teq hc77).1 (by decide) (by decide) ?_
      exact kt
    refine Go.fin X75 (v := none) (fun _ => rfl) Bd.notSynchronized ?_ (Nat.le_trans (Nat.le_refl 0) (by decide)) (Nat.le_trans (Nat.le_refl 0) (by decide)) (fun fs hr => X75.returnOut hx Bd.returns (hb hby d6_113) hr)
    · show QrmvF Z a man aw af al ac an ap wl fl ll cl nl pl RES h0 n0 _ T75.heap _
      rw [e75, hf]
      exact ⟨rfl, N0, (Keep.refl h0 [aw, af, al, ac, an, ap]), F7, F8, F9, F10, F11, F12⟩
  · rw [if_neg hc77] at hf
    refine Go.step (T' := T75) (f' := (mkF m 12 #[.val (.ref a), .val (.int man), .val (.int (wl.getD man.toNatClampNeg (0 : Int32)))] [])) (fun t kt => ?_) ?_
    · show Steps p.tables e below (T75.setTop (mkF m 9 #[.val (.ref a), .val (.int man), .val (.int (wl.getD man.toNatClampNeg (0 : Int32)))] [(.int (-1 : Int32)), (.int (wl.getD man.toNatClampNeg (0 : Int32)))])) _
      refine XS.icmpNo X75.here hx rfl (hb hby d6_9) rfl (feq hc77).1 ?_
      exact kt
    have hwo := own_pos1 (own_get hRw hm.1 (own_ix hm hL1).2) (by assumption)
    obtain ⟨T78, X78, e78, st78⟩ := getF X75 hx hZ hown (host := "") (Or.inl (hw _ (List.mem_of_getElem? (i := 24) rfl))) Via.refl e75 F6 (g := (mkF m 13 #[.val (.ref a), .val (.int man), .val (.int (wl.getD man.toNatClampNeg (0 : Int32)))] [(.ref a)])) rfl rfl (hb hby d6_13)
    have ix79 : 0 ≤ (man).toInt ∧ (man).toInt < ((pl).length : Int) := own_ix hm hL6
    refine Go.step (T' := T78) (f' := (mkF m 19 #[.val (.ref a), .val (.int man), .val (.int (wl.getD man.toNatClampNeg (0 : Int32)))] [(.int (-1 : Int32)), (.int (pl.getD man.toNatClampNeg (0 : Int32)))])) (fun t kt => ?_) ?_
    · show Steps p.tables e below (T75.setTop (mkF m 12 #[.val (.ref a), .val (.int man), .val (.int (wl.getD man.toNatClampNeg (0 : Int32)))] [])) _
      refine XS.aloadN X75.here hx rfl (hb hby d6_12) rfl rfl ?_
      show Steps p.tables e below (T75.setTop (mkF m 13 #[.val (.ref a), .val (.int man), .val (.int (wl.getD man.toNatClampNeg (0 : Int32)))] [(.ref a)])) _
      refine st78 _ ?_
      show Steps p.tables e below (T78.setTop (mkF m 16 #[.val (.ref a), .val (.int man), .val (.int (wl.getD man.toNatClampNeg (0 : Int32)))] [(.ref ap)])) _
      refine XS.iloadN X78.here hx rfl (hb hby d6_16) rfl ?_
      show Steps p.tables e below (T78.setTop (mkF m 17 #[.val (.ref a), .val (.int man), .val (.int (wl.getD man.toNatClampNeg (0 : Int32)))] [(.int man), (.ref ap)])) _
      refine ldI X78 hx hZ e78 F12 ix79.1 ix79.2 (g := (mkF m 17 #[.val (.ref a), .val (.int man), .val (.int (wl.getD man.toNatClampNeg (0 : Int32)))] [(.int man), (.ref ap)])) rfl rfl (hb hby d6_17) _ ?_
      show Steps p.tables e below (T78.setTop (mkF m 18 #[.val (.ref a), .val (.int man), .val (.int (wl.getD man.toNatClampNeg (0 : Int32)))] [(.int (pl.getD man.toNatClampNeg (0 : Int32)))])) _
      refine XS.iconst X78.here hx rfl (hb hby d6_18) ?_
      exact kt
    by_cases hc80 : (pl.getD man.toNatClampNeg (0 : Int32)) = (-1 : Int32)
    · rw [if_pos hc80] at hf
      refine Go.step (T' := T78) (f' := (mkF m 22 #[.val (.ref a), .val (.int man), .val (.int (wl.getD man.toNatClampNeg (0 : Int32)))] [])) (fun t kt => ?_) ?_
      · show Steps p.tables e below (T78.setTop (mkF m 19 #[.val (.ref a), .val (.int man), .val (.int (wl.getD man.toNatClampNeg (0 : Int32)))] [(.int (-1 : Int32)), (.int (pl.getD man.toNatClampNeg (0 : Int32)))])) _
        refine XS.icmpNo X78.here hx rfl (hb hby d6_19) rfl (teq hc80).2 ?_
        exact kt
      obtain ⟨T81, X81, e81, st81⟩ := getF X78 hx hZ hown (host := "") (Or.inl (hw _ (List.mem_of_getElem? (i := 16) rfl))) Via.refl e78 F2 (g := (mkF m 23 #[.val (.ref a), .val (.int man), .val (.int (wl.getD man.toNatClampNeg (0 : Int32)))] [(.ref a)])) rfl rfl (hb hby d6_23)
      obtain ⟨T82, X82, e82, st82⟩ := getF X81 hx hZ hown (host := "") (Or.inl (hw _ (List.mem_of_getElem? (i := 22) rfl))) Via.refl e81 F5 (g := (mkF m 28 #[.val (.ref a), .val (.int man), .val (.int (wl.getD man.toNatClampNeg (0 : Int32)))] [(.ref a), (.int (wl.getD man.toNatClampNeg (0 : Int32))), (.ref af)])) rfl rfl (hb hby d6_28)
      have ix83 : 0 ≤ (man).toInt ∧ (man).toInt < ((nl).length : Int) := own_ix hm hL5
      have ix84 : 0 ≤ ((wl.getD man.toNatClampNeg (0 : Int32))).toInt ∧ ((wl.getD man.toNatClampNeg (0 : Int32))).toInt < ((fl).length : Int) := own_ix hwo hL2
      obtain ⟨T85, h85, X85, e85, W85, V85, st85⟩ := putI X82 hx hZ e82 F8 ix84.1 ix84.2 (g := (mkF m 33 #[.val (.ref a), .val (.int man), .val (.int (wl.getD man.toNatClampNeg (0 : Int32)))] [(.int (nl.getD man.toNatClampNeg (0 : Int32))), (.int (wl.getD man.toNatClampNeg (0 : Int32))), (.ref af)])) rfl rfl (hb hby d6_33)
      have G86 : Exa Z h85 a "com/example/knotwise/knotwise/Placement" := F0.wr W85
      have G87 : Fld Z h85 a "com/example/knotwise/knotwise/Placement" "wives" "[I" (.ref aw) := F1.other W85 (Or.inl ne_a_af)
      have G88 : Fld Z h85 a "com/example/knotwise/knotwise/Placement" "first" "[I" (.ref af) := F2.other W85 (Or.inl ne_a_af)
      have G89 : Fld Z h85 a "com/example/knotwise/knotwise/Placement" "last" "[I" (.ref al) := F3.other W85 (Or.inl ne_a_af)
      have G90 : Fld Z h85 a "com/example/knotwise/knotwise/Placement" "count" "[I" (.ref ac) := F4.other W85 (Or.inl ne_a_af)
      have G91 : Fld Z h85 a "com/example/knotwise/knotwise/Placement" "next" "[I" (.ref an) := F5.other W85 (Or.inl ne_a_af)
      have G92 : Fld Z h85 a "com/example/knotwise/knotwise/Placement" "previous" "[I" (.ref ap) := F6.other W85 (Or.inl ne_a_af)
      have G93 : VA Z h85 aw .int (wl.map Value.int) := F7.other W85 ne_aw_af
      have G94 : VA Z h85 af .int ((fl.set (wl.getD man.toNatClampNeg (0 : Int32)).toNatClampNeg (nl.getD man.toNatClampNeg (0 : Int32))).map Value.int) := V85
      have G95 : VA Z h85 al .int (ll.map Value.int) := F9.other W85 (Ne.symm ne_af_al)
      have G96 : VA Z h85 ac .int (cl.map Value.int) := F10.other W85 (Ne.symm ne_af_ac)
      have G97 : VA Z h85 an .int (nl.map Value.int) := F11.other W85 (Ne.symm ne_af_an)
      have G98 : VA Z h85 ap .int (pl.map Value.int) := F12.other W85 (Ne.symm ne_af_ap)
      have N85 := Fr.snoc X85 N0 g_af
      have K85 : Keep h0 h85 [aw, af, al, ac, an, ap] := Keep.wr (Keep.refl h0 [aw, af, al, ac, an, ap]) W85 (Or.inl (List.mem_of_getElem? (i := 1) rfl))
      have Z85 : n0 ≤ h85.size := Nat.le_trans Z0 K85.1
      refine Go.step (T' := T85) (f' := (mkF m 54 #[.val (.ref a), .val (.int man), .val (.int (wl.getD man.toNatClampNeg (0 : Int32)))] [])) (fun t kt => ?_) ?_
      · show Steps p.tables e below (T78.setTop (mkF m 22 #[.val (.ref a), .val (.int man), .val (.int (wl.getD man.toNatClampNeg (0 : Int32)))] [])) _
        refine XS.aloadN X78.here hx rfl (hb hby d6_22) rfl rfl ?_
        show Steps p.tables e below (T78.setTop (mkF m 23 #[.val (.ref a), .val (.int man), .val (.int (wl.getD man.toNatClampNeg (0 : Int32)))] [(.ref a)])) _
        refine st81 _ ?_
        show Steps p.tables e below (T81.setTop (mkF m 26 #[.val (.ref a), .val (.int man), .val (.int (wl.getD man.toNatClampNeg (0 : Int32)))] [(.ref af)])) _
        refine XS.iloadN X81.here hx rfl (hb hby d6_26) rfl ?_
        show Steps p.tables e below (T81.setTop (mkF m 27 #[.val (.ref a), .val (.int man), .val (.int (wl.getD man.toNatClampNeg (0 : Int32)))] [(.int (wl.getD man.toNatClampNeg (0 : Int32))), (.ref af)])) _
        refine XS.aloadN X81.here hx rfl (hb hby d6_27) rfl rfl ?_
        show Steps p.tables e below (T81.setTop (mkF m 28 #[.val (.ref a), .val (.int man), .val (.int (wl.getD man.toNatClampNeg (0 : Int32)))] [(.ref a), (.int (wl.getD man.toNatClampNeg (0 : Int32))), (.ref af)])) _
        refine st82 _ ?_
        show Steps p.tables e below (T82.setTop (mkF m 31 #[.val (.ref a), .val (.int man), .val (.int (wl.getD man.toNatClampNeg (0 : Int32)))] [(.ref an), (.int (wl.getD man.toNatClampNeg (0 : Int32))), (.ref af)])) _
        refine XS.iloadN X82.here hx rfl (hb hby d6_31) rfl ?_
        show Steps p.tables e below (T82.setTop (mkF m 32 #[.val (.ref a), .val (.int man), .val (.int (wl.getD man.toNatClampNeg (0 : Int32)))] [(.int man), (.ref an), (.int (wl.getD man.toNatClampNeg (0 : Int32))), (.ref af)])) _
        refine ldI X82 hx hZ e82 F11 ix83.1 ix83.2 (g := (mkF m 32 #[.val (.ref a), .val (.int man), .val (.int (wl.getD man.toNatClampNeg (0 : Int32)))] [(.int man), (.ref an), (.int (wl.getD man.toNatClampNeg (0 : Int32))), (.ref af)])) rfl rfl (hb hby d6_32) _ ?_
        show Steps p.tables e below (T82.setTop (mkF m 33 #[.val (.ref a), .val (.int man), .val (.int (wl.getD man.toNatClampNeg (0 : Int32)))] [(.int (nl.getD man.toNatClampNeg (0 : Int32))), (.int (wl.getD man.toNatClampNeg (0 : Int32))), (.ref af)])) _
        refine st85 _ ?_
        show Steps p.tables e below (T85.setTop (mkF m 34 #[.val (.ref a), .val (.int man), .val (.int (wl.getD man.toNatClampNeg (0 : Int32)))] [])) _
        refine XS.goto X85.here hx rfl (pc0 := 34) (pc' := 54) rfl (hb hby d6_34) (by decide) (by decide) ?_
        exact kt
      exact S54 _ _ _ _ X85 (Nat.le_trans (Nat.le_refl 0) (by decide)) (Nat.le_trans (Nat.le_refl 0) (by decide)) h85 e85 N85 (wl.getD man.toNatClampNeg (0 : Int32)) (fl.set (wl.getD man.toNatClampNeg (0 : Int32)).toNatClampNeg (nl.getD man.toNatClampNeg (0 : Int32))) nl K85 G86 G87 G88 G89 G90 G91 G92 G93 G94 G95 G96 G97 G98 hwo (by rw [List.length_set]; exact hL2) hL5 hRn hf
    · rw [if_neg hc80] at hf
      refine Go.step (T' := T78) (f' := (mkF m 37 #[.val (.ref a), .val (.int man), .val (.int (wl.getD man.toNatClampNeg (0 : Int32)))] [])) (fun t kt => ?_) ?_
      · show Steps p.tables e below (T78.setTop (mkF m 19 #[.val (.ref a), .val (.int man), .val (.int (wl.getD man.toNatClampNeg (0 : Int32)))] [(.int (-1 : Int32)), (.int (pl.getD man.toNatClampNeg (0 : Int32)))])) _
        refine XS.icmpYes X78.here hx rfl (pc0 := 19) (pc' := 37) rfl (hb hby d6_19) rfl (feq hc80).2 (by decide) (by decide) ?_
        exact kt
      obtain ⟨T99, X99, e99, st99⟩ := getF X78 hx hZ hown (host := "") (Or.inl (hw _ (List.mem_of_getElem? (i := 22) rfl))) Via.refl e78 F5 (g := (mkF m 38 #[.val (.ref a), .val (.int man), .val (.int (wl.getD man.toNatClampNeg (0 : Int32)))] [(.ref a)])) rfl rfl (hb hby d6_38)
      obtain ⟨T100, X100, e100, st100⟩ := getF X99 hx hZ hown (host := "") (Or.inl (hw _ (List.mem_of_getElem? (i := 24) rfl))) Via.refl e99 F6 (g := (mkF m 42 #[.val (.ref a), .val (.int man), .val (.int (wl.getD man.toNatClampNeg (0 : Int32)))] [(.ref a), (.ref an)])) rfl rfl (hb hby d6_42)
      have ix101 : 0 ≤ (man).toInt ∧ (man).toInt < ((pl).length : Int) := own_ix hm hL6
      obtain ⟨T102, X102, e102, st102⟩ := getF X100 hx hZ hown (host := "") (Or.inl (hw _ (List.mem_of_getElem? (i := 22) rfl))) Via.refl e100 F5 (g := (mkF m 48 #[.val (.ref a), .val (.int man), .val (.int (wl.getD man.toNatClampNeg (0 : Int32)))] [(.ref a), (.int (pl.getD man.toNatClampNeg (0 : Int32))), (.ref an)])) rfl rfl (hb hby d6_48)
      have ix103 : 0 ≤ (man).toInt ∧ (man).toInt < ((nl).length : Int) := own_ix hm hL5
      have ix104 : 0 ≤ ((pl.getD man.toNatClampNeg (0 : Int32))).toInt ∧ ((pl.getD man.toNatClampNeg (0 : Int32))).toInt < ((nl).length : Int) := own_ix (own_pos1 (own_get hRp hm.1 (own_ix hm hL6).2) (by assumption)) hL5
      obtain ⟨T105, h105, X105, e105, W105, V105, st105⟩ := putI X102 hx hZ e102 F11 ix104.1 ix104.2 (g := (mkF m 53 #[.val (.ref a), .val (.int man), .val (.int (wl.getD man.toNatClampNeg (0 : Int32)))] [(.int (nl.getD man.toNatClampNeg (0 : Int32))), (.int (pl.getD man.toNatClampNeg (0 : Int32))), (.ref an)])) rfl rfl (hb hby d6_53)
      have G106 : Exa Z h105 a "com/example/knotwise/knotwise/Placement" := F0.wr W105
      have G107 : Fld Z h105 a "com/example/knotwise/knotwise/Placement" "wives" "[I" (.ref aw) := F1.other W105 (Or.inl ne_a_an)
      have G108 : Fld Z h105 a "com/example/knotwise/knotwise/Placement" "first" "[I" (.ref af) := F2.other W105 (Or.inl ne_a_an)
      have G109 : Fld Z h105 a "com/example/knotwise/knotwise/Placement" "last" "[I" (.ref al) := F3.other W105 (Or.inl ne_a_an)
      have G110 : Fld Z h105 a "com/example/knotwise/knotwise/Placement" "count" "[I" (.ref ac) := F4.other W105 (Or.inl ne_a_an)
      have G111 : Fld Z h105 a "com/example/knotwise/knotwise/Placement" "next" "[I" (.ref an) := F5.other W105 (Or.inl ne_a_an)
      have G112 : Fld Z h105 a "com/example/knotwise/knotwise/Placement" "previous" "[I" (.ref ap) := F6.other W105 (Or.inl ne_a_an)
      have G113 : VA Z h105 aw .int (wl.map Value.int) := F7.other W105 ne_aw_an
      have G114 : VA Z h105 af .int (fl.map Value.int) := F8.other W105 ne_af_an
      have G115 : VA Z h105 al .int (ll.map Value.int) := F9.other W105 ne_al_an
      have G116 : VA Z h105 ac .int (cl.map Value.int) := F10.other W105 ne_ac_an
      have G117 : VA Z h105 an .int ((nl.set (pl.getD man.toNatClampNeg (0 : Int32)).toNatClampNeg (nl.getD man.toNatClampNeg (0 : Int32))).map Value.int) := V105
      have G118 : VA Z h105 ap .int (pl.map Value.int) := F12.other W105 (Ne.symm ne_an_ap)
      have N105 := Fr.snoc X105 N0 g_an
      have K105 : Keep h0 h105 [aw, af, al, ac, an, ap] := Keep.wr (Keep.refl h0 [aw, af, al, ac, an, ap]) W105 (Or.inl (List.mem_of_getElem? (i := 4) rfl))
      have Z105 : n0 ≤ h105.size := Nat.le_trans Z0 K105.1
      refine Go.step (T' := T105) (f' := (mkF m 54 #[.val (.ref a), .val (.int man), .val (.int (wl.getD man.toNatClampNeg (0 : Int32)))] [])) (fun t kt => ?_) ?_
      · show Steps p.tables e below (T78.setTop (mkF m 37 #[.val (.ref a), .val (.int man), .val (.int (wl.getD man.toNatClampNeg (0 : Int32)))] [])) _
        refine XS.aloadN X78.here hx rfl (hb hby d6_37) rfl rfl ?_
        show Steps p.tables e below (T78.setTop (mkF m 38 #[.val (.ref a), .val (.int man), .val (.int (wl.getD man.toNatClampNeg (0 : Int32)))] [(.ref a)])) _
        refine st99 _ ?_
        show Steps p.tables e below (T99.setTop (mkF m 41 #[.val (.ref a), .val (.int man), .val (.int (wl.getD man.toNatClampNeg (0 : Int32)))] [(.ref an)])) _
        refine XS.aloadN X99.here hx rfl (hb hby d6_41) rfl rfl ?_
        show Steps p.tables e below (T99.setTop (mkF m 42 #[.val (.ref a), .val (.int man), .val (.int (wl.getD man.toNatClampNeg (0 : Int32)))] [(.ref a), (.ref an)])) _
        refine st100 _ ?_
        show Steps p.tables e below (T100.setTop (mkF m 45 #[.val (.ref a), .val (.int man), .val (.int (wl.getD man.toNatClampNeg (0 : Int32)))] [(.ref ap), (.ref an)])) _
        refine XS.iloadN X100.here hx rfl (hb hby d6_45) rfl ?_
        show Steps p.tables e below (T100.setTop (mkF m 46 #[.val (.ref a), .val (.int man), .val (.int (wl.getD man.toNatClampNeg (0 : Int32)))] [(.int man), (.ref ap), (.ref an)])) _
        refine ldI X100 hx hZ e100 F12 ix101.1 ix101.2 (g := (mkF m 46 #[.val (.ref a), .val (.int man), .val (.int (wl.getD man.toNatClampNeg (0 : Int32)))] [(.int man), (.ref ap), (.ref an)])) rfl rfl (hb hby d6_46) _ ?_
        show Steps p.tables e below (T100.setTop (mkF m 47 #[.val (.ref a), .val (.int man), .val (.int (wl.getD man.toNatClampNeg (0 : Int32)))] [(.int (pl.getD man.toNatClampNeg (0 : Int32))), (.ref an)])) _
        refine XS.aloadN X100.here hx rfl (hb hby d6_47) rfl rfl ?_
        show Steps p.tables e below (T100.setTop (mkF m 48 #[.val (.ref a), .val (.int man), .val (.int (wl.getD man.toNatClampNeg (0 : Int32)))] [(.ref a), (.int (pl.getD man.toNatClampNeg (0 : Int32))), (.ref an)])) _
        refine st102 _ ?_
        show Steps p.tables e below (T102.setTop (mkF m 51 #[.val (.ref a), .val (.int man), .val (.int (wl.getD man.toNatClampNeg (0 : Int32)))] [(.ref an), (.int (pl.getD man.toNatClampNeg (0 : Int32))), (.ref an)])) _
        refine XS.iloadN X102.here hx rfl (hb hby d6_51) rfl ?_
        show Steps p.tables e below (T102.setTop (mkF m 52 #[.val (.ref a), .val (.int man), .val (.int (wl.getD man.toNatClampNeg (0 : Int32)))] [(.int man), (.ref an), (.int (pl.getD man.toNatClampNeg (0 : Int32))), (.ref an)])) _
        refine ldI X102 hx hZ e102 F11 ix103.1 ix103.2 (g := (mkF m 52 #[.val (.ref a), .val (.int man), .val (.int (wl.getD man.toNatClampNeg (0 : Int32)))] [(.int man), (.ref an), (.int (pl.getD man.toNatClampNeg (0 : Int32))), (.ref an)])) rfl rfl (hb hby d6_52) _ ?_
        show Steps p.tables e below (T102.setTop (mkF m 53 #[.val (.ref a), .val (.int man), .val (.int (wl.getD man.toNatClampNeg (0 : Int32)))] [(.int (nl.getD man.toNatClampNeg (0 : Int32))), (.int (pl.getD man.toNatClampNeg (0 : Int32))), (.ref an)])) _
        refine st105 _ ?_
        exact kt
      exact S54 _ _ _ _ X105 (Nat.le_trans (Nat.le_refl 0) (by decide)) (Nat.le_trans (Nat.le_refl 0) (by decide)) h105 e105 N105 (wl.getD man.toNatClampNeg (0 : Int32)) fl (nl.set (pl.getD man.toNatClampNeg (0 : Int32)).toNatClampNeg (nl.getD man.toNatClampNeg (0 : Int32))) K105 G106 G107 G108 G109 G110 G111 G112 G113 G114 G115 G116 G117 G118 hwo hL2 (by rw [List.length_set]; exact hL5) (own_set hRn _ (own_get hRn hm.1 (own_ix hm hL5).2)) hf
theorem own_rinv (man : Int32) (wl fl ll cl nl pl : List Int32) (hI : own_I wl fl ll cl nl pl) (hm : 0 ≤ man.toInt ∧ man.toInt < (3 : Nat)) : own_I (rmvF man wl fl ll cl nl pl).1 (rmvF man wl fl ll cl nl pl).2.1 (rmvF man wl fl ll cl nl pl).2.2.1 (rmvF man wl fl ll cl nl pl).2.2.2.1 (rmvF man wl fl ll cl nl pl).2.2.2.2.1 (rmvF man wl fl ll cl nl pl).2.2.2.2.2 := by
  obtain ⟨hL1, hL2, hL3, hL4, hL5, hL6, hRw, hRl, hRn, hRp⟩ := id hI
  have gp := own_get hRp hm.1 (own_ix hm hL6).2
  have gn := own_get hRn hm.1 (own_ix hm hL5).2
  unfold rmvF
  split
  · exact hI
  · rename_i hw1
    split
    · unfold rmvF_54
      split
      · exact ⟨by simp [rmvF_96, hL1], by simp [rmvF_96, hL2], by simp [rmvF_96, hL3], by simp [rmvF_96, hL4], hL5, hL6, own_set hRw _ (own_m1 (by decide)), own_set hRl _ gp, hRn, hRp⟩
      · exact ⟨by simp [rmvF_96, hL1], by simp [rmvF_96, hL2], hL3, by simp [rmvF_96, hL4], hL5, by simp [rmvF_96, hL6], own_set hRw _ (own_m1 (by decide)), hRl, hRn, own_set hRp _ gp⟩
    · unfold rmvF_54
      split
      · exact ⟨by simp [rmvF_96, hL1], hL2, by simp [rmvF_96, hL3], by simp [rmvF_96, hL4], by simp [rmvF_96, hL5], hL6, own_set hRw _ (own_m1 (by decide)), own_set hRl _ gp, own_set hRn _ gn, hRp⟩
      · exact ⟨by simp [rmvF_96, hL1], hL2, hL3, by simp [rmvF_96, hL4], by simp [rmvF_96, hL5], by simp [rmvF_96, hL6], own_set hRw _ (own_m1 (by decide)), hRl, own_set hRn _ gn, own_set hRp _ gp⟩
theorem pd_1 : parseMethodDescriptor "(I)V" = some ⟨[.int], none⟩ := by decide +kernel
theorem d5_0 : decode prog_13_method_6_code 0 = .ok (.aload_n 0, 1) := by decide +kernel
theorem d5_1 : decode prog_13_method_6_code 1 = .ok (.iload_n 1, 1) := by decide +kernel
theorem d5_2 : decode prog_13_method_6_code 2 = .ok (.invokevirtual 42, 3) := by decide +kernel
theorem d5_5 : decode prog_13_method_6_code 5 = .ok (.aload_n 0, 1) := by decide +kernel
theorem d5_6 : decode prog_13_method_6_code 6 = .ok (.getfield 7, 3) := by decide +kernel
theorem d5_9 : decode prog_13_method_6_code 9 = .ok (.iload_n 1, 1) := by decide +kernel
theorem d5_10 : decode prog_13_method_6_code 10 = .ok (.iload_n 2, 1) := by decide +kernel
theorem d5_11 : decode prog_13_method_6_code 11 = .ok (.iastore, 1) := by decide +kernel
theorem d5_12 : decode prog_13_method_6_code 12 = .ok (.aload_n 0, 1) := by decide +kernel
theorem d5_13 : decode prog_13_method_6_code 13 = .ok (.getfield 33, 3) := by decide +kernel
theorem d5_16 : decode prog_13_method_6_code 16 = .ok (.iload_n 1, 1) := by decide +kernel
theorem d5_17 : decode prog_13_method_6_code 17 = .ok (.aload_n 0, 1) := by decide +kernel
theorem d5_18 : decode prog_13_method_6_code 18 = .ok (.getfield 24, 3) := by decide +kernel
theorem d5_21 : decode prog_13_method_6_code 21 = .ok (.iload_n 2, 1) := by decide +kernel
theorem d5_22 : decode prog_13_method_6_code 22 = .ok (.iaload, 1) := by decide +kernel
theorem d5_23 : decode prog_13_method_6_code 23 = .ok (.iastore, 1) := by decide +kernel
theorem d5_24 : decode prog_13_method_6_code 24 = .ok (.aload_n 0, 1) := by decide +kernel
theorem d5_25 : decode prog_13_method_6_code 25 = .ok (.getfield 30, 3) := by decide +kernel
theorem d5_28 : decode prog_13_method_6_code 28 = .ok (.iload_n 1, 1) := by decide +kernel
theorem d5_29 : decode prog_13_method_6_code 29 = .ok (.iconst (-1), 1) := by decide +kernel
theorem d5_30 : decode prog_13_method_6_code 30 = .ok (.iastore, 1) := by decide +kernel
theorem d5_31 : decode prog_13_method_6_code 31 = .ok (.aload_n 0, 1) := by decide +kernel
theorem d5_32 : decode prog_13_method_6_code 32 = .ok (.getfield 24, 3) := by decide +kernel
theorem d5_35 : decode prog_13_method_6_code 35 = .ok (.iload_n 2, 1) := by decide +kernel
theorem d5_36 : decode prog_13_method_6_code 36 = .ok (.iaload, 1) := by decide +kernel
theorem d5_37 : decode prog_13_method_6_code 37 = .ok (.iconst (-1), 1) := by decide +kernel
theorem d5_38 : decode prog_13_method_6_code 38 = .ok (.if_icmp .ne 13, 3) := by decide +kernel
theorem d5_41 : decode prog_13_method_6_code 41 = .ok (.aload_n 0, 1) := by decide +kernel
theorem d5_42 : decode prog_13_method_6_code 42 = .ok (.getfield 21, 3) := by decide +kernel
theorem d5_45 : decode prog_13_method_6_code 45 = .ok (.iload_n 2, 1) := by decide +kernel
theorem d5_46 : decode prog_13_method_6_code 46 = .ok (.iload_n 1, 1) := by decide +kernel
theorem d5_47 : decode prog_13_method_6_code 47 = .ok (.iastore, 1) := by decide +kernel
theorem d5_48 : decode prog_13_method_6_code 48 = .ok (.goto 15, 3) := by decide +kernel
theorem d5_51 : decode prog_13_method_6_code 51 = .ok (.aload_n 0, 1) := by decide +kernel
theorem d5_52 : decode prog_13_method_6_code 52 = .ok (.getfield 30, 3) := by decide +kernel
theorem d5_55 : decode prog_13_method_6_code 55 = .ok (.aload_n 0, 1) := by decide +kernel
theorem d5_56 : decode prog_13_method_6_code 56 = .ok (.getfield 24, 3) := by decide +kernel
theorem d5_59 : decode prog_13_method_6_code 59 = .ok (.iload_n 2, 1) := by decide +kernel
theorem d5_60 : decode prog_13_method_6_code 60 = .ok (.iaload, 1) := by decide +kernel
theorem d5_61 : decode prog_13_method_6_code 61 = .ok (.iload_n 1, 1) := by decide +kernel
theorem d5_62 : decode prog_13_method_6_code 62 = .ok (.iastore, 1) := by decide +kernel
theorem d5_63 : decode prog_13_method_6_code 63 = .ok (.aload_n 0, 1) := by decide +kernel
theorem d5_64 : decode prog_13_method_6_code 64 = .ok (.getfield 24, 3) := by decide +kernel
theorem d5_67 : decode prog_13_method_6_code 67 = .ok (.iload_n 2, 1) := by decide +kernel
theorem d5_68 : decode prog_13_method_6_code 68 = .ok (.iload_n 1, 1) := by decide +kernel
theorem d5_69 : decode prog_13_method_6_code 69 = .ok (.iastore, 1) := by decide +kernel
theorem d5_70 : decode prog_13_method_6_code 70 = .ok (.aload_n 0, 1) := by decide +kernel
theorem d5_71 : decode prog_13_method_6_code 71 = .ok (.getfield 27, 3) := by decide +kernel
theorem d5_74 : decode prog_13_method_6_code 74 = .ok (.iload_n 2, 1) := by decide +kernel
theorem d5_75 : decode prog_13_method_6_code 75 = .ok (.dup2, 1) := by decide +kernel
theorem d5_76 : decode prog_13_method_6_code 76 = .ok (.iaload, 1) := by decide +kernel
theorem d5_77 : decode prog_13_method_6_code 77 = .ok (.iconst 1, 1) := by decide +kernel
theorem d5_78 : decode prog_13_method_6_code 78 = .ok (.iadd, 1) := by decide +kernel
theorem d5_79 : decode prog_13_method_6_code 79 = .ok (.iastore, 1) := by decide +kernel
theorem d5_80 : decode prog_13_method_6_code 80 = .ok (.return_, 1) := by decide +kernel
theorem ef_plcF (m : MethodId) (x0 : Addr) (x1 : Int32) (x2 : Int32) : entryFrame m #[(.ref x0), (.int x1), (.int x2)] 3 = mkF m 0 #[.val (.ref x0), .val (.int x1), .val (.int x2)] [] := by first | (simp [entryFrame, mkF, argsToLocals, Value.category]; done) | rfl
def plcF_63 (man : Int32) (wom : Int32) (w2 : List Int32) (f2 : List Int32) (l2 : List Int32) (c2 : List Int32) (n2 : List Int32) (q2 : List Int32) : List Int32 × List Int32 × List Int32 × List Int32 × List Int32 × List Int32 := (w2, f2, (l2.set wom.toNatClampNeg man), (c2.set wom.toNatClampNeg ((c2.getD wom.toNatClampNeg (0 : Int32)) + (1 : Int32))), n2, q2)
def plcF_5 (man : Int32) (wom : Int32) (w1 : List Int32) (f1 : List Int32) (l1 : List Int32) (c1 : List Int32) (n1 : List Int32) (q1 : List Int32) : List Int32 × List Int32 × List Int32 × List Int32 × List Int32 × List Int32 := (if (l1.getD wom.toNatClampNeg (0 : Int32)) = (-1 : Int32) then (plcF_63 man wom (w1.set man.toNatClampNeg wom) (f1.set wom.toNatClampNeg man) l1 c1 (n1.set man.toNatClampNeg (-1 : Int32)) (q1.set man.toNatClampNeg (l1.getD wom.toNatClampNeg (0 : Int32)))) else (plcF_63 man wom (w1.set man.toNatClampNeg wom) f1 l1 c1 ((n1.set man.toNatClampNeg (-1 : Int32)).set (l1.getD wom.toNatClampNeg (0 : Int32)).toNatClampNeg man) (q1.set man.toNatClampNeg (l1.getD wom.toNatClampNeg (0 : Int32)))))
def plcF (man : Int32) (wom : Int32) (wl : List Int32) (fl : List Int32) (ll : List Int32) (cl : List Int32) (nl : List Int32) (pl : List Int32) : List Int32 × List Int32 × List Int32 × List Int32 × List Int32 × List Int32 := (plcF_5 man wom (rmvF man wl fl ll cl nl pl).1 (rmvF man wl fl ll cl nl pl).2.1 (rmvF man wl fl ll cl nl pl).2.2.1 (rmvF man wl fl ll cl nl pl).2.2.2.1 (rmvF man wl fl ll cl nl pl).2.2.2.2.1 (rmvF man wl fl ll cl nl pl).2.2.2.2.2)
def QplcF (Z : State) (a : Addr) (man : Int32) (wom : Int32) (aw : Addr) (af : Addr) (al : Addr) (ac : Addr) (an : Addr) (ap : Addr) (wl : List Int32) (fl : List Int32) (ll : List Int32) (cl : List Int32) (nl : List Int32) (pl : List Int32) (RES : List Int32 × List Int32 × List Int32 × List Int32 × List Int32 × List Int32) (h0 : Heap) (n0 : Nat) (v : Option Value) (h : Heap) (L : List Loc) : Prop := v = none ∧ Fr n0 L ∧ Keep h0 h [aw, af, al, ac, an, ap] ∧ VA Z h aw .int (RES.1.map Value.int) ∧ VA Z h af .int (RES.2.1.map Value.int) ∧ VA Z h al .int (RES.2.2.1.map Value.int) ∧ VA Z h ac .int (RES.2.2.2.1.map Value.int) ∧ VA Z h an .int (RES.2.2.2.2.1.map Value.int) ∧ VA Z h ap .int (RES.2.2.2.2.2.map Value.int)
set_option maxRecDepth 65536 in
set_option maxHeartbeats 40000000 in
theorem rm_plcF (l : Launch) (Z : State) (a0 : Array Value) (hw : ∀ d ∈ tables_1, d.before a0 Z = true) (ws : List Jvm.Cond) (a : Addr) (man : Int32) (wom : Int32) (aw : Addr) (af : Addr) (al : Addr) (ac : Addr) (an : Addr) (ap : Addr) (wl : List Int32) (fl : List Int32) (ll : List Int32) (cl : List Int32) (nl : List Int32) (pl : List Int32) (h0 : Heap) (n0 : Nat) (Z0 : n0 ≤ h0.size) (F0 : Exa Z h0 a "com/example/knotwise/knotwise/Placement") (F1 : Fld Z h0 a "com/example/knotwise/knotwise/Placement" "wives" "[I" (.ref aw)) (F2 : Fld Z h0 a "com/example/knotwise/knotwise/Placement" "first" "[I" (.ref af)) (F3 : Fld Z h0 a "com/example/knotwise/knotwise/Placement" "last" "[I" (.ref al)) (F4 : Fld Z h0 a "com/example/knotwise/knotwise/Placement" "count" "[I" (.ref ac)) (F5 : Fld Z h0 a "com/example/knotwise/knotwise/Placement" "next" "[I" (.ref an)) (F6 : Fld Z h0 a "com/example/knotwise/knotwise/Placement" "previous" "[I" (.ref ap)) (F7 : VA Z h0 aw .int (wl.map Value.int)) (F8 : VA Z h0 af .int (fl.map Value.int)) (F9 : VA Z h0 al .int (ll.map Value.int)) (F10 : VA Z h0 ac .int (cl.map Value.int)) (F11 : VA Z h0 an .int (nl.map Value.int)) (F12 : VA Z h0 ap .int (pl.map Value.int)) (g_aw : n0 ≤ aw) (g_af : n0 ≤ af) (g_al : n0 ≤ al) (g_ac : n0 ≤ ac) (g_an : n0 ≤ an) (g_ap : n0 ≤ ap) (ne_a_aw : a ≠ aw) (ne_a_af : a ≠ af) (ne_a_al : a ≠ al) (ne_a_ac : a ≠ ac) (ne_a_an : a ≠ an) (ne_a_ap : a ≠ ap) (ne_aw_af : aw ≠ af) (ne_aw_al : aw ≠ al) (ne_aw_ac : aw ≠ ac) (ne_aw_an : aw ≠ an) (ne_aw_ap : aw ≠ ap) (ne_af_al : af ≠ al) (ne_af_ac : af ≠ ac) (ne_af_an : af ≠ an) (ne_af_ap : af ≠ ap) (ne_al_ac : al ≠ ac) (ne_al_an : al ≠ an) (ne_al_ap : al ≠ ap) (ne_ac_an : ac ≠ an) (ne_ac_ap : ac ≠ ap) (ne_an_ap : an ≠ ap) (hI : own_I wl fl ll cl nl pl) (hm : 0 ≤ man.toInt ∧ man.toInt < (3 : Nat)) (hv2 : 0 ≤ wom.toInt ∧ wom.toInt < (2 : Nat)) :
    MetFree l (⟨"com/example/knotwise/knotwise/Placement", "place", "(II)V"⟩ : MethodName) (head1 (Jvm.Cond.code (⟨"com/example/knotwise/knotwise/Placement", "place", "(II)V"⟩ : MethodName) prog_13_method_6_code 3 none :: ws) ({ frames := 1, cells := 0, slots := 0, locals := 14 } : Room)) (fun A_ U => A_ = #[(.ref a), (.int man), (.int wom)] ∧ Z.Warmed39 U.vm ∧ U.heap = h0) (fun _ _ _ _ _ => True) (fun _ U o U' => ∃ v L, o = .returned v ∧ QplcF Z a man wom aw af al ac an ap wl fl ll cl nl pl (plcF man wom wl fl ll cl nl pl) h0 n0 v U'.heap L ∧ FrameEnd U o U' L ({ frames := 1, cells := 0, slots := 0, locals := 14 } : Room).cells ({ frames := 1, cells := 0, slots := 0, locals := 14 } : Room).slots) := by
  refine MetFree.of_bodySF (plainFor_of_name pn_1) hisR ?_
  intro p e s m args below meth c s₁ Bd hml0 hP hK
  obtain ⟨rfl, hZ, hh⟩ := hP
  have hx := Bd.exec
  have hby := Bd.bytes
  have hml : c.maxLocals = 3 := hml0
  have hown : s.vm.findClass "com/example/knotwise/knotwise/Placement" = some m.cls := findClass_of_methodNamed Bd.named
  have hnm := (name_of_methodNamed Bd.named Bd.method).1
  have X0 : Stand p l e ({ frames := 1, cells := 0, slots := 0, locals := 14 } : Room) s m #[(.ref a), (.int man), (.int wom)] below meth c s₁ [] 0 0 := Stand.of_body Bd
  have e0 : s₁.heap = h0 := by rw [← hh, Bd.state]; rfl
  have N0 := Fr.nil n0
  obtain ⟨RES, hf⟩ : ∃ z, z = plcF man wom wl fl ll cl nl pl := ⟨_, rfl⟩
  rw [← hf]
  rw [plcF] at hf
  suffices HGO : Go p e below s (QplcF Z a man wom aw af al ac an ap wl fl ll cl nl pl RES h0 n0) ({ frames := 1, cells := 0, slots := 0, locals := 14 } : Room).cells ({ frames := 1, cells := 0, slots := 0, locals := 14 } : Room).slots s₁ (mkF m 0 #[.val (.ref a), .val (.int man), .val (.int wom)] []) from Go.cast (ef_plcF m a man wom) HGO
  have S63 : ∀ (T : State) (locs : List Loc) (cells slots : Nat) (X : Stand p l e ({ frames := 1, cells := 0, slots := 0, locals := 14 } : Room) s m #[(.ref a), (.int man), (.int wom)] below meth c T locs cells slots) (hcl : cells ≤ 0) (hsl : slots ≤ 0) (h : Heap) (eT : T.heap = h) (N : Fr n0 locs)   (w2 : List Int32) (f2 : List Int32) (l2 : List Int32) (c2 : List Int32) (n2 : List Int32) (q2 : List Int32) (K : Keep h0 h [aw, af, al, ac, an, ap]) (fc0 : Exa Z h a "com/example/knotwise/knotwise/Placement") (fc1 : Fld Z h a "com/example/knotwise/knotwise/Placement" "wives" "[I" (.ref aw)) (fc2 : Fld Z h a "com/example/knotwise/knotwise/Placement" "first" "[I" (.ref af)) (fc3 : Fld Z h a "com/example/knotwise/knotwise/Placement" "last" "[I" (.ref al)) (fc4 : Fld Z h a "com/example/knotwise/knotwise/Placement" "count" "[I" (.ref ac)) (fc5 : Fld Z h a "com/example/knotwise/knotwise/Placement" "next" "[I" (.ref an)) (fc6 : Fld Z h a "com/example/knotwise/knotwise/Placement" "previous" "[I" (.ref ap)) (fc7 : VA Z h aw .int (w2.map Value.int)) (fc8 : VA Z h af .int (f2.map Value.int)) (fc9 : VA Z h al .int (l2.map Value.int)) (fc10 : VA Z h ac .int (c2.map Value.int)) (fc11 : VA Z h an .int (n2.map Value.int)) (fc12 : VA Z h ap .int (q2.map Value.int)) (hl2 : l2.length = 2) (hc2 : c2.length = 2) (hf : RES = plcF_63 man wom w2 f2 l2 c2 n2 q2), Go p e below s (QplcF Z a man wom aw af al ac an ap wl fl ll cl nl pl RES h0 n0) ({ frames := 1, cells := 0, slots := 0, locals := 14 } : Room).cells ({ frames := 1, cells := 0, slots := 0, locals := 14 } : Room).slots T (mkF m 63 #[.val (.ref a), .val (.int man), .val (.int wom)] []) := by
    intro T locs cells slots X hcl hsl h eT N w2 f2 l2 c2 n2 q2 K fc0 fc1 fc2 fc3 fc4 fc5 fc6 fc7 fc8 fc9 fc10 fc11 fc12 hl2 hc2 hf
    have Zh : n0 ≤ h.size := Nat.le_trans Z0 K.1
    rw [plcF_63] at hf
    obtain ⟨T1, X1, e1, st1⟩ := getF X hx hZ hown (host := "") (Or.inl (hw _ (List.mem_of_getElem? (i := 18) rfl))) Via.refl eT fc3 (g := (mkF m 64 #[.val (.ref a), .val (.int man), .val (.int wom)] [(.ref a)])) rfl rfl (hb hby d5_64)
    have ix2 : 0 ≤ (wom).toInt ∧ (wom).toInt < ((l2).length : Int) := own_ix hv2 hl2
    obtain ⟨T3, h3, X3, e3, W3, V3, st3⟩ := putI X1 hx hZ e1 fc9 ix2.1 ix2.2 (g := (mkF m 69 #[.val (.ref a), .val (.int man), .val (.int wom)] [(.int man), (.int wom), (.ref al)])) rfl rfl (hb hby d5_69)
    have G4 : Exa Z h3 a "com/example/knotwise/knotwise/Placement" := fc0.wr W3
    have G5 : Fld Z h3 a "com/example/knotwise/knotwise/Placement" "wives" "[I" (.ref aw) := fc1.other W3 (Or.inl ne_a_al)
    have G6 : Fld Z h3 a "com/example/knotwise/knotwise/Placement" "first" "[I" (.ref af) := fc2.other W3 (Or.inl ne_a_al)
    have G7 : Fld Z h3 a "com/example/knotwise/knotwise/Placement" "last" "[I" (.ref al) := fc3.other W3 (Or.inl ne_a_al)
    have G8 : Fld Z h3 a "com/example/knotwise/knotwise/Placement" "count" "[I" (.ref ac) := fc4.other W3 (Or.inl ne_a_al)
    have G9 : Fld Z h3 a "com/example/knotwise/knotwise/Placement" "next" "[I" (.ref an) := fc5.other W3 (Or.inl ne_a_al)
    have G10 : Fld Z h3 a "com/example/knotwise/knotwise/Placement" "previous" "[I" (.ref ap) := fc6.other W3 (Or.inl ne_a_al)
    have G11 : VA Z h3 aw .int (w2.map Value.int) := fc7.other W3 ne_aw_al
    have G12 : VA Z h3 af .int (f2.map Value.int) := fc8.other W3 ne_af_al
    have G13 : VA Z h3 al .int ((l2.set wom.toNatClampNeg man).map Value.int) := V3
    have G14 : VA Z h3 ac .int (c2.map Value.int) := fc10.other W3 (Ne.symm ne_al_ac)
    have G15 : VA Z h3 an .int (n2.map Value.int) := fc11.other W3 (Ne.symm ne_al_an)
    have G16 : VA Z h3 ap .int (q2.map Value.int) := fc12.other W3 (Ne.symm ne_al_ap)
    have N3 := Fr.snoc X3 N g_al
    have K3 : Keep h0 h3 [aw, af, al, ac, an, ap] := Keep.wr K W3 (Or.inl (List.mem_of_getElem? (i := 2) rfl))
    have Z3 : n0 ≤ h3.size := Nat.le_trans Z0 K3.1
    obtain ⟨T17, X17, e17, st17⟩ := getF X3 hx hZ hown (host := "") (Or.inl (hw _ (List.mem_of_getElem? (i := 20) rfl))) Via.refl e3 G8 (g := (mkF m 71 #[.val (.ref a), .val (.int man), .val (.int wom)] [(.ref a)])) rfl rfl (hb hby d5_71)
    have ix18 : 0 ≤ (wom).toInt ∧ (wom).toInt < ((c2).length : Int) := own_ix hv2 hc2
    have ix19 : 0 ≤ (wom).toInt ∧ (wom).toInt < ((c2).length : Int) := own_ix hv2 hc2
    obtain ⟨T20, h20, X20, e20, W20, V20, st20⟩ := putI X17 hx hZ e17 G14 ix19.1 ix19.2 (g := (mkF m 79 #[.val (.ref a), .val (.int man), .val (.int wom)] [(.int ((c2.getD wom.toNatClampNeg (0 : Int32)) + (1 : Int32))), (.int wom), (.ref ac)])) rfl rfl (hb hby d5_79)
    have G21 : Exa Z h20 a "com/example/knotwise/knotwise/Placement" := G4.wr W20
    have G22 : Fld Z h20 a "com/example/knotwise/knotwise/Placement" "wives" "[I" (.ref aw) := G5.other W20 (Or.inl ne_a_ac)
    have G23 : Fld Z h20 a "com/example/knotwise/knotwise/Placement" "first" "[I" (.ref af) := G6.other W20 (Or.inl ne_a_ac)
    have G24 : Fld Z h20 a "com/example/knotwise/knotwise/Placement" "last" "[I" (.ref al) := G7.other W20 (Or.inl ne_a_ac)
    have G25 : Fld Z h20 a "com/example/knotwise/knotwise/Placement" "count" "[I" (.ref ac) := G8.other W20 (Or.inl ne_a_ac)
    have G26 : Fld Z h20 a "com/example/knotwise/knotwise/Placement" "next" "[I" (.ref an) := G9.other W20 (Or.inl ne_a_ac)
    have G27 : Fld Z h20 a "com/example/knotwise/knotwise/Placement" "previous" "[I" (.ref ap) := G10.other W20 (Or.inl ne_a_ac)
    have G28 : VA Z h20 aw .int (w2.map Value.int) := G11.other W20 ne_aw_ac
    have G29 : VA Z h20 af .int (f2.map Value.int) := G12.other W20 ne_af_ac
    have G30 : VA Z h20 al .int ((l2.set wom.toNatClampNeg man).map Value.int) := G13.other W20 ne_al_ac
    have G31 : VA Z h20 ac .int ((c2.set wom.toNatClampNeg ((c2.getD wom.toNatClampNeg (0 : Int32)) + (1 : Int32))).map Value.int) := V20
    have G32 : VA Z h20 an .int (n2.map Value.int) := G15.other W20 (Ne.symm ne_ac_an)
    have G33 : VA Z h20 ap .int (q2.map Value.int) := G16.other W20 (Ne.symm ne_ac_ap)
    have N20 := Fr.snoc X20 N3 g_ac
    have K20 : Keep h0 h20 [aw, af, al, ac, an, ap] := Keep.wr K3 W20 (Or.inl (List.mem_of_getElem? (i := 3) rfl))
    have Z20 : n0 ≤ h20.size := Nat.le_trans Z0 K20.1
    refine Go.step (T' := T20) (f' := (mkF m 80 #[.val (.ref a), .val (.int man), .val (.int wom)] [])) (fun t kt => ?_) ?_
    · show Steps p.tables e below (T.setTop (mkF m 63 #[.val (.ref a), .val (.int man), .val (.int wom)] [])) _
      refine XS.aloadN X.here hx rfl (hb hby d5_63) rfl rfl ?_
      show Steps p.tables e below (T.setTop (mkF m 64 #[.val (.ref a), .val (.int man), .val (.int wom)] [(.ref a)])) _
      refine st1 _ ?_
      show Steps p.tables e below (T1.setTop (mkF m 67 #[.val (.ref a), .val (.int man), .val (.int wom)] [(.ref al)])) _
      refine XS.iloadN X1.here hx rfl (hb hby d5_67) rfl ?_
      show Steps p.tables e below (T1.setTop (mkF m 68 #[.val (.ref a), .val (.int man), .val (.int wom)] [(.int wom), (.ref al)])) _
      refine XS.iloadN X1.here hx rfl (hb hby d5_68) rfl ?_
      show Steps p.tables e below (T1.setTop (mkF m 69 #[.val (.ref a), .val (.int man), .val (.int wom)] [(.int man), (.int wom), (.ref al)])) _
      refine st3 _ ?_
      show Steps p.tables e below (T3.setTop (mkF m 70 #[.val (.ref a), .val (.int man), .val (.int wom)] [])) _
      refine XS.aloadN X3.here hx rfl (hb hby d5_70) rfl rfl ?_
      show Steps p.tables e below (T3.setTop (mkF m 71 #[.val (.ref a), .val (.int man), .val (.int wom)] [(.ref a)])) _
      refine st17 _ ?_
      show Steps p.tables e below (T17.setTop (mkF m 74 #[.val (.ref a), .val (.int man), .val (.int wom)] [(.ref ac)])) _
      refine XS.iloadN X17.here hx rfl (hb hby d5_74) rfl ?_
      show Steps p.tables e below (T17.setTop (mkF m 75 #[.val (.ref a), .val (.int man), .val (.int wom)] [(.int wom), (.ref ac)])) _
      refine XT.dup2 X17.here hx rfl (hb hby d5_75) rfl rfl rfl ?_
      show Steps p.tables e below (T17.setTop (mkF m 76 #[.val (.ref a), .val (.int man), .val (.int wom)] [(.int wom), (.ref ac), (.int wom), (.ref ac)])) _
      refine ldI X17 hx hZ e17 G14 ix18.1 ix18.2 (g := (mkF m 76 #[.val (.ref a), .val (.int man), .val (.int wom)] [(.int wom), (.ref ac), (.int wom), (.ref ac)])) rfl rfl (hb hby d5_76) _ ?_
      show Steps p.tables e below (T17.setTop (mkF m 77 #[.val (.ref a), .val (.int man), .val (.int wom)] [(.int (c2.getD wom.toNatClampNeg (0 : Int32))), (.int wom), (.ref ac)])) _
      refine XS.iconst X17.here hx rfl (hb hby d5_77) ?_
      show Steps p.tables e below (T17.setTop (mkF m 78 #[.val (.ref a), .val (.int man), .val (.int wom)] [(.int (1 : Int32)), (.int (c2.getD wom.toNatClampNeg (0 : Int32))), (.int wom), (.ref ac)])) _
      refine XS.iadd X17.here hx rfl (hb hby d5_78) rfl ?_
      show Steps p.tables e below (T17.setTop (mkF m 79 #[.val (.ref a), .val (.int man), .val (.int wom)] [(.int ((c2.getD wom.toNatClampNeg (0 : Int32)) + (1 : Int32))), (.int wom), (.ref ac)])) _
      refine st20 _ ?_
      exact kt
    refine Go.fin X20 (v := none) (fun _ => rfl) Bd.notSynchronized ?_ (Nat.le_trans hcl (by decide)) (Nat.le_trans hsl (by decide)) (fun fs hr => X20.returnOut hx Bd.returns (hb hby d5_80) hr)
    · show QplcF Z a man wom aw af al ac an ap wl fl ll cl nl pl RES h0 n0 _ T20.heap _
      rw [e20, hf]
      exact ⟨rfl, N20, K20, G28, G29, G30, G31, G32, G33⟩
  have S5 : ∀ (T : State) (locs : List Loc) (cells slots : Nat) (X : Stand p l e ({ frames := 1, cells := 0, slots := 0, locals := 14 } : Room) s m #[(.ref a), (.int man), (.int wom)] below meth c T locs cells slots) (hcl : cells ≤ 0) (hsl : slots ≤ 0) (h : Heap) (eT : T.heap = h) (N : Fr n0 locs)   (w1 : List Int32) (f1 : List Int32) (l1 : List Int32) (c1 : List Int32) (n1 : List Int32) (q1 : List Int32) (K : Keep h0 h [aw, af, al, ac, an, ap]) (fc0 : Exa Z h a "com/example/knotwise/knotwise/Placement") (fc1 : Fld Z h a "com/example/knotwise/knotwise/Placement" "wives" "[I" (.ref aw)) (fc2 : Fld Z h a "com/example/knotwise/knotwise/Placement" "first" "[I" (.ref af)) (fc3 : Fld Z h a "com/example/knotwise/knotwise/Placement" "last" "[I" (.ref al)) (fc4 : Fld Z h a "com/example/knotwise/knotwise/Placement" "count" "[I" (.ref ac)) (fc5 : Fld Z h a "com/example/knotwise/knotwise/Placement" "next" "[I" (.ref an)) (fc6 : Fld Z h a "com/example/knotwise/knotwise/Placement" "previous" "[I" (.ref ap)) (fc7 : VA Z h aw .int (w1.map Value.int)) (fc8 : VA Z h af .int (f1.map Value.int)) (fc9 : VA Z h al .int (l1.map Value.int)) (fc10 : VA Z h ac .int (c1.map Value.int)) (fc11 : VA Z h an .int (n1.map Value.int)) (fc12 : VA Z h ap .int (q1.map Value.int)) (hI1 : own_I w1 f1 l1 c1 n1 q1) (hf : RES = plcF_5 man wom w1 f1 l1 c1 n1 q1), Go p e below s (QplcF Z a man wom aw af al ac an ap wl fl ll cl nl pl RES h0 n0) ({ frames := 1, cells := 0, slots := 0, locals := 14 } : Room).cells ({ frames := 1, cells := 0, slots := 0, locals := 14 } : Room).slots T (mkF m 5 #[.val (.ref a), .val (.int man), .val (.int wom)] []) := by
    intro T locs cells slots X hcl hsl h eT N w1 f1 l1 c1 n1 q1 K fc0 fc1 fc2 fc3 fc4 fc5 fc6 fc7 fc8 fc9 fc10 fc11 fc12 hI1 hf
    have Zh : n0 ≤ h.size := Nat.le_trans Z0 K.1
    obtain ⟨hL1, hL2, hL3, hL4, hL5, hL6, hRw, hRl, hRn, hRp⟩ := id hI1
    rw [plcF_5] at hf
    obtain ⟨T34, X34, e34, st34⟩ := getF X hx hZ hown (host := "") (Or.inl (hw _ (List.mem_of_getElem? (i := 10) rfl))) Via.refl eT fc1 (g := (mkF m 6 #[.val (.ref a), .val (.int man), .val (.int wom)] [(.ref a)])) rfl rfl (hb hby d5_6)
    have ix35 : 0 ≤ (man).toInt ∧ (man).toInt < ((w1).length : Int) := own_ix hm hL1
    obtain ⟨T36, h36, X36, e36, W36, V36, st36⟩ := putI X34 hx hZ e34 fc7 ix35.1 ix35.2 (g := (mkF m 11 #[.val (.ref a), .val (.int man), .val (.int wom)] [(.int wom), (.int man), (.ref aw)])) rfl rfl (hb hby d5_11)
    have G37 : Exa Z h36 a "com/example/knotwise/knotwise/Placement" := fc0.wr W36
    have G38 : Fld Z h36 a "com/example/knotwise/knotwise/Placement" "wives" "[I" (.ref aw) := fc1.other W36 (Or.inl ne_a_aw)
    have G39 : Fld Z h36 a "com/example/knotwise/knotwise/Placement" "first" "[I" (.ref af) := fc2.other W36 (Or.inl ne_a_aw)
    have G40 : Fld Z h36 a "com/example/knotwise/knotwise/Placement" "last" "[I" (.ref al) := fc3.other W36 (Or.inl ne_a_aw)
    have G41 : Fld Z h36 a "com/example/knotwise/knotwise/Placement" "count" "[I" (.ref ac) := fc4.other W36 (Or.inl ne_a_aw)
    have G42 : Fld Z h36 a "com/example/knotwise/knotwise/Placement" "next" "[I" (.ref an) := fc5.other W36 (Or.inl ne_a_aw)
    have G43 : Fld Z h36 a "com/example/knotwise/knotwise/Placement" "previous" "[I" (.ref ap) := fc6.other W36 (Or.inl ne_a_aw)
    have G44 : VA Z h36 aw .int ((w1.set man.toNatClampNeg wom).map Value.int) := V36
    have G45 : VA Z h36 af .int (f1.map Value.int) := fc8.other W36 (Ne.symm ne_aw_af)
    have G46 : VA Z h36 al .int (l1.map Value.int) := fc9.other W36 (Ne.symm ne_aw_al)
    have G47 : VA Z h36 ac .int (c1.map Value.int) := fc10.other W36 (Ne.symm ne_aw_ac)
    have G48 : VA Z h36 an .int (n1.map Value.int) := fc11.other W36 (Ne.symm ne_aw_an)
    have G49 : VA Z h36 ap .int (q1.map Value.int) := fc12.other W36 (Ne.symm ne_aw_ap)
    have N36 := Fr.snoc X36 N g_aw
    have K36 : Keep h0 h36 [aw, af, al, ac, an, ap] := Keep.wr K W36 (Or.inl (List.mem_of_getElem? (i := 0) rfl))
    have Z36 : n0 ≤ h36.size := Nat.le_trans Z0 K36.1
    obtain ⟨T50, X50, e50, st50⟩ := getF X36 hx hZ hown (host := "") (Or.inl (hw _ (List.mem_of_getElem? (i := 24) rfl))) Via.refl e36 G43 (g := (mkF m 13 #[.val (.ref a), .val (.int man), .val (.int wom)] [(.ref a)])) rfl rfl (hb hby d5_13)
    obtain ⟨T51, X51, e51, st51⟩ := getF X50 hx hZ hown (host := "") (Or.inl (hw _ (List.mem_of_getElem? (i := 18) rfl))) Via.refl e50 G40 (g := (mkF m 18 #[.val (.ref a), .val (.int man), .val (.int wom)] [(.ref a), (.int man), (.ref ap)])) rfl rfl (hb hby d5_18)
    have ix52 : 0 ≤ (wom).toInt ∧ (wom).toInt < ((l1).length : Int) := own_ix hv2 hL3
    have ix53 : 0 ≤ (man).toInt ∧ (man).toInt < ((q1).length : Int) := own_ix hm hL6
    obtain ⟨T54, h54, X54, e54, W54, V54, st54⟩ := putI X51 hx hZ e51 G49 ix53.1 ix53.2 (g := (mkF m 23 #[.val (.ref a), .val (.int man), .val (.int wom)] [(.int (l1.getD wom.toNatClampNeg (0 : Int32))), (.int man), (.ref ap)])) rfl rfl (hb hby d5_23)
    have G55 : Exa Z h54 a "com/example/knotwise/knotwise/Placement" := G37.wr W54
    have G56 : Fld Z h54 a "com/example/knotwise/knotwise/Placement" "wives" "[I" (.ref aw) := G38.other W54 (Or.inl ne_a_ap)
    have G57 : Fld Z h54 a "com/example/knotwise/knotwise/Placement" "first" "[I" (.ref af) := G39.other W54 (Or.inl ne_a_ap)
    have G58 : Fld Z h54 a "com/example/knotwise/knotwise/Placement" "last" "[I" (.ref al) := G40.other W54 (Or.inl ne_a_ap)
    have G59 : Fld Z h54 a "com/example/knotwise/knotwise/Placement" "count" "[I" (.ref ac) := G41.other W54 (Or.inl ne_a_ap)
    have G60 : Fld Z h54 a "com/example/knotwise/knotwise/Placement" "next" "[I" (.ref an) := G42.other W54 (Or.inl ne_a_ap)
    have G61 : Fld Z h54 a "com/example/knotwise/knotwise/Placement" "previous" "[I" (.ref ap) := G43.other W54 (Or.inl ne_a_ap)
    have G62 : VA Z h54 aw .int ((w1.set man.toNatClampNeg wom).map Value.int) := G44.other W54 ne_aw_ap
    have G63 : VA Z h54 af .int (f1.map Value.int) := G45.other W54 ne_af_ap
    have G64 : VA Z h54 al .int (l1.map Value.int) := G46.other W54 ne_al_ap
    have G65 : VA Z h54 ac .int (c1.map Value.int) := G47.other W54 ne_ac_ap
    have G66 : VA Z h54 an .int (n1.map Value.int) := G48.other W54 ne_an_ap
    have G67 : VA Z h54 ap .int ((q1.set man.toNatClampNeg (l1.getD wom.toNatClampNeg (0 : Int32))).map Value.int) := V54
    have N54 := Fr.snoc X54 N36 g_ap
    have K54 : Keep h0 h54 [aw, af, al, ac, an, ap] := Keep.wr K36 W54 (Or.inl (List.mem_of_getElem? (i := 5) rfl))
    have Z54 : n0 ≤ h54.size := Nat.le_trans Z0 K54.1
    obtain ⟨T68, X68, e68, st68⟩ := getF X54 hx hZ hown (host := "") (Or.inl (hw _ (List.mem_of_getElem? (i := 22) rfl))) Via.refl e54 G60 (g := (mkF m 25 #[.val (.ref a), .val (.int man), .val (.int wom)] [(.ref a)])) rfl rfl (hb hby d5_25)
    have ix69 : 0 ≤ (man).toInt ∧ (man).toInt < ((n1).length : Int) := own_ix hm hL5
    obtain ⟨T70, h70, X70, e70, W70, V70, st70⟩ := putI X68 hx hZ e68 G66 ix69.1 ix69.2 (g := (mkF m 30 #[.val (.ref a), .val (.int man), .val (.int wom)] [(.int (-1 : Int32)), (.int man), (.ref an)])) rfl rfl (hb hby d5_30)
    have G71 : Exa Z h70 a "com/example/knotwise/knotwise/Placement" := G55.wr W70
    have G72 : Fld Z h70 a "com/example/knotwise/knotwise/Placement" "wives" "[I" (.ref aw) := G56.other W70 (Or.inl ne_a_an)
    have G73 : Fld Z h70 a "com/example/knotwise/knotwise/Placement" "first" "[I" (.ref af) := G57.other W70 (Or.inl ne_a_an)
    have G74 : Fld Z h70 a "com/example/knotwise/knotwise/Placement" "last" "[I" (.ref al) := G58.other W70 (Or.inl ne_a_an)
    have G75 : Fld Z h70 a "com/example/knotwise/knotwise/Placement" "count" "[I" (.ref ac) := G59.other W70 (Or.inl ne_a_an)
    have G76 : Fld Z h70 a "com/example/knotwise/knotwise/Placement" "next" "[I" (.ref an) := G60.other W70 (Or.inl ne_a_an)
    have G77 : Fld Z h70 a "com/example/knotwise/knotwise/Placement" "previous" "[I" (.ref ap) := G61.other W70 (Or.inl ne_a_an)
    have G78 : VA Z h70 aw .int ((w1.set man.toNatClampNeg wom).map Value.int) := G62.other W70 ne_aw_an
    have G79 : VA Z h70 af .int (f1.map Value.int) := G63.other W70 ne_af_an
    have G80 : VA Z h70 al .int (l1.map Value.int) := G64.other W70 ne_al_an
    have G81 : VA Z h70 ac .int (c1.map Value.int) := G65.other W70 ne_ac_an
    have G82 : VA Z h70 an .int ((n1.set man.toNatClampNeg (-1 : Int32)).map Value.int) := V70
    have G83 : VA Z h70 ap .int ((q1.set man.toNatClampNeg (l1.getD wom.toNatClampNeg (0 : Int32))).map Value.int) := G67.other W70 (Ne.symm ne_an_ap)
    have N70 := Fr.snoc X70 N54 g_an
    have K70 : Keep h0 h70 [aw, af, al, ac, an, ap] := Keep.wr K54 W70 (Or.inl (List.mem_of_getElem? (i := 4) rfl))
    have Z70 : n0 ≤ h70.size := Nat.le_trans Z0 K70.1
    obtain ⟨T84, X84, e84, st84⟩ := getF X70 hx hZ hown (host := "") (Or.inl (hw _ (List.mem_of_getElem? (i := 18) rfl))) Via.refl e70 G74 (g := (mkF m 32 #[.val (.ref a), .val (.int man), .val (.int wom)] [(.ref a)])) rfl rfl (hb hby d5_32)
    have ix85 : 0 ≤ (wom).toInt ∧ (wom).toInt < ((l1).length : Int) := own_ix hv2 hL3
    refine Go.step (T' := T84) (f' := (mkF m 38 #[.val (.ref a), .val (.int man), .val (.int wom)] [(.int (-1 : Int32)), (.int (l1.getD wom.toNatClampNeg (0 : Int32)))])) (fun t kt => ?_) ?_
    · show Steps p.tables e below (T.setTop (mkF m 5 #[.val (.ref a), .val (.int man), .val (.int wom)] [])) _
      refine XS.aloadN X.here hx rfl (hb hby d5_5) rfl rfl ?_
      show Steps p.tables e below (T.setTop (mkF m 6 #[.val (.ref a), .val (.int man), .val (.int wom)] [(.ref a)])) _
      refine st34 _ ?_
      show Steps p.tables e below (T34.setTop (mkF m 9 #[.val (.ref a), .val (.int man), .val (.int wom)] [(.ref aw)])) _
      refine XS.iloadN X34.here hx rfl (hb hby d5_9) rfl ?_
      show Steps p.tables e below (T34.setTop (mkF m 10 #[.val (.ref a), .val (.int man), .val (.int wom)] [(.int man), (.ref aw)])) _
      refine XS.iloadN X34.here hx rfl (hb hby d5_10) rfl ?_
      show Steps p.tables e below (T34.setTop (mkF m 11 #[.val (.ref a), .val (.int man), .val (.int wom)] [(.int wom), (.int man), (.ref aw)])) _
      refine st36 _ ?_
      show Steps p.tables e below (T36.setTop (mkF m 12 #[.val (.ref a), .val (.int man), .val (.int wom)] [])) _
      refine XS.aloadN X36.here hx rfl (hb hby d5_12) rfl rfl ?_
      show Steps p.tables e below (T36.setTop (mkF m 13 #[.val (.ref a), .val (.int man), .val (.int wom)] [(.ref a)])) _
      refine st50 _ ?_
      show Steps p.tables e below (T50.setTop (mkF m 16 #[.val (.ref a), .val (.int man), .val (.int wom)] [(.ref ap)])) _
      refine XS.iloadN X50.here hx rfl (hb hby d5_16) rfl ?_
      show Steps p.tables e below (T50.setTop (mkF m 17 #[.val (.ref a), .val (.int man), .val (.int wom)] [(.int man), (.ref ap)])) _
      refine XS.aloadN X50.here hx rfl (hb hby d5_17) rfl rfl ?_
      show Steps p.tables e below (T50.setTop (mkF m 18 #[.val (.ref a), .val (.int man), .val (.int wom)] [(.ref a), (.int man), (.ref ap)])) _
      refine st51 _ ?_
      show Steps p.tables e below (T51.setTop (mkF m 21 #[.val (.ref a), .val (.int man), .val (.int wom)] [(.ref al), (.int man), (.ref ap)])) _
      refine XS.iloadN X51.here hx rfl (hb hby d5_21) rfl ?_
      show Steps p.tables e below (T51.setTop (mkF m 22 #[.val (.ref a), .val (.int man), .val (.int wom)] [(.int wom), (.ref al), (.int man), (.ref ap)])) _
      refine ldI X51 hx hZ e51 G46 ix52.1 ix52.2 (g := (mkF m 22 #[.val (.ref a), .val (.int man), .val (.int wom)] [(.int wom), (.ref al), (.int man), (.ref ap)])) rfl rfl (hb hby d5_22) _ ?_
      show Steps p.tables e below (T51.setTop (mkF m 23 #[.val (.ref a), .val (.int man), .val (.int wom)] [(.int (l1.getD wom.toNatClampNeg (0 : Int32))), (.int man), (.ref ap)])) _
      refine st54 _ ?_
      show Steps p.tables e below (T54.setTop (mkF m 24 #[.val (.ref a), .val (.int man), .val (.int wom)] [])) _
      refine XS.aloadN X54.here hx rfl (hb hby d5_24) rfl rfl ?_
      show Steps p.tables e below (T54.setTop (mkF m 25 #[.val (.ref a), .val (.int man), .val (.int wom)] [(.ref a)])) _
      refine st68 _ ?_
      show Steps p.tables e below (T68.setTop (mkF m 28 #[.val (.ref a), .val (.int man), .val (.int wom)] [(.ref an)])) _
      refine XS.iloadN X68.here hx rfl (hb hby d5_28) rfl ?_
      show Steps p.tables e below (T68.setTop (mkF m 29 #[.val (.ref a), .val (.int man), .val (.int wom)] [(.int man), (.ref an)])) _
      refine XS.iconst X68.here hx rfl (hb hby d5_29) ?_
      show Steps p.tables e below (T68.setTop (mkF m 30 #[.val (.ref a), .val (.int man), .val (.int wom)] [(.int (-1 : Int32)), (.int man), (.ref an)])) _
      refine st70 _ ?_
      show Steps p.tables e below (T70.setTop (mkF m 31 #[.val (.ref a), .val (.int man), .val (.int wom)] [])) _
      refine XS.aloadN X70.here hx rfl (hb hby d5_31) rfl rfl ?_
      show Steps p.tables e below (T70.setTop (mkF m 32 #[.val (.ref a), .val (.int man), .val (.int wom)] [(.ref a)])) _
      refine st84 _ ?_
      show Steps p.tables e below (T84.setTop (mkF m 35 #[.val (.ref a), .val (.int man), .val (.int wom)] [(.ref al)])) _
      refine XS.iloadN X84.here hx rfl (hb hby d5_35) rfl ?_
      show Steps p.tables e below (T84.setTop (mkF m 36 #[.val (.ref a), .val (.int man), .val (.int wom)] [(.int wom), (.ref al)])) _
      refine ldI X84 hx hZ e84 G80 ix85.1 ix85.2 (g := (mkF m 36 #[.val (.ref a), .val (.int man), .val (.int wom)] [(.int wom), (.ref al)])) rfl rfl (hb hby d5_36) _ ?_
      show Steps p.tables e below (T84.setTop (mkF m 37 #[.val (.ref a), .val (.int man), .val (.int wom)] [(.int (l1.getD wom.toNatClampNeg (0 : Int32)))])) _
      refine XS.iconst X84.here hx rfl (hb hby d5_37) ?_
      exact kt
    by_cases hc86 : (l1.getD wom.toNatClampNeg (0 : Int32)) = (-1 : Int32)
    · rw [if_pos hc86] at hf
      refine Go.step (T' := T84) (f' := (mkF m 41 #[.val (.ref a), .val (.int man), .val (.int wom)] [])) (fun t kt => ?_) ?_
      · show Steps p.tables e below (T84.setTop (mkF m 38 #[.val (.ref a), .val (.int man), .val (.int wom)] [(.int (-1 : Int32)), (.int (l1.getD wom.toNatClampNeg (0 : Int32)))])) _
        refine XS.icmpNo X84.here hx rfl (hb hby d5_38) rfl (teq hc86).2 ?_
        exact kt
      obtain ⟨T87, X87, e87, st87⟩ := getF X84 hx hZ hown (host := "") (Or.inl (hw _ (List.mem_of_getElem? (i := 16) rfl))) Via.refl e84 G73 (g := (mkF m 42 #[.val (.ref a), .val (.int man), .val (.int wom)] [(.ref a)])) rfl rfl (hb hby d5_42)
      have ix88 : 0 ≤ (wom).toInt ∧ (wom).toInt < ((f1).length : Int) := own_ix hv2 hL2
      obtain ⟨T89, h89, X89, e89, W89, V89, st89⟩ := putI X87 hx hZ e87 G79 ix88.1 ix88.2 (g := (mkF m 47 #[.val (.ref a), .val (.int man), .val (.int wom)] [(.int man), (.int wom), (.ref af)])) rfl rfl (hb hby d5_47)
      have G90 : Exa Z h89 a "com/example/knotwise/knotwise/Placement" := G71.wr W89
      have G91 : Fld Z h89 a "com/example/knotwise/knotwise/Placement" "wives" "[I" (.ref aw) := G72.other W89 (Or.inl ne_a_af)
      have G92 : Fld Z h89 a "com/example/knotwise/knotwise/Placement" "first" "[I" (.ref af) := G73.other W89 (Or.inl ne_a_af)
      have G93 : Fld Z h89 a "com/example/knotwise/knotwise/Placement" "last" "[I" (.ref al) := G74.other W89 (Or.inl ne_a_af)
      have G94 : Fld Z h89 a "com/example/knotwise/knotwise/Placement" "count" "[I" (.ref ac) := G75.other W89 (Or.inl ne_a_af)
      have G95 : Fld Z h89 a "com/example/knotwise/knotwise/Placement" "next" "[I" (.ref an) := G76.other W89 (Or.inl ne_a_af)
      have G96 : Fld Z h89 a "com/example/knotwise/knotwise/Placement" "previous" "[I" (.ref ap) := G77.other W89 (Or.inl ne_a_af)
      have G97 : VA Z h89 aw .int ((w1.set man.toNatClampNeg wom).map Value.int) := G78.other W89 ne_aw_af
      have G98 : VA Z h89 af .int ((f1.set wom.toNatClampNeg man).map Value.int) := V89
      have G99 : VA Z h89 al .int (l1.map Value.int) := G80.other W89 (Ne.symm ne_af_al)
      have G100 : VA Z h89 ac .int (c1.map Value.int) := G81.other W89 (Ne.symm ne_af_ac)
      have G101 : VA Z h89 an .int ((n1.set man.toNatClampNeg (-1 : Int32)).map Value.int) := G82.other W89 (Ne.symm ne_af_an)
      have G102 : VA Z h89 ap .int ((q1.set man.toNatClampNeg (l1.getD wom.toNatClampNeg (0 : Int32))).map Value.int) := G83.other W89 (Ne.symm ne_af_ap)
      have N89 := Fr.snoc X89 N70 g_af
      have K89 : Keep h0 h89 [aw, af, al, ac, an, ap] := Keep.wr K70 W89 (Or.inl (List.mem_of_getElem? (i := 1) rfl))
      have Z89 : n0 ≤ h89.size := Nat.le_trans Z0 K89.1
      refine Go.step (T' := T89) (f' := (mkF m 63 #[.val (.ref a), .val (.int man), .val (.int wom)] [])) (fun t kt => ?_) ?_
      · show Steps p.tables e below (T84.setTop (mkF m 41 #[.val (.ref a), .val (.int man), .val (.int wom)] [])) _
        refine XS.aloadN X84.here hx rfl (hb hby d5_41) rfl rfl ?_
        show Steps p.tables e below (T84.setTop (mkF m 42 #[.val (.ref a), .val (.int man), .val (.int wom)] [(.ref a)])) _
        refine st87 _ ?_
        show Steps p.tables e below (T87.setTop (mkF m 45 #[.val (.ref a), .val (.int man), .val (.int wom)] [(.ref af)])) _
        refine XS.iloadN X87.here hx rfl (hb hby d5_45) rfl ?_
        show Steps p.tables e below (T87.setTop (mkF m 46 #[.val (.ref a), .val (.int man), .val (.int wom)] [(.int wom), (.ref af)])) _
        refine XS.iloadN X87.here hx rfl (hb hby d5_46) rfl ?_
        show Steps p.tables e below (T87.setTop (mkF m 47 #[.val (.ref a), .val (.int man), .val (.int wom)] [(.int man), (.int wom), (.ref af)])) _
        refine st89 _ ?_
        show Steps p.tables e below (T89.setTop (mkF m 48 #[.val (.ref a), .val (.int man), .val (.int wom)] [])) _
        refine XS.goto X89.here hx rfl (pc0 := 48) (pc' := 63) rfl (hb hby d5_48) (by decide) (by decide) ?_
        exact kt
      exact S63 _ _ _ _ X89 (Nat.le_trans hcl (by decide)) (Nat.le_trans hsl (by decide)) h89 e89 N89 (w1.set man.toNatClampNeg wom) (f1.set wom.toNatClampNeg man) l1 c1 (n1.set man.toNatClampNeg (-1 : Int32)) (q1.set man.toNatClampNeg (l1.getD wom.toNatClampNeg (0 : Int32))) K89 G90 G91 G92 G93 G94 G95 G96 G97 G98 G99 G100 G101 G102 hL3 hL4 hf
    · rw [if_neg hc86] at hf
      refine Go.step (T' := T84) (f' := (mkF m 51 #[.val (.ref a), .val (.int man), .val (.int wom)] [])) (fun t kt => ?_) ?_
      · show Steps p.tables e below (T84.setTop (mkF m 38 #[.val (.ref a), .val (.int man), .val (.int wom)] [(.int (-1 : Int32)), (.int (l1.getD wom.toNatClampNeg (0 : Int32)))])) _
        refine XS.icmpYes X84.here hx rfl (pc0 := 38) (pc' := 51) rfl (hb hby d5_38) rfl (feq hc86).2 (by decide) (by decide) ?_
        exact kt
      obtain ⟨T103, X103, e103, st103⟩ := getF X84 hx hZ hown (host := "") (Or.inl (hw _ (List.mem_of_getElem? (i := 22) rfl))) Via.refl e84 G76 (g := (mkF m 52 #[.val (.ref a), .val (.int man), .val (.int wom)] [(.ref a)])) rfl rfl (hb hby d5_52)
      obtain ⟨T104, X104, e104, st104⟩ := getF X103 hx hZ hown (host := "") (Or.inl (hw _ (List.mem_of_getElem? (i := 18) rfl))) Via.refl e103 G74 (g := (mkF m 56 #[.val (.ref a), .val (.int man), .val (.int wom)] [(.ref a), (.ref an)])) rfl rfl (hb hby d5_56)
      have ix105 : 0 ≤ (wom).toInt ∧ (wom).toInt < ((l1).length : Int) := own_ix hv2 hL3
      have ix106 : 0 ≤ ((l1.getD wom.toNatClampNeg (0 : Int32))).toInt ∧ ((l1.getD wom.toNatClampNeg (0 : Int32))).toInt < (((n1.set man.toNatClampNeg (-1 : Int32))).length : Int) := own_ixs (own_pos1 (own_get hRl hv2.1 (own_ix hv2 hL3).2) (by assumption)) hL5
      obtain ⟨T107, h107, X107, e107, W107, V107, st107⟩ := putI X104 hx hZ e104 G82 ix106.1 ix106.2 (g := (mkF m 62 #[.val (.ref a), .val (.int man), .val (.int wom)] [(.int man), (.int (l1.getD wom.toNatClampNeg (0 : Int32))), (.ref an)])) rfl rfl (hb hby d5_62)
      have G108 : Exa Z h107 a "com/example/knotwise/knotwise/Placement" := G71.wr W107
      have G109 : Fld Z h107 a "com/example/knotwise/knotwise/Placement" "wives" "[I" (.ref aw) := G72.other W107 (Or.inl ne_a_an)
      have G110 : Fld Z h107 a "com/example/knotwise/knotwise/Placement" "first" "[I" (.ref af) := G73.other W107 (Or.inl ne_a_an)
      have G111 : Fld Z h107 a "com/example/knotwise/knotwise/Placement" "last" "[I" (.ref al) := G74.other W107 (Or.inl ne_a_an)
      have G112 : Fld Z h107 a "com/example/knotwise/knotwise/Placement" "count" "[I" (.ref ac) := G75.other W107 (Or.inl ne_a_an)
      have G113 : Fld Z h107 a "com/example/knotwise/knotwise/Placement" "next" "[I" (.ref an) := G76.other W107 (Or.inl ne_a_an)
      have G114 : Fld Z h107 a "com/example/knotwise/knotwise/Placement" "previous" "[I" (.ref ap) := G77.other W107 (Or.inl ne_a_an)
      have G115 : VA Z h107 aw .int ((w1.set man.toNatClampNeg wom).map Value.int) := G78.other W107 ne_aw_an
      have G116 : VA Z h107 af .int (f1.map Value.int) := G79.other W107 ne_af_an
      have G117 : VA Z h107 al .int (l1.map Value.int) := G80.other W107 ne_al_an
      have G118 : VA Z h107 ac .int (c1.map Value.int) := G81.other W107 ne_ac_an
      have G119 : VA Z h107 an .int (((n1.set man.toNatClampNeg (-1 : Int32)).set (l1.getD wom.toNatClampNeg (0 : Int32)).toNatClampNeg man).map Value.int) := V107
      have G120 : VA Z h107 ap .int ((q1.set man.toNatClampNeg (l1.getD wom.toNatClampNeg (0 : Int32))).map Value.int) := G83.other W107 (Ne.symm ne_an_ap)
      have N107 := Fr.snoc X107 N70 g_an
      have K107 : Keep h0 h107 [aw, af, al, ac, an, ap] := Keep.wr K70 W107 (Or.inl (List.mem_of_getElem? (i := 4) rfl))
      have Z107 : n0 ≤ h107.size := Nat.le_trans Z0 K107.1
      refine Go.step (T' := T107) (f' := (mkF m 63 #[.val (.ref a), .val (.int man), .val (.int wom)] [])) (fun t kt => ?_) ?_
      · show Steps p.tables e below (T84.setTop (mkF m 51 #[.val (.ref a), .val (.int man), .val (.int wom)] [])) _
        refine XS.aloadN X84.here hx rfl (hb hby d5_51) rfl rfl ?_
        show Steps p.tables e below (T84.setTop (mkF m 52 #[.val (.ref a), .val (.int man), .val (.int wom)] [(.ref a)])) _
        refine st103 _ ?_
        show Steps p.tables e below (T103.setTop (mkF m 55 #[.val (.ref a), .val (.int man), .val (.int wom)] [(.ref an)])) _
        refine XS.aloadN X103.here hx rfl (hb hby d5_55) rfl rfl ?_
        show Steps p.tables e below (T103.setTop (mkF m 56 #[.val (.ref a), .val (.int man), .val (.int wom)] [(.ref a), (.ref an)])) _
        refine st104 _ ?_
        show Steps p.tables e below (T104.setTop (mkF m 59 #[.val (.ref a), .val (.int man), .val (.int wom)] [(.ref al), (.ref an)])) _
        refine XS.iloadN X104.here hx rfl (hb hby d5_59) rfl ?_
        show Steps p.tables e below (T104.setTop (mkF m 60 #[.val (.ref a), .val (.int man), .val (.int wom)] [(.int wom), (.ref al), (.ref an)])) _
        refine ldI X104 hx hZ e104 G80 ix105.1 ix105.2 (g := (mkF m 60 #[.val (.ref a), .val (.int man), .val (.int wom)] [(.int wom), (.ref al), (.ref an)])) rfl rfl (hb hby d5_60) _ ?_
        show Steps p.tables e below (T104.setTop (mkF m 61 #[.val (.ref a), .val (.int man), .val (.int wom)] [(.int (l1.getD wom.toNatClampNeg (0 : Int32))), (.ref an)])) _
        refine XS.iloadN X104.here hx rfl (hb hby d5_61) rfl ?_
        show Steps p.tables e below (T104.setTop (mkF m 62 #[.val (.ref a), .val (.int man), .val (.int wom)] [(.int man), (.int (l1.getD wom.toNatClampNeg (0 : Int32))), (.ref an)])) _
        refine st107 _ ?_
        exact kt
      exact S63 _ _ _ _ X107 (Nat.le_trans hcl (by decide)) (Nat.le_trans hsl (by decide)) h107 e107 N107 (w1.set man.toNatClampNeg wom) f1 l1 c1 ((n1.set man.toNatClampNeg (-1 : Int32)).set (l1.getD wom.toNatClampNeg (0 : Int32)).toNatClampNeg man) (q1.set man.toNatClampNeg (l1.getD wom.toNatClampNeg (0 : Int32))) K107 G108 G109 G110 G111 G112 G113 G114 G115 G116 G117 G118 G119 G120 hL3 hL4 hf
  obtain ⟨cq121, kq121, q121a, q121b, q121c⟩ := isOf hZ e0 (F0 : Exa Z h0 a "com/example/knotwise/knotwise/Placement")
  obtain ⟨_, _, ⟨T121, L121, k121, n121⟩, -, X121, ⟨Lc121, hQ121, l121, y121, z121⟩, st121⟩ := X0.virtualBack hx (y := (⟨"com/example/knotwise/knotwise/Placement", "remove", "(I)V"⟩ : MethodName)) (z := (⟨"com/example/knotwise/knotwise/Placement", "remove", "(I)V"⟩ : MethodName)) hown (mvT hZ (hw _ (List.mem_of_getElem? (i := 36) rfl))) (mvT hZ (hw _ (List.mem_of_getElem? (i := 37) rfl))) (notFace_of_selects (args := #[]) (mvT hZ (hw _ (List.mem_of_getElem? (i := 39) rfl)))) (mvT hZ (hw _ (List.mem_of_getElem? (i := 39) rfl))) (mvT hZ (hw _ (List.mem_of_getElem? (i := 38) rfl))) (by decide) (backOf (W := 0) (rm_rmvF l Z a0 hw [] a man aw af al ac an ap wl fl ll cl nl pl h0 n0 Z0 F0 F1 F2 F3 F4 F5 F6 F7 F8 F9 F10 F11 F12 g_aw g_af g_al g_ac g_an g_ap ne_a_aw ne_a_af ne_a_al ne_a_ac ne_a_an ne_a_ap ne_aw_af ne_aw_al ne_aw_ac ne_aw_an ne_aw_ap ne_af_al ne_af_ac ne_af_an ne_af_ap ne_al_ac ne_al_an ne_al_ap ne_ac_an ne_ac_ap ne_an_ap hI hm) hZ (hw _ (List.mem_of_getElem? (i := 40) rfl)) (hw _ (List.mem_of_getElem? (i := 2) rfl)) (by decide) (by decide)) q121a q121c (g := (mkF m 2 #[.val (.ref a), .val (.int man), .val (.int wom)] [(.int man), (.ref a)])) rfl (by rw [hml]; rfl) (Steps.refl _) (argsL := [(.int man)]) (rest := []) (lenOf pd_1 rfl) rfl (by show 2 * 0 + _ ≤ _; exact Nat.le_of_eq rfl) (hb hby d5_2) (fun _ _ => ⟨rfl, e0, (Nat.le_trans (Nat.add_le_add_right (Nat.le_refl 0) 0) (by decide)), (Nat.le_trans (Nat.add_le_add_right (Nat.le_refl 0) 0) (by decide))⟩)
  dsimp only [Pt.U, Pt.locs, Pt.cells, Pt.slots] at X121 l121 y121 z121 st121 hQ121
  subst l121 y121 z121
  obtain ⟨rfl, N121q, Kq121, pf121_0, pf121_1, pf121_2, pf121_3, pf121_4, pf121_5⟩ := hQ121
  have G122 : Exa Z T121.heap a "com/example/knotwise/knotwise/Placement" := Exa.keep F0 Kq121
  have G123 : Fld Z T121.heap a "com/example/knotwise/knotwise/Placement" "wives" "[I" (.ref aw) := F1.keep Kq121 (ninS ne_a_aw (ninS ne_a_af (ninS ne_a_al (ninS ne_a_ac (ninS ne_a_an (ninS ne_a_ap nin0))))))
  have G124 : Fld Z T121.heap a "com/example/knotwise/knotwise/Placement" "first" "[I" (.ref af) := F2.keep Kq121 (ninS ne_a_aw (ninS ne_a_af (ninS ne_a_al (ninS ne_a_ac (ninS ne_a_an (ninS ne_a_ap nin0))))))
  have G125 : Fld Z T121.heap a "com/example/knotwise/knotwise/Placement" "last" "[I" (.ref al) := F3.keep Kq121 (ninS ne_a_aw (ninS ne_a_af (ninS ne_a_al (ninS ne_a_ac (ninS ne_a_an (ninS ne_a_ap nin0))))))
  have G126 : Fld Z T121.heap a "com/example/knotwise/knotwise/Placement" "count" "[I" (.ref ac) := F4.keep Kq121 (ninS ne_a_aw (ninS ne_a_af (ninS ne_a_al (ninS ne_a_ac (ninS ne_a_an (ninS ne_a_ap nin0))))))
  have G127 : Fld Z T121.heap a "com/example/knotwise/knotwise/Placement" "next" "[I" (.ref an) := F5.keep Kq121 (ninS ne_a_aw (ninS ne_a_af (ninS ne_a_al (ninS ne_a_ac (ninS ne_a_an (ninS ne_a_ap nin0))))))
  have G128 : Fld Z T121.heap a "com/example/knotwise/knotwise/Placement" "previous" "[I" (.ref ap) := F6.keep Kq121 (ninS ne_a_aw (ninS ne_a_af (ninS ne_a_al (ninS ne_a_ac (ninS ne_a_an (ninS ne_a_ap nin0))))))
  have K121 : Keep h0 T121.heap [aw, af, al, ac, an, ap] := Keep.trans (Keep.refl h0 [aw, af, al, ac, an, ap]) Kq121 (allS (Or.inl (List.mem_of_getElem? (i := 0) rfl)) (allS (Or.inl (List.mem_of_getElem? (i := 1) rfl)) (allS (Or.inl (List.mem_of_getElem? (i := 2) rfl)) (allS (Or.inl (List.mem_of_getElem? (i := 3) rfl)) (allS (Or.inl (List.mem_of_getElem? (i := 4) rfl)) (allS (Or.inl (List.mem_of_getElem? (i := 5) rfl)) all0))))))
  have Z121 : n0 ≤ T121.heap.size := Nat.le_trans Z0 K121.1
  have N121 := Fr.app N0 N121q
  refine Go.step (T' := T121) (f' := (mkF m 5 #[.val (.ref a), .val (.int man), .val (.int wom)] [])) (fun t kt => ?_) ?_
  · show Steps p.tables e below (s₁.setTop (mkF m 0 #[.val (.ref a), .val (.int man), .val (.int wom)] [])) _
    refine XS.aloadN X0.here hx rfl (hb hby d5_0) rfl rfl ?_
    show Steps p.tables e below (s₁.setTop (mkF m 1 #[.val (.ref a), .val (.int man), .val (.int wom)] [(.ref a)])) _
    refine XS.iloadN X0.here hx rfl (hb hby d5_1) rfl ?_
    show Steps p.tables e below (s₁.setTop (mkF m 2 #[.val (.ref a), .val (.int man), .val (.int wom)] [(.int man), (.ref a)])) _
    refine st121.trans ?_
    exact kt
  exact S5 _ _ _ _ X121 (Nat.le_trans (Nat.add_le_add_right (Nat.le_refl 0) 0) (by decide)) (Nat.le_trans (Nat.add_le_add_right (Nat.le_refl 0) 0) (by decide)) T121.heap rfl N121 (rmvF man wl fl ll cl nl pl).1 (rmvF man wl fl ll cl nl pl).2.1 (rmvF man wl fl ll cl nl pl).2.2.1 (rmvF man wl fl ll cl nl pl).2.2.2.1 (rmvF man wl fl ll cl nl pl).2.2.2.2.1 (rmvF man wl fl ll cl nl pl).2.2.2.2.2 K121 G122 G123 G124 G125 G126 G127 G128 pf121_0 pf121_1 pf121_2 pf121_3 pf121_4 pf121_5 (own_rinv man wl fl ll cl nl pl hI hm) hf
theorem own_pinv (man wom : Int32) (wl fl ll cl nl pl : List Int32) (hI : own_I wl fl ll cl nl pl) (hm : 0 ≤ man.toInt ∧ man.toInt < (3 : Nat)) (hv2 : 0 ≤ wom.toInt ∧ wom.toInt < (2 : Nat)) : own_I (plcF man wom wl fl ll cl nl pl).1 (plcF man wom wl fl ll cl nl pl).2.1 (plcF man wom wl fl ll cl nl pl).2.2.1 (plcF man wom wl fl ll cl nl pl).2.2.2.1 (plcF man wom wl fl ll cl nl pl).2.2.2.2.1 (plcF man wom wl fl ll cl nl pl).2.2.2.2.2 := by
  have hI1 := own_rinv man wl fl ll cl nl pl hI hm
  unfold plcF
  generalize (rmvF man wl fl ll cl nl pl).1 = w1 at *
  generalize (rmvF man wl fl ll cl nl pl).2.1 = f1 at *
  generalize (rmvF man wl fl ll cl nl pl).2.2.1 = l1 at *
  generalize (rmvF man wl fl ll cl nl pl).2.2.2.1 = c1 at *
  generalize (rmvF man wl fl ll cl nl pl).2.2.2.2.1 = n1 at *
  generalize (rmvF man wl fl ll cl nl pl).2.2.2.2.2 = q1 at *
  obtain ⟨hL1, hL2, hL3, hL4, hL5, hL6, hRw, hRl, hRn, hRp⟩ := id hI1
  have gl := own_get hRl hv2.1 (own_ix hv2 hL3).2
  have hm' : -1 ≤ man.toInt ∧ man.toInt < 3 := by omega
  have hw' : -1 ≤ wom.toInt ∧ wom.toInt < 2 := by omega
  unfold plcF_5
  split
  · exact ⟨by simp [plcF_63, hL1], by simp [plcF_63, hL2], by simp [plcF_63, hL3], by simp [plcF_63, hL4], by simp [plcF_63, hL5], by simp [plcF_63, hL6], own_set hRw _ hw', own_set hRl _ hm', own_set hRn _ (own_m1 (by decide)), own_set hRp _ gl⟩
  · exact ⟨by simp [plcF_63, hL1], by simp [plcF_63, hL2], by simp [plcF_63, hL3], by simp [plcF_63, hL4], by simp [plcF_63, hL5], by simp [plcF_63, hL6], own_set hRw _ hw', own_set hRl _ hm', own_set (own_set hRn _ (own_m1 (by decide))) _ hm', own_set hRp _ gl⟩
theorem d7_0 : decode prog_13_method_2_code 0 = .ok (.aload_n 0, 1) := by decide +kernel
theorem d7_1 : decode prog_13_method_2_code 1 = .ok (.getfield 7, 3) := by decide +kernel
theorem d7_4 : decode prog_13_method_2_code 4 = .ok (.iload_n 1, 1) := by decide +kernel
theorem d7_5 : decode prog_13_method_2_code 5 = .ok (.iaload, 1) := by decide +kernel
theorem d7_6 : decode prog_13_method_2_code 6 = .ok (.ireturn, 1) := by decide +kernel
theorem ef_wifF (m : MethodId) (x0 : Addr) (x1 : Int32) : entryFrame m #[(.ref x0), (.int x1)] 2 = mkF m 0 #[.val (.ref x0), .val (.int x1)] [] := by first | (simp [entryFrame, mkF, argsToLocals, Value.category]; done) | rfl
def wifF (j : Int32) (wl : List Int32) : Int32 := (wl.getD j.toNatClampNeg (0 : Int32))
def QwifF (Z : State) (a : Addr) (j : Int32) (aw : Addr) (wl : List Int32) (RES : Int32) (h0 : Heap) (n0 : Nat) (v : Option Value) (h : Heap) (L : List Loc) : Prop := v = some (.int RES) ∧ Fr n0 L ∧ h = h0
set_option maxRecDepth 65536 in
set_option maxHeartbeats 40000000 in
theorem rm_wifF (l : Launch) (Z : State) (a0 : Array Value) (hw : ∀ d ∈ tables_1, d.before a0 Z = true) (ws : List Jvm.Cond) (a : Addr) (j : Int32) (aw : Addr) (wl : List Int32) (h0 : Heap) (n0 : Nat) (Z0 : n0 ≤ h0.size) (F0 : Fld Z h0 a "com/example/knotwise/knotwise/Placement" "wives" "[I" (.ref aw)) (F1 : VA Z h0 aw .int (wl.map Value.int)) (hj : 0 ≤ j.toInt ∧ j.toInt < (3 : Nat)) (hl : wl.length = 3) :
    MetFree l (⟨"com/example/knotwise/knotwise/Placement", "wife", "(I)I"⟩ : MethodName) (head1 (Jvm.Cond.code (⟨"com/example/knotwise/knotwise/Placement", "wife", "(I)I"⟩ : MethodName) prog_13_method_2_code 2 (some .int) :: ws) ({ frames := 0, cells := 0, slots := 0, locals := 0 } : Room)) (fun A_ U => A_ = #[(.ref a), (.int j)] ∧ Z.Warmed39 U.vm ∧ U.heap = h0) (fun _ _ _ _ _ => True) (fun _ U o U' => ∃ v L, o = .returned v ∧ QwifF Z a j aw wl (wifF j wl) h0 n0 v U'.heap L ∧ FrameEnd U o U' L ({ frames := 0, cells := 0, slots := 0, locals := 0 } : Room).cells ({ frames := 0, cells := 0, slots := 0, locals := 0 } : Room).slots) := by
  refine MetFree.of_bodySF (plainFor_of_name pn_1) hisR ?_
  intro p e s m args below meth c s₁ Bd hml0 hP hK
  obtain ⟨rfl, hZ, hh⟩ := hP
  have hx := Bd.exec
  have hby := Bd.bytes
  have hml : c.maxLocals = 2 := hml0
  have hown : s.vm.findClass "com/example/knotwise/knotwise/Placement" = some m.cls := findClass_of_methodNamed Bd.named
  have hnm := (name_of_methodNamed Bd.named Bd.method).1
  have X0 : Stand p l e ({ frames := 0, cells := 0, slots := 0, locals := 0 } : Room) s m #[(.ref a), (.int j)] below meth c s₁ [] 0 0 := Stand.of_body Bd
  have e0 : s₁.heap = h0 := by rw [← hh, Bd.state]; rfl
  have N0 := Fr.nil n0
  obtain ⟨RES, hf⟩ : ∃ z, z = wifF j wl := ⟨_, rfl⟩
  rw [← hf]
  rw [wifF] at hf
  suffices HGO : Go p e below s (QwifF Z a j aw wl RES h0 n0) ({ frames := 0, cells := 0, slots := 0, locals := 0 } : Room).cells ({ frames := 0, cells := 0, slots := 0, locals := 0 } : Room).slots s₁ (mkF m 0 #[.val (.ref a), .val (.int j)] []) from Go.cast (ef_wifF m a j) HGO
  obtain ⟨T1, X1, e1, st1⟩ := getF X0 hx hZ hown (host := "") (Or.inl (hw _ (List.mem_of_getElem? (i := 10) rfl))) Via.refl e0 F0 (g := (mkF m 1 #[.val (.ref a), .val (.int j)] [(.ref a)])) rfl rfl (hb hby d7_1)
  have ix2 : 0 ≤ (j).toInt ∧ (j).toInt < ((wl).length : Int) := own_ix hj hl
  refine Go.step (T' := T1) (f' := (mkF m 6 #[.val (.ref a), .val (.int j)] [(.int (wl.getD j.toNatClampNeg (0 : Int32)))])) (fun t kt => ?_) ?_
  · show Steps p.tables e below (s₁.setTop (mkF m 0 #[.val (.ref a), .val (.int j)] [])) _
    refine XS.aloadN X0.here hx rfl (hb hby d7_0) rfl rfl ?_
    show Steps p.tables e below (s₁.setTop (mkF m 1 #[.val (.ref a), .val (.int j)] [(.ref a)])) _
    refine st1 _ ?_
    show Steps p.tables e below (T1.setTop (mkF m 4 #[.val (.ref a), .val (.int j)] [(.ref aw)])) _
    refine XS.iloadN X1.here hx rfl (hb hby d7_4) rfl ?_
    show Steps p.tables e below (T1.setTop (mkF m 5 #[.val (.ref a), .val (.int j)] [(.int j), (.ref aw)])) _
    refine ldI X1 hx hZ e1 F1 ix2.1 ix2.2 (g := (mkF m 5 #[.val (.ref a), .val (.int j)] [(.int j), (.ref aw)])) rfl rfl (hb hby d7_5) _ ?_
    exact kt
  refine Go.fin X1 (v := some (.int (wl.getD j.toNatClampNeg (0 : Int32)))) (fun h => by rw [Bd.returns] at h; cases h) Bd.notSynchronized ?_ (Nat.le_trans (Nat.le_refl 0) (by decide)) (Nat.le_trans (Nat.le_refl 0) (by decide)) (fun fs hr => retI X1 hx Bd.returns (hb hby d7_6) hr)
  · exact ⟨by rw [hf], N0, e1⟩
theorem d9_0 : decode prog_13_method_3_code 0 = .ok (.aload_n 0, 1) := by decide +kernel
theorem d9_1 : decode prog_13_method_3_code 1 = .ok (.getfield 27, 3) := by decide +kernel
theorem d9_4 : decode prog_13_method_3_code 4 = .ok (.iload_n 1, 1) := by decide +kernel
theorem d9_5 : decode prog_13_method_3_code 5 = .ok (.iaload, 1) := by decide +kernel
theorem d9_6 : decode prog_13_method_3_code 6 = .ok (.ireturn, 1) := by decide +kernel
theorem ef_couF (m : MethodId) (x0 : Addr) (x1 : Int32) : entryFrame m #[(.ref x0), (.int x1)] 2 = mkF m 0 #[.val (.ref x0), .val (.int x1)] [] := by first | (simp [entryFrame, mkF, argsToLocals, Value.category]; done) | rfl
def couF (j : Int32) (cl : List Int32) : Int32 := (cl.getD j.toNatClampNeg (0 : Int32))
def QcouF (Z : State) (a : Addr) (j : Int32) (ac : Addr) (cl : List Int32) (RES : Int32) (h0 : Heap) (n0 : Nat) (v : Option Value) (h : Heap) (L : List Loc) : Prop := v = some (.int RES) ∧ Fr n0 L ∧ h = h0
set_option maxRecDepth 65536 in
set_option maxHeartbeats 40000000 in
theorem rm_couF (l : Launch) (Z : State) (a0 : Array Value) (hw : ∀ d ∈ tables_1, d.before a0 Z = true) (ws : List Jvm.Cond) (a : Addr) (j : Int32) (ac : Addr) (cl : List Int32) (h0 : Heap) (n0 : Nat) (Z0 : n0 ≤ h0.size) (F0 : Fld Z h0 a "com/example/knotwise/knotwise/Placement" "count" "[I" (.ref ac)) (F1 : VA Z h0 ac .int (cl.map Value.int)) (hj : 0 ≤ j.toInt ∧ j.toInt < (2 : Nat)) (hl : cl.length = 2) :
    MetFree l (⟨"com/example/knotwise/knotwise/Placement", "count", "(I)I"⟩ : MethodName) (head1 (Jvm.Cond.code (⟨"com/example/knotwise/knotwise/Placement", "count", "(I)I"⟩ : MethodName) prog_13_method_3_code 2 (some .int) :: ws) ({ frames := 0, cells := 0, slots := 0, locals := 0 } : Room)) (fun A_ U => A_ = #[(.ref a), (.int j)] ∧ Z.Warmed39 U.vm ∧ U.heap = h0) (fun _ _ _ _ _ => True) (fun _ U o U' => ∃ v L, o = .returned v ∧ QcouF Z a j ac cl (couF j cl) h0 n0 v U'.heap L ∧ FrameEnd U o U' L ({ frames := 0, cells := 0, slots := 0, locals := 0 } : Room).cells ({ frames := 0, cells := 0, slots := 0, locals := 0 } : Room).slots) := by
  refine MetFree.of_bodySF (plainFor_of_name pn_1) hisR ?_
  intro p e s m args below meth c s₁ Bd hml0 hP hK
  obtain ⟨rfl, hZ, hh⟩ := hP
  have hx := Bd.exec
  have hby := Bd.bytes
  have hml : c.maxLocals = 2 := hml0
  have hown : s.vm.findClass "com/example/knotwise/knotwise/Placement" = some m.cls := findClass_of_methodNamed Bd.named
  have hnm := (name_of_methodNamed Bd.named Bd.method).1
  have X0 : Stand p l e ({ frames := 0, cells := 0, slots := 0, locals := 0 } : Room) s m #[(.ref a), (.int j)] below meth c s₁ [] 0 0 := Stand.of_body Bd
  have e0 : s₁.heap = h0 := by rw [← hh, Bd.state]; rfl
  have N0 := Fr.nil n0
  obtain ⟨RES, hf⟩ : ∃ z, z = couF j cl := ⟨_, rfl⟩
  rw [← hf]
  rw [couF] at hf
  suffices HGO : Go p e below s (QcouF Z a j ac cl RES h0 n0) ({ frames := 0, cells := 0, slots := 0, locals := 0 } : Room).cells ({ frames := 0, cells := 0, slots := 0, locals := 0 } : Room).slots s₁ (mkF m 0 #[.val (.ref a), .val (.int j)] []) from Go.cast (ef_couF m a j) HGO
  obtain ⟨T1, X1, e1, st1⟩ := getF X0 hx hZ hown (host := "") (Or.inl (hw _ (List.mem_of_getElem? (i := 20) rfl))) Via.refl e0 F0 (g := (mkF m 1 #[.val (.ref a), .val (.int j)] [(.ref a)])) rfl rfl (hb hby d9_1)
  have ix2 : 0 ≤ (j).toInt ∧ (j).toInt < ((cl).length : Int) := own_ix hj hl
  refine Go.step (T' := T1) (f' := (mkF m 6 #[.val (.ref a), .val (.int j)] [(.int (cl.getD j.toNatClampNeg (0 : Int32)))])) (fun t kt => ?_) ?_
  · show Steps p.tables e below (s₁.setTop (mkF m 0 #[.val (.ref a), .val (.int j)] [])) _
    refine XS.aloadN X0.here hx rfl (hb hby d9_0) rfl rfl ?_
    show Steps p.tables e below (s₁.setTop (mkF m 1 #[.val (.ref a), .val (.int j)] [(.ref a)])) _
    refine st1 _ ?_
    show Steps p.tables e below (T1.setTop (mkF m 4 #[.val (.ref a), .val (.int j)] [(.ref ac)])) _
    refine XS.iloadN X1.here hx rfl (hb hby d9_4) rfl ?_
    show Steps p.tables e below (T1.setTop (mkF m 5 #[.val (.ref a), .val (.int j)] [(.int j), (.ref ac)])) _
    refine ldI X1 hx hZ e1 F1 ix2.1 ix2.2 (g := (mkF m 5 #[.val (.ref a), .val (.int j)] [(.int j), (.ref ac)])) rfl rfl (hb hby d9_5) _ ?_
    exact kt
  refine Go.fin X1 (v := some (.int (cl.getD j.toNatClampNeg (0 : Int32)))) (fun h => by rw [Bd.returns] at h; cases h) Bd.notSynchronized ?_ (Nat.le_trans (Nat.le_refl 0) (by decide)) (Nat.le_trans (Nat.le_refl 0) (by decide)) (fun fs hr => retI X1 hx Bd.returns (hb hby d9_6) hr)
  · exact ⟨by rw [hf], N0, e1⟩
theorem d10_0 : decode prog_13_method_4_code 0 = .ok (.aload_n 0, 1) := by decide +kernel
theorem d10_1 : decode prog_13_method_4_code 1 = .ok (.getfield 24, 3) := by decide +kernel
theorem d10_4 : decode prog_13_method_4_code 4 = .ok (.iload_n 1, 1) := by decide +kernel
theorem d10_5 : decode prog_13_method_4_code 5 = .ok (.iaload, 1) := by decide +kernel
theorem d10_6 : decode prog_13_method_4_code 6 = .ok (.ireturn, 1) := by decide +kernel
theorem ef_lasF (m : MethodId) (x0 : Addr) (x1 : Int32) : entryFrame m #[(.ref x0), (.int x1)] 2 = mkF m 0 #[.val (.ref x0), .val (.int x1)] [] := by first | (simp [entryFrame, mkF, argsToLocals, Value.category]; done) | rfl
def lasF (j : Int32) (ll : List Int32) : Int32 := (ll.getD j.toNatClampNeg (0 : Int32))
def QlasF (Z : State) (a : Addr) (j : Int32) (al : Addr) (ll : List Int32) (RES : Int32) (h0 : Heap) (n0 : Nat) (v : Option Value) (h : Heap) (L : List Loc) : Prop := v = some (.int RES) ∧ Fr n0 L ∧ h = h0
set_option maxRecDepth 65536 in
set_option maxHeartbeats 40000000 in
theorem rm_lasF (l : Launch) (Z : State) (a0 : Array Value) (hw : ∀ d ∈ tables_1, d.before a0 Z = true) (ws : List Jvm.Cond) (a : Addr) (j : Int32) (al : Addr) (ll : List Int32) (h0 : Heap) (n0 : Nat) (Z0 : n0 ≤ h0.size) (F0 : Fld Z h0 a "com/example/knotwise/knotwise/Placement" "last" "[I" (.ref al)) (F1 : VA Z h0 al .int (ll.map Value.int)) (hj : 0 ≤ j.toInt ∧ j.toInt < (2 : Nat)) (hl : ll.length = 2) :
    MetFree l (⟨"com/example/knotwise/knotwise/Placement", "last", "(I)I"⟩ : MethodName) (head1 (Jvm.Cond.code (⟨"com/example/knotwise/knotwise/Placement", "last", "(I)I"⟩ : MethodName) prog_13_method_4_code 2 (some .int) :: ws) ({ frames := 0, cells := 0, slots := 0, locals := 0 } : Room)) (fun A_ U => A_ = #[(.ref a), (.int j)] ∧ Z.Warmed39 U.vm ∧ U.heap = h0) (fun _ _ _ _ _ => True) (fun _ U o U' => ∃ v L, o = .returned v ∧ QlasF Z a j al ll (lasF j ll) h0 n0 v U'.heap L ∧ FrameEnd U o U' L ({ frames := 0, cells := 0, slots := 0, locals := 0 } : Room).cells ({ frames := 0, cells := 0, slots := 0, locals := 0 } : Room).slots) := by
  refine MetFree.of_bodySF (plainFor_of_name pn_1) hisR ?_
  intro p e s m args below meth c s₁ Bd hml0 hP hK
  obtain ⟨rfl, hZ, hh⟩ := hP
  have hx := Bd.exec
  have hby := Bd.bytes
  have hml : c.maxLocals = 2 := hml0
  have hown : s.vm.findClass "com/example/knotwise/knotwise/Placement" = some m.cls := findClass_of_methodNamed Bd.named
  have hnm := (name_of_methodNamed Bd.named Bd.method).1
  have X0 : Stand p l e ({ frames := 0, cells := 0, slots := 0, locals := 0 } : Room) s m #[(.ref a), (.int j)] below meth c s₁ [] 0 0 := Stand.of_body Bd
  have e0 : s₁.heap = h0 := by rw [← hh, Bd.state]; rfl
  have N0 := Fr.nil n0
  obtain ⟨RES, hf⟩ : ∃ z, z = lasF j ll := ⟨_, rfl⟩
  rw [← hf]
  rw [lasF] at hf
  suffices HGO : Go p e below s (QlasF Z a j al ll RES h0 n0) ({ frames := 0, cells := 0, slots := 0, locals := 0 } : Room).cells ({ frames := 0, cells := 0, slots := 0, locals := 0 } : Room).slots s₁ (mkF m 0 #[.val (.ref a), .val (.int j)] []) from Go.cast (ef_lasF m a j) HGO
  obtain ⟨T1, X1, e1, st1⟩ := getF X0 hx hZ hown (host := "") (Or.inl (hw _ (List.mem_of_getElem? (i := 18) rfl))) Via.refl e0 F0 (g := (mkF m 1 #[.val (.ref a), .val (.int j)] [(.ref a)])) rfl rfl (hb hby d10_1)
  have ix2 : 0 ≤ (j).toInt ∧ (j).toInt < ((ll).length : Int) := own_ix hj hl
  refine Go.step (T' := T1) (f' := (mkF m 6 #[.val (.ref a), .val (.int j)] [(.int (ll.getD j.toNatClampNeg (0 : Int32)))])) (fun t kt => ?_) ?_
  · show Steps p.tables e below (s₁.setTop (mkF m 0 #[.val (.ref a), .val (.int j)] [])) _
    refine XS.aloadN X0.here hx rfl (hb hby d10_0) rfl rfl ?_
    show Steps p.tables e below (s₁.setTop (mkF m 1 #[.val (.ref a), .val (.int j)] [(.ref a)])) _
    refine st1 _ ?_
    show Steps p.tables e below (T1.setTop (mkF m 4 #[.val (.ref a), .val (.int j)] [(.ref al)])) _
    refine XS.iloadN X1.here hx rfl (hb hby d10_4) rfl ?_
    show Steps p.tables e below (T1.setTop (mkF m 5 #[.val (.ref a), .val (.int j)] [(.int j), (.ref al)])) _
    refine ldI X1 hx hZ e1 F1 ix2.1 ix2.2 (g := (mkF m 5 #[.val (.ref a), .val (.int j)] [(.int j), (.ref al)])) rfl rfl (hb hby d10_5) _ ?_
    exact kt
  refine Go.fin X1 (v := some (.int (ll.getD j.toNatClampNeg (0 : Int32)))) (fun h => by rw [Bd.returns] at h; cases h) Bd.notSynchronized ?_ (Nat.le_trans (Nat.le_refl 0) (by decide)) (Nat.le_trans (Nat.le_refl 0) (by decide)) (fun fs hr => retI X1 hx Bd.returns (hb hby d10_6) hr)
  · exact ⟨by rw [hf], N0, e1⟩
theorem own_m3 (r : Int32) : 0 ≤ ((r &&& (2147483647 : Int32)) % (3 : Int32)).toInt ∧ ((r &&& (2147483647 : Int32)) % (3 : Int32)).toInt < (3 : Nat) := by
  have h := c_and r 2147483647 (by decide)
  have h2 := own_rem (r &&& 2147483647) 3 h.1
  have k : (3 : Int32).toInt = 3 := rfl
  rw [k] at h2
  omega
theorem own_w2 (r : Int32) : 0 ≤ (((r &&& (2147483647 : Int32)) / (3 : Int32)) % (2 : Int32)).toInt ∧ (((r &&& (2147483647 : Int32)) / (3 : Int32)) % (2 : Int32)).toInt < (2 : Nat) := by
  have h := c_and r 2147483647 (by decide)
  have k : (3 : Int32).toInt = 3 := rfl
  have k2 : (2 : Int32).toInt = 2 := rfl
  have h2 := own_div (r &&& 2147483647) 3 h.1 (by decide)
  rw [k] at h2
  have h3 := own_rem ((r &&& 2147483647) / 3) 2 (by omega)
  rw [k2] at h3
  omega
theorem own_I0 : own_I [(-1 : Int32), (-1 : Int32), (-1 : Int32)] [(-1 : Int32), (-1 : Int32)] [(-1 : Int32), (-1 : Int32)] [(0 : Int32), (0 : Int32)] [(0 : Int32), (0 : Int32), (0 : Int32)] [(0 : Int32), (0 : Int32), (0 : Int32)] := by
  unfold own_I own_R
  decide
theorem pd_2 : parseMethodDescriptor "(II)V" = some ⟨[.int, .int], none⟩ := by decide +kernel
theorem d4_0 : decode method_3_code 0 = .ok (.iload_n 3, 1) := by decide +kernel
theorem d4_1 : decode method_3_code 1 = .ok (.ldc 38, 2) := by decide +kernel
theorem d4_3 : decode method_3_code 3 = .ok (.iand, 1) := by decide +kernel
theorem d4_4 : decode method_3_code 4 = .ok (.istore 5, 2) := by decide +kernel
theorem d4_6 : decode method_3_code 6 = .ok (.iload 5, 2) := by decide +kernel
theorem d4_8 : decode method_3_code 8 = .ok (.iconst 3, 1) := by decide +kernel
theorem d4_9 : decode method_3_code 9 = .ok (.irem, 1) := by decide +kernel
theorem d4_10 : decode method_3_code 10 = .ok (.istore 6, 2) := by decide +kernel
theorem d4_12 : decode method_3_code 12 = .ok (.iload 5, 2) := by decide +kernel
theorem d4_14 : decode method_3_code 14 = .ok (.iconst 3, 1) := by decide +kernel
theorem d4_15 : decode method_3_code 15 = .ok (.idiv, 1) := by decide +kernel
theorem d4_16 : decode method_3_code 16 = .ok (.iconst 2, 1) := by decide +kernel
theorem d4_17 : decode method_3_code 17 = .ok (.irem, 1) := by decide +kernel
theorem d4_18 : decode method_3_code 18 = .ok (.istore 7, 2) := by decide +kernel
theorem d4_20 : decode method_3_code 20 = .ok (.aload_n 0, 1) := by decide +kernel
theorem d4_21 : decode method_3_code 21 = .ok (.iload 6, 2) := by decide +kernel
theorem d4_23 : decode method_3_code 23 = .ok (.iload 7, 2) := by decide +kernel
theorem d4_25 : decode method_3_code 25 = .ok (.invokevirtual 39, 3) := by decide +kernel
theorem d4_28 : decode method_3_code 28 = .ok (.aload_n 1, 1) := by decide +kernel
theorem d4_29 : decode method_3_code 29 = .ok (.iload 6, 2) := by decide +kernel
theorem d4_31 : decode method_3_code 31 = .ok (.iload 7, 2) := by decide +kernel
theorem d4_33 : decode method_3_code 33 = .ok (.iastore, 1) := by decide +kernel
theorem d4_34 : decode method_3_code 34 = .ok (.aload_n 2, 1) := by decide +kernel
theorem d4_35 : decode method_3_code 35 = .ok (.iload 6, 2) := by decide +kernel
theorem d4_37 : decode method_3_code 37 = .ok (.iload 4, 2) := by decide +kernel
theorem d4_39 : decode method_3_code 39 = .ok (.iastore, 1) := by decide +kernel
theorem d4_40 : decode method_3_code 40 = .ok (.return_, 1) := by decide +kernel
theorem pn_2 : plainName "com/example/knotwise/knotwise/PlacementPlacePinLaw" = true := by first | (simp [plainName, overriddenIn]; done) | decide +kernel
theorem ef_stpF (m : MethodId) (x0 : Addr) (x1 : Addr) (x2 : Addr) (x3 : Int32) (x4 : Int32) : entryFrame m #[(.ref x0), (.ref x1), (.ref x2), (.int x3), (.int x4)] 8 = mkF m 0 #[.val (.ref x0), .val (.ref x1), .val (.ref x2), .val (.int x3), .val (.int x4), .unset, .unset, .unset] [] := by first | (simp [entryFrame, mkF, argsToLocals, Value.category]; done) | rfl
def stpF_20 (tim : Int32) (wl : List Int32) (fl : List Int32) (ll : List Int32) (cl : List Int32) (nl : List Int32) (pl : List Int32) (vl : List Int32) (tl : List Int32) (x5 : Int32) (x6 : Int32) (x7 : Int32) : List Int32 × List Int32 × List Int32 × List Int32 × List Int32 × List Int32 × List Int32 × List Int32 := ((plcF x6 x7 wl fl ll cl nl pl).1, (plcF x6 x7 wl fl ll cl nl pl).2.1, (plcF x6 x7 wl fl ll cl nl pl).2.2.1, (plcF x6 x7 wl fl ll cl nl pl).2.2.2.1, (plcF x6 x7 wl fl ll cl nl pl).2.2.2.2.1, (plcF x6 x7 wl fl ll cl nl pl).2.2.2.2.2, (vl.set x6.toNatClampNeg x7), (tl.set x6.toNatClampNeg tim))
def stpF (xx : Int32) (tim : Int32) (wl : List Int32) (fl : List Int32) (ll : List Int32) (cl : List Int32) (nl : List Int32) (pl : List Int32) (vl : List Int32) (tl : List Int32) : List Int32 × List Int32 × List Int32 × List Int32 × List Int32 × List Int32 × List Int32 × List Int32 := (stpF_20 tim wl fl ll cl nl pl vl tl (xx &&& (2147483647 : Int32)) ((xx &&& (2147483647 : Int32)) % (3 : Int32)) (((xx &&& (2147483647 : Int32)) / (3 : Int32)) % (2 : Int32)))
def QstpF (Z : State) (a : Addr) (aV : Addr) (aT : Addr) (xx : Int32) (tim : Int32) (aw : Addr) (af : Addr) (al : Addr) (ac : Addr) (an : Addr) (ap : Addr) (wl : List Int32) (fl : List Int32) (ll : List Int32) (cl : List Int32) (nl : List Int32) (pl : List Int32) (vl : List Int32) (tl : List Int32) (RES : List Int32 × List Int32 × List Int32 × List Int32 × List Int32 × List Int32 × List Int32 × List Int32) (h0 : Heap) (n0 : Nat) (v : Option Value) (h : Heap) (L : List Loc) : Prop := v = none ∧ Fr n0 L ∧ Keep h0 h [aw, af, al, ac, an, ap, aV, aT] ∧ VA Z h aw .int (RES.1.map Value.int) ∧ VA Z h af .int (RES.2.1.map Value.int) ∧ VA Z h al .int (RES.2.2.1.map Value.int) ∧ VA Z h ac .int (RES.2.2.2.1.map Value.int) ∧ VA Z h an .int (RES.2.2.2.2.1.map Value.int) ∧ VA Z h ap .int (RES.2.2.2.2.2.1.map Value.int) ∧ VA Z h aV .int (RES.2.2.2.2.2.2.1.map Value.int) ∧ VA Z h aT .int (RES.2.2.2.2.2.2.2.map Value.int)
set_option maxRecDepth 65536 in
set_option maxHeartbeats 40000000 in
theorem rm_stpF (l : Launch) (Z : State) (a0 : Array Value) (hw : ∀ d ∈ tables_1, d.before a0 Z = true) (ws : List Jvm.Cond) (a : Addr) (aV : Addr) (aT : Addr) (xx : Int32) (tim : Int32) (aw : Addr) (af : Addr) (al : Addr) (ac : Addr) (an : Addr) (ap : Addr) (wl : List Int32) (fl : List Int32) (ll : List Int32) (cl : List Int32) (nl : List Int32) (pl : List Int32) (vl : List Int32) (tl : List Int32) (h0 : Heap) (n0 : Nat) (Z0 : n0 ≤ h0.size) (F0 : Exa Z h0 a "com/example/knotwise/knotwise/Placement") (F1 : Fld Z h0 a "com/example/knotwise/knotwise/Placement" "wives" "[I" (.ref aw)) (F2 : Fld Z h0 a "com/example/knotwise/knotwise/Placement" "first" "[I" (.ref af)) (F3 : Fld Z h0 a "com/example/knotwise/knotwise/Placement" "last" "[I" (.ref al)) (F4 : Fld Z h0 a "com/example/knotwise/knotwise/Placement" "count" "[I" (.ref ac)) (F5 : Fld Z h0 a "com/example/knotwise/knotwise/Placement" "next" "[I" (.ref an)) (F6 : Fld Z h0 a "com/example/knotwise/knotwise/Placement" "previous" "[I" (.ref ap)) (F7 : VA Z h0 aw .int (wl.map Value.int)) (F8 : VA Z h0 af .int (fl.map Value.int)) (F9 : VA Z h0 al .int (ll.map Value.int)) (F10 : VA Z h0 ac .int (cl.map Value.int)) (F11 : VA Z h0 an .int (nl.map Value.int)) (F12 : VA Z h0 ap .int (pl.map Value.int)) (F13 : VA Z h0 aV .int (vl.map Value.int)) (F14 : VA Z h0 aT .int (tl.map Value.int)) (g_aw : n0 ≤ aw) (g_af : n0 ≤ af) (g_al : n0 ≤ al) (g_ac : n0 ≤ ac) (g_an : n0 ≤ an) (g_ap : n0 ≤ ap) (g_aV : n0 ≤ aV) (g_aT : n0 ≤ aT) (ne_a_aw : a ≠ aw) (ne_a_af : a ≠ af) (ne_a_al : a ≠ al) (ne_a_ac : a ≠ ac) (ne_a_an : a ≠ an) (ne_a_ap : a ≠ ap) (ne_aw_af : aw ≠ af) (ne_aw_al : aw ≠ al) (ne_aw_ac : aw ≠ ac) (ne_aw_an : aw ≠ an) (ne_aw_ap : aw ≠ ap) (ne_af_al : af ≠ al) (ne_af_ac : af ≠ ac) (ne_af_an : af ≠ an) (ne_af_ap : af ≠ ap) (ne_al_ac : al ≠ ac) (ne_al_an : al ≠ an) (ne_al_ap : al ≠ ap) (ne_ac_an : ac ≠ an) (ne_ac_ap : ac ≠ ap) (ne_an_ap : an ≠ ap) (ne_a_aV : a ≠ aV) (ne_a_aT : a ≠ aT) (ne_aw_aV : aw ≠ aV) (ne_aw_aT : aw ≠ aT) (ne_af_aV : af ≠ aV) (ne_af_aT : af ≠ aT) (ne_al_aV : al ≠ aV) (ne_al_aT : al ≠ aT) (ne_ac_aV : ac ≠ aV) (ne_ac_aT : ac ≠ aT) (ne_an_aV : an ≠ aV) (ne_an_aT : an ≠ aT) (ne_ap_aV : ap ≠ aV) (ne_ap_aT : ap ≠ aT) (ne_aV_aT : aV ≠ aT) (hI : own_I wl fl ll cl nl pl) (hv : vl.length = 3) (ht : tl.length = 3) :
    MetFree l (⟨"com/example/knotwise/knotwise/PlacementPlacePinLaw", "step", "(Lcom/example/knotwise/knotwise/Placement;[I[III)V"⟩ : MethodName) (head1 (Jvm.Cond.code (⟨"com/example/knotwise/knotwise/PlacementPlacePinLaw", "step", "(Lcom/example/knotwise/knotwise/Placement;[I[III)V"⟩ : MethodName) method_3_code 8 none :: ws) ({ frames := 2, cells := 0, slots := 0, locals := 28 } : Room)) (fun A_ U => A_ = #[(.ref a), (.ref aV), (.ref aT), (.int xx), (.int tim)] ∧ Z.Warmed39 U.vm ∧ U.heap = h0) (fun _ _ _ _ _ => True) (fun _ U o U' => ∃ v L, o = .returned v ∧ QstpF Z a aV aT xx tim aw af al ac an ap wl fl ll cl nl pl vl tl (stpF xx tim wl fl ll cl nl pl vl tl) h0 n0 v U'.heap L ∧ FrameEnd U o U' L ({ frames := 2, cells := 0, slots := 0, locals := 28 } : Room).cells ({ frames := 2, cells := 0, slots := 0, locals := 28 } : Room).slots) := by
  refine MetFree.of_bodySF (plainFor_of_name pn_2) hisR ?_
  intro p e s m args below meth c s₁ Bd hml0 hP hK
  obtain ⟨rfl, hZ, hh⟩ := hP
  have hx := Bd.exec
  have hby := Bd.bytes
  have hml : c.maxLocals = 8 := hml0
  have hown : s.vm.findClass "com/example/knotwise/knotwise/PlacementPlacePinLaw" = some m.cls := findClass_of_methodNamed Bd.named
  have hnm := (name_of_methodNamed Bd.named Bd.method).1
  have X0 : Stand p l e ({ frames := 2, cells := 0, slots := 0, locals := 28 } : Room) s m #[(.ref a), (.ref aV), (.ref aT), (.int xx), (.int tim)] below meth c s₁ [] 0 0 := Stand.of_body Bd
  have e0 : s₁.heap = h0 := by rw [← hh, Bd.state]; rfl
  have N0 := Fr.nil n0
  obtain ⟨RES, hf⟩ : ∃ z, z = stpF xx tim wl fl ll cl nl pl vl tl := ⟨_, rfl⟩
  rw [← hf]
  rw [stpF] at hf
  suffices HGO : Go p e below s (QstpF Z a aV aT xx tim aw af al ac an ap wl fl ll cl nl pl vl tl RES h0 n0) ({ frames := 2, cells := 0, slots := 0, locals := 28 } : Room).cells ({ frames := 2, cells := 0, slots := 0, locals := 28 } : Room).slots s₁ (mkF m 0 #[.val (.ref a), .val (.ref aV), .val (.ref aT), .val (.int xx), .val (.int tim), .unset, .unset, .unset] []) from Go.cast (ef_stpF m a aV aT xx tim) HGO
  have S20 : ∀ (T : State) (locs : List Loc) (cells slots : Nat) (X : Stand p l e ({ frames := 2, cells := 0, slots := 0, locals := 28 } : Room) s m #[(.ref a), (.ref aV), (.ref aT), (.int xx), (.int tim)] below meth c T locs cells slots) (hcl : cells ≤ 0) (hsl : slots ≤ 0) (h : Heap) (eT : T.heap = h) (N : Fr n0 locs) (x5 : Int32) (x6 : Int32) (x7 : Int32)  (K : Keep h0 h [aw, af, al, ac, an, ap, aV, aT]) (fc0 : Exa Z h a "com/example/knotwise/knotwise/Placement") (fc1 : Fld Z h a "com/example/knotwise/knotwise/Placement" "wives" "[I" (.ref aw)) (fc2 : Fld Z h a "com/example/knotwise/knotwise/Placement" "first" "[I" (.ref af)) (fc3 : Fld Z h a "com/example/knotwise/knotwise/Placement" "last" "[I" (.ref al)) (fc4 : Fld Z h a "com/example/knotwise/knotwise/Placement" "count" "[I" (.ref ac)) (fc5 : Fld Z h a "com/example/knotwise/knotwise/Placement" "next" "[I" (.ref an)) (fc6 : Fld Z h a "com/example/knotwise/knotwise/Placement" "previous" "[I" (.ref ap)) (fc7 : VA Z h aw .int (wl.map Value.int)) (fc8 : VA Z h af .int (fl.map Value.int)) (fc9 : VA Z h al .int (ll.map Value.int)) (fc10 : VA Z h ac .int (cl.map Value.int)) (fc11 : VA Z h an .int (nl.map Value.int)) (fc12 : VA Z h ap .int (pl.map Value.int)) (fc13 : VA Z h aV .int (vl.map Value.int)) (fc14 : VA Z h aT .int (tl.map Value.int)) (hm : 0 ≤ x6.toInt ∧ x6.toInt < (3 : Nat)) (hv2 : 0 ≤ x7.toInt ∧ x7.toInt < (2 : Nat)) (hf : RES = stpF_20 tim wl fl ll cl nl pl vl tl x5 x6 x7), Go p e below s (QstpF Z a aV aT xx tim aw af al ac an ap wl fl ll cl nl pl vl tl RES h0 n0) ({ frames := 2, cells := 0, slots := 0, locals := 28 } : Room).cells ({ frames := 2, cells := 0, slots := 0, locals := 28 } : Room).slots T (mkF m 20 #[.val (.ref a), .val (.ref aV), .val (.ref aT), .val (.int xx), .val (.int tim), .val (.int x5), .val (.int x6), .val (.int x7)] []) := by
    intro T locs cells slots X hcl hsl h eT N x5 x6 x7 K fc0 fc1 fc2 fc3 fc4 fc5 fc6 fc7 fc8 fc9 fc10 fc11 fc12 fc13 fc14 hm hv2 hf
    have Zh : n0 ≤ h.size := Nat.le_trans Z0 K.1
    rw [stpF_20] at hf
    obtain ⟨cq1, kq1, q1a, q1b, q1c⟩ := isOf hZ eT (fc0 : Exa Z h a "com/example/knotwise/knotwise/Placement")
    obtain ⟨_, _, ⟨T1, L1, k1, n1⟩, -, X1, ⟨Lc1, hQ1, l1, y1, z1⟩, st1⟩ := X.virtualBack hx (y := (⟨"com/example/knotwise/knotwise/Placement", "place", "(II)V"⟩ : MethodName)) (z := (⟨"com/example/knotwise/knotwise/Placement", "place", "(II)V"⟩ : MethodName)) hown (mvT hZ (hw _ (List.mem_of_getElem? (i := 31) rfl))) (mvT hZ (hw _ (List.mem_of_getElem? (i := 32) rfl))) (notFace_of_selects (args := #[]) (mvT hZ (hw _ (List.mem_of_getElem? (i := 34) rfl)))) (mvT hZ (hw _ (List.mem_of_getElem? (i := 34) rfl))) (mvT hZ (hw _ (List.mem_of_getElem? (i := 33) rfl))) (by decide) (backOf (W := 0) (rm_plcF l Z a0 hw [] a x6 x7 aw af al ac an ap wl fl ll cl nl pl h n0 Zh fc0 fc1 fc2 fc3 fc4 fc5 fc6 fc7 fc8 fc9 fc10 fc11 fc12 g_aw g_af g_al g_ac g_an g_ap ne_a_aw ne_a_af ne_a_al ne_a_ac ne_a_an ne_a_ap ne_aw_af ne_aw_al ne_aw_ac ne_aw_an ne_aw_ap ne_af_al ne_af_ac ne_af_an ne_af_ap ne_al_ac ne_al_an ne_al_ap ne_ac_an ne_ac_ap ne_an_ap hI hm hv2) hZ (hw _ (List.mem_of_getElem? (i := 35) rfl)) (hw _ (List.mem_of_getElem? (i := 2) rfl)) (by decide) (by decide)) q1a q1c (g := (mkF m 25 #[.val (.ref a), .val (.ref aV), .val (.ref aT), .val (.int xx), .val (.int tim), .val (.int x5), .val (.int x6), .val (.int x7)] [(.int x7), (.int x6), (.ref a)])) rfl (by rw [hml]; rfl) (Steps.refl _) (argsL := [(.int x6), (.int x7)]) (rest := []) (lenOf pd_2 rfl) rfl (by show 2 * 0 + _ ≤ _; exact Nat.le_of_eq rfl) (hb hby d4_25) (fun _ _ => ⟨rfl, eT, (Nat.le_trans (Nat.add_le_add_right hcl 0) (by decide)), (Nat.le_trans (Nat.add_le_add_right hsl 0) (by decide))⟩)
    dsimp only [Pt.U, Pt.locs, Pt.cells, Pt.slots] at X1 l1 y1 z1 st1 hQ1
    subst l1 y1 z1
    obtain ⟨rfl, N1q, Kq1, pf1_0, pf1_1, pf1_2, pf1_3, pf1_4, pf1_5⟩ := hQ1
    have G2 : Exa Z T1.heap a "com/example/knotwise/knotwise/Placement" := Exa.keep fc0 Kq1
    have G3 : Fld Z T1.heap a "com/example/knotwise/knotwise/Placement" "wives" "[I" (.ref aw) := fc1.keep Kq1 (ninS ne_a_aw (ninS ne_a_af (ninS ne_a_al (ninS ne_a_ac (ninS ne_a_an (ninS ne_a_ap nin0))))))
    have G4 : Fld Z T1.heap a "com/example/knotwise/knotwise/Placement" "first" "[I" (.ref af) := fc2.keep Kq1 (ninS ne_a_aw (ninS ne_a_af (ninS ne_a_al (ninS ne_a_ac (ninS ne_a_an (ninS ne_a_ap nin0))))))
    have G5 : Fld Z T1.heap a "com/example/knotwise/knotwise/Placement" "last" "[I" (.ref al) := fc3.keep Kq1 (ninS ne_a_aw (ninS ne_a_af (ninS ne_a_al (ninS ne_a_ac (ninS ne_a_an (ninS ne_a_ap nin0))))))
    have G6 : Fld Z T1.heap a "com/example/knotwise/knotwise/Placement" "count" "[I" (.ref ac) := fc4.keep Kq1 (ninS ne_a_aw (ninS ne_a_af (ninS ne_a_al (ninS ne_a_ac (ninS ne_a_an (ninS ne_a_ap nin0))))))
    have G7 : Fld Z T1.heap a "com/example/knotwise/knotwise/Placement" "next" "[I" (.ref an) := fc5.keep Kq1 (ninS ne_a_aw (ninS ne_a_af (ninS ne_a_al (ninS ne_a_ac (ninS ne_a_an (ninS ne_a_ap nin0))))))
    have G8 : Fld Z T1.heap a "com/example/knotwise/knotwise/Placement" "previous" "[I" (.ref ap) := fc6.keep Kq1 (ninS ne_a_aw (ninS ne_a_af (ninS ne_a_al (ninS ne_a_ac (ninS ne_a_an (ninS ne_a_ap nin0))))))
    have G9 : VA Z T1.heap aV .int (vl.map Value.int) := fc13.keep Kq1 (ninS (Ne.symm ne_aw_aV) (ninS (Ne.symm ne_af_aV) (ninS (Ne.symm ne_al_aV) (ninS (Ne.symm ne_ac_aV) (ninS (Ne.symm ne_an_aV) (ninS (Ne.symm ne_ap_aV) nin0))))))
    have G10 : VA Z T1.heap aT .int (tl.map Value.int) := fc14.keep Kq1 (ninS (Ne.symm ne_aw_aT) (ninS (Ne.symm ne_af_aT) (ninS (Ne.symm ne_al_aT) (ninS (Ne.symm ne_ac_aT) (ninS (Ne.symm ne_an_aT) (ninS (Ne.symm ne_ap_aT) nin0))))))
    have K1 : Keep h0 T1.heap [aw, af, al, ac, an, ap, aV, aT] := Keep.trans K Kq1 (allS (Or.inl (List.mem_of_getElem? (i := 0) rfl)) (allS (Or.inl (List.mem_of_getElem? (i := 1) rfl)) (allS (Or.inl (List.mem_of_getElem? (i := 2) rfl)) (allS (Or.inl (List.mem_of_getElem? (i := 3) rfl)) (allS (Or.inl (List.mem_of_getElem? (i := 4) rfl)) (allS (Or.inl (List.mem_of_getElem? (i := 5) rfl)) all0))))))
    have Z1 : n0 ≤ T1.heap.size := Nat.le_trans Z0 K1.1
    have N1 := Fr.app N N1q
    have ix11 : 0 ≤ (x6).toInt ∧ (x6).toInt < ((vl).length : Int) := own_ix hm hv
    obtain ⟨T12, h12, X12, e12, W12, V12, st12⟩ := putI X1 hx hZ rfl G9 ix11.1 ix11.2 (g := (mkF m 33 #[.val (.ref a), .val (.ref aV), .val (.ref aT), .val (.int xx), .val (.int tim), .val (.int x5), .val (.int x6), .val (.int x7)] [(.int x7), (.int x6), (.ref aV)])) rfl rfl (hb hby d4_33)
    have G13 : Exa Z h12 a "com/example/knotwise/knotwise/Placement" := G2.wr W12
    have G14 : Fld Z h12 a "com/example/knotwise/knotwise/Placement" "wives" "[I" (.ref aw) := G3.other W12 (Or.inl ne_a_aV)
    have G15 : Fld Z h12 a "com/example/knotwise/knotwise/Placement" "first" "[I" (.ref af) := G4.other W12 (Or.inl ne_a_aV)
    have G16 : Fld Z h12 a "com/example/knotwise/knotwise/Placement" "last" "[I" (.ref al) := G5.other W12 (Or.inl ne_a_aV)
    have G17 : Fld Z h12 a "com/example/knotwise/knotwise/Placement" "count" "[I" (.ref ac) := G6.other W12 (Or.inl ne_a_aV)
    have G18 : Fld Z h12 a "com/example/knotwise/knotwise/Placement" "next" "[I" (.ref an) := G7.other W12 (Or.inl ne_a_aV)
    have G19 : Fld Z h12 a "com/example/knotwise/knotwise/Placement" "previous" "[I" (.ref ap) := G8.other W12 (Or.inl ne_a_aV)
    have G20 : VA Z h12 aw .int ((plcF x6 x7 wl fl ll cl nl pl).1.map Value.int) := pf1_0.other W12 ne_aw_aV
    have G21 : VA Z h12 af .int ((plcF x6 x7 wl fl ll cl nl pl).2.1.map Value.int) := pf1_1.other W12 ne_af_aV
    have G22 : VA Z h12 al .int ((plcF x6 x7 wl fl ll cl nl pl).2.2.1.map Value.int) := pf1_2.other W12 ne_al_aV
    have G23 : VA Z h12 ac .int ((plcF x6 x7 wl fl ll cl nl pl).2.2.2.1.map Value.int) := pf1_3.other W12 ne_ac_aV
    have G24 : VA Z h12 an .int ((plcF x6 x7 wl fl ll cl nl pl).2.2.2.2.1.map Value.int) := pf1_4.other W12 ne_an_aV
    have G25 : VA Z h12 ap .int ((plcF x6 x7 wl fl ll cl nl pl).2.2.2.2.2.map Value.int) := pf1_5.other W12 ne_ap_aV
    have G26 : VA Z h12 aV .int ((vl.set x6.toNatClampNeg x7).map Value.int) := V12
    have G27 : VA Z h12 aT .int (tl.map Value.int) := G10.other W12 (Ne.symm ne_aV_aT)
    have N12 := Fr.snoc X12 N1 g_aV
    have K12 : Keep h0 h12 [aw, af, al, ac, an, ap, aV, aT] := Keep.wr K1 W12 (Or.inl (List.mem_of_getElem? (i := 6) rfl))
    have Z12 : n0 ≤ h12.size := Nat.le_trans Z0 K12.1
    have ix28 : 0 ≤ (x6).toInt ∧ (x6).toInt < ((tl).length : Int) := own_ix hm ht
    obtain ⟨T29, h29, X29, e29, W29, V29, st29⟩ := putI X12 hx hZ e12 G27 ix28.1 ix28.2 (g := (mkF m 39 #[.val (.ref a), .val (.ref aV), .val (.ref aT), .val (.int xx), .val (.int tim), .val (.int x5), .val (.int x6), .val (.int x7)] [(.int tim), (.int x6), (.ref aT)])) rfl rfl (hb hby d4_39)
    have G30 : Exa Z h29 a "com/example/knotwise/knotwise/Placement" := G13.wr W29
    have G31 : Fld Z h29 a "com/example/knotwise/knotwise/Placement" "wives" "[I" (.ref aw) := G14.other W29 (Or.inl ne_a_aT)
    have G32 : Fld Z h29 a "com/example/knotwise/knotwise/Placement" "first" "[I" (.ref af) := G15.other W29 (Or.inl ne_a_aT)
    have G33 : Fld Z h29 a "com/example/knotwise/knotwise/Placement" "last" "[I" (.ref al) := G16.other W29 (Or.inl ne_a_aT)
    have G34 : Fld Z h29 a "com/example/knotwise/knotwise/Placement" "count" "[I" (.ref ac) := G17.other W29 (Or.inl ne_a_aT)
    have G35 : Fld Z h29 a "com/example/knotwise/knotwise/Placement" "next" "[I" (.ref an) := G18.other W29 (Or.inl ne_a_aT)
    have G36 : Fld Z h29 a "com/example/knotwise/knotwise/Placement" "previous" "[I" (.ref ap) := G19.other W29 (Or.inl ne_a_aT)
    have G37 : VA Z h29 aw .int ((plcF x6 x7 wl fl ll cl nl pl).1.map Value.int) := G20.other W29 ne_aw_aT
    have G38 : VA Z h29 af .int ((plcF x6 x7 wl fl ll cl nl pl).2.1.map Value.int) := G21.other W29 ne_af_aT
    have G39 : VA Z h29 al .int ((plcF x6 x7 wl fl ll cl nl pl).2.2.1.map Value.int) := G22.other W29 ne_al_aT
    have G40 : VA Z h29 ac .int ((plcF x6 x7 wl fl ll cl nl pl).2.2.2.1.map Value.int) := G23.other W29 ne_ac_aT
    have G41 : VA Z h29 an .int ((plcF x6 x7 wl fl ll cl nl pl).2.2.2.2.1.map Value.int) := G24.other W29 ne_an_aT
    have G42 : VA Z h29 ap .int ((plcF x6 x7 wl fl ll cl nl pl).2.2.2.2.2.map Value.int) := G25.other W29 ne_ap_aT
    have G43 : VA Z h29 aV .int ((vl.set x6.toNatClampNeg x7).map Value.int) := G26.other W29 ne_aV_aT
    have G44 : VA Z h29 aT .int ((tl.set x6.toNatClampNeg tim).map Value.int) := V29
    have N29 := Fr.snoc X29 N12 g_aT
    have K29 : Keep h0 h29 [aw, af, al, ac, an, ap, aV, aT] := Keep.wr K12 W29 (Or.inl (List.mem_of_getElem? (i := 7) rfl))
    have Z29 : n0 ≤ h29.size := Nat.le_trans Z0 K29.1
    refine Go.step (T' := T29) (f' := (mkF m 40 #[.val (.ref a), .val (.ref aV), .val (.ref aT), .val (.int xx), .val (.int tim), .val (.int x5), .val (.int x6), .val (.int x7)] [])) (fun t kt => ?_) ?_
    · show Steps p.tables e below (T.setTop (mkF m 20 #[.val (.ref a), .val (.ref aV), .val (.ref aT), .val (.int xx), .val (.int tim), .val (.int x5), .val (.int x6), .val (.int x7)] [])) _
      refine XS.aloadN X.here hx rfl (hb hby d4_20) rfl rfl ?_
      show Steps p.tables e below (T.setTop (mkF m 21 #[.val (.ref a), .val (.ref aV), .val (.ref aT), .val (.int xx), .val (.int tim), .val (.int x5), .val (.int x6), .val (.int x7)] [(.ref a)])) _
      refine XS.iload X.here hx rfl (hb hby d4_21) rfl ?_
      show Steps p.tables e below (T.setTop (mkF m 23 #[.val (.ref a), .val (.ref aV), .val (.ref aT), .val (.int xx), .val (.int tim), .val (.int x5), .val (.int x6), .val (.int x7)] [(.int x6), (.ref a)])) _
      refine XS.iload X.here hx rfl (hb hby d4_23) rfl ?_
      show Steps p.tables e below (T.setTop (mkF m 25 #[.val (.ref a), .val (.ref aV), .val (.ref aT), .val (.int xx), .val (.int tim), .val (.int x5), .val (.int x6), .val (.int x7)] [(.int x7), (.int x6), (.ref a)])) _
      refine st1.trans ?_
      show Steps p.tables e below (T1.setTop (mkF m 28 #[.val (.ref a), .val (.ref aV), .val (.ref aT), .val (.int xx), .val (.int tim), .val (.int x5), .val (.int x6), .val (.int x7)] [])) _
      refine XS.aloadN X1.here hx rfl (hb hby d4_28) rfl rfl ?_
      show Steps p.tables e below (T1.setTop (mkF m 29 #[.val (.ref a), .val (.ref aV), .val (.ref aT), .val (.int xx), .val (.int tim), .val (.int x5), .val (.int x6), .val (.int x7)] [(.ref aV)])) _
      refine XS.iload X1.here hx rfl (hb hby d4_29) rfl ?_
      show Steps p.tables e below (T1.setTop (mkF m 31 #[.val (.ref a), .val (.ref aV), .val (.ref aT), .val (.int xx), .val (.int tim), .val (.int x5), .val (.int x6), .val (.int x7)] [(.int x6), (.ref aV)])) _
      refine XS.iload X1.here hx rfl (hb hby d4_31) rfl ?_
      show Steps p.tables e below (T1.setTop (mkF m 33 #[.val (.ref a), .val (.ref aV), .val (.ref aT), .val (.int xx), .val (.int tim), .val (.int x5), .val (.int x6), .val (.int x7)] [(.int x7), (.int x6), (.ref aV)])) _
      refine st12 _ ?_
      show Steps p.tables e below (T12.setTop (mkF m 34 #[.val (.ref a), .val (.ref aV), .val (.ref aT), .val (.int xx), .val (.int tim), .val (.int x5), .val (.int x6), .val (.int x7)] [])) _
      refine XS.aloadN X12.here hx rfl (hb hby d4_34) rfl rfl ?_
      show Steps p.tables e below (T12.setTop (mkF m 35 #[.val (.ref a), .val (.ref aV), .val (.ref aT), .val (.int xx), .val (.int tim), .val (.int x5), .val (.int x6), .val (.int x7)] [(.ref aT)])) _
      refine XS.iload X12.here hx rfl (hb hby d4_35) rfl ?_
      show Steps p.tables e below (T12.setTop (mkF m 37 #[.val (.ref a), .val (.ref aV), .val (.ref aT), .val (.int xx), .val (.int tim), .val (.int x5), .val (.int x6), .val (.int x7)] [(.int x6), (.ref aT)])) _
      refine XS.iload X12.here hx rfl (hb hby d4_37) rfl ?_
      show Steps p.tables e below (T12.setTop (mkF m 39 #[.val (.ref a), .val (.ref aV), .val (.ref aT), .val (.int xx), .val (.int tim), .val (.int x5), .val (.int x6), .val (.int x7)] [(.int tim), (.int x6), (.ref aT)])) _
      refine st29 _ ?_
      exact kt
    refine Go.fin X29 (v := none) (fun _ => rfl) Bd.notSynchronized ?_ (Nat.le_trans (Nat.add_le_add_right hcl 0) (by decide)) (Nat.le_trans (Nat.add_le_add_right hsl 0) (by decide)) (fun fs hr => X29.returnOut hx Bd.returns (hb hby d4_40) hr)
    · show QstpF Z a aV aT xx tim aw af al ac an ap wl fl ll cl nl pl vl tl RES h0 n0 _ T29.heap _
      rw [e29, hf]
      exact ⟨rfl, N29, K29, G37, G38, G39, G40, G41, G42, G43, G44⟩
  refine Go.step (T' := s₁) (f' := (mkF m 20 #[.val (.ref a), .val (.ref aV), .val (.ref aT), .val (.int xx), .val (.int tim), .val (.int (xx &&& (2147483647 : Int32))), .val (.int ((xx &&& (2147483647 : Int32)) % (3 : Int32))), .val (.int (((xx &&& (2147483647 : Int32)) / (3 : Int32)) % (2 : Int32)))] [])) (fun t kt => ?_) ?_
  · show Steps p.tables e below (s₁.setTop (mkF m 0 #[.val (.ref a), .val (.ref aV), .val (.ref aT), .val (.int xx), .val (.int tim), .unset, .unset, .unset] [])) _
    refine XS.iloadN X0.here hx rfl (hb hby d4_0) rfl ?_
    show Steps p.tables e below (s₁.setTop (mkF m 1 #[.val (.ref a), .val (.ref aV), .val (.ref aT), .val (.int xx), .val (.int tim), .unset, .unset, .unset] [(.int xx)])) _
    refine X0.ldcInt hx hown (mvT hZ (hw _ (List.mem_of_getElem? (i := 30) rfl))) (g := (mkF m 1 #[.val (.ref a), .val (.ref aV), .val (.ref aT), .val (.int xx), .val (.int tim), .unset, .unset, .unset] [(.int xx)])) rfl (hb hby d4_1) _ ?_
    show Steps p.tables e below (s₁.setTop (mkF m 3 #[.val (.ref a), .val (.ref aV), .val (.ref aT), .val (.int xx), .val (.int tim), .unset, .unset, .unset] [(.int (2147483647 : Int32)), (.int xx)])) _
    refine XS.iand X0.here hx rfl (hb hby d4_3) rfl ?_
    show Steps p.tables e below (s₁.setTop (mkF m 4 #[.val (.ref a), .val (.ref aV), .val (.ref aT), .val (.int xx), .val (.int tim), .unset, .unset, .unset] [(.int (xx &&& (2147483647 : Int32)))])) _
    refine XS.istore X0.here hx rfl (hb hby d4_4) rfl (l' := #[.val (.ref a), .val (.ref aV), .val (.ref aT), .val (.int xx), .val (.int tim), .val (.int (xx &&& (2147483647 : Int32))), .unset, .unset]) rfl ?_
    show Steps p.tables e below (s₁.setTop (mkF m 6 #[.val (.ref a), .val (.ref aV), .val (.ref aT), .val (.int xx), .val (.int tim), .val (.int (xx &&& (2147483647 : Int32))), .unset, .unset] [])) _
    refine XS.iload X0.here hx rfl (hb hby d4_6) rfl ?_
    show Steps p.tables e below (s₁.setTop (mkF m 8 #[.val (.ref a), .val (.ref aV), .val (.ref aT), .val (.int xx), .val (.int tim), .val (.int (xx &&& (2147483647 : Int32))), .unset, .unset] [(.int (xx &&& (2147483647 : Int32)))])) _
    refine XS.iconst X0.here hx rfl (hb hby d4_8) ?_
    show Steps p.tables e below (s₁.setTop (mkF m 9 #[.val (.ref a), .val (.ref aV), .val (.ref aT), .val (.int xx), .val (.int tim), .val (.int (xx &&& (2147483647 : Int32))), .unset, .unset] [(.int (3 : Int32)), (.int (xx &&& (2147483647 : Int32)))])) _
    refine XS.irem X0.here hx rfl (hb hby d4_9) rfl (by decide) ?_
    show Steps p.tables e below (s₁.setTop (mkF m 10 #[.val (.ref a), .val (.ref aV), .val (.ref aT), .val (.int xx), .val (.int tim), .val (.int (xx &&& (2147483647 : Int32))), .unset, .unset] [(.int ((xx &&& (2147483647 : Int32)) - ((xx &&& (2147483647 : Int32)) / (3 : Int32)) * (3 : Int32)))])) _
    rw [own_irem ((xx &&& (2147483647 : Int32))) ((3 : Int32))]
    show Steps p.tables e below (s₁.setTop (mkF m 10 #[.val (.ref a), .val (.ref aV), .val (.ref aT), .val (.int xx), .val (.int tim), .val (.int (xx &&& (2147483647 : Int32))), .unset, .unset] [(.int ((xx &&& (2147483647 : Int32)) % (3 : Int32)))])) _
    refine XS.istore X0.here hx rfl (hb hby d4_10) rfl (l' := #[.val (.ref a), .val (.ref aV), .val (.ref aT), .val (.int xx), .val (.int tim), .val (.int (xx &&& (2147483647 : Int32))), .val (.int ((xx &&& (2147483647 : Int32)) % (3 : Int32))), .unset]) rfl ?_
    show Steps p.tables e below (s₁.setTop (mkF m 12 #[.val (.ref a), .val (.ref aV), .val (.ref aT), .val (.int xx), .val (.int tim), .val (.int (xx &&& (2147483647 : Int32))), .val (.int ((xx &&& (2147483647 : Int32)) % (3 : Int32))), .unset] [])) _
    refine XS.iload X0.here hx rfl (hb hby d4_12) rfl ?_
    show Steps p.tables e below (s₁.setTop (mkF m 14 #[.val (.ref a), .val (.ref aV), .val (.ref aT), .val (.int xx), .val (.int tim), .val (.int (xx &&& (2147483647 : Int32))), .val (.int ((xx &&& (2147483647 : Int32)) % (3 : Int32))), .unset] [(.int (xx &&& (2147483647 : Int32)))])) _
    refine XS.iconst X0.here hx rfl (hb hby d4_14) ?_
    show Steps p.tables e below (s₁.setTop (mkF m 15 #[.val (.ref a), .val (.ref aV), .val (.ref aT), .val (.int xx), .val (.int tim), .val (.int (xx &&& (2147483647 : Int32))), .val (.int ((xx &&& (2147483647 : Int32)) % (3 : Int32))), .unset] [(.int (3 : Int32)), (.int (xx &&& (2147483647 : Int32)))])) _
    refine XS.idiv X0.here hx rfl (hb hby d4_15) rfl (by decide) ?_
    show Steps p.tables e below (s₁.setTop (mkF m 16 #[.val (.ref a), .val (.ref aV), .val (.ref aT), .val (.int xx), .val (.int tim), .val (.int (xx &&& (2147483647 : Int32))), .val (.int ((xx &&& (2147483647 : Int32)) % (3 : Int32))), .unset] [(.int ((xx &&& (2147483647 : Int32)) / (3 : Int32)))])) _
    refine XS.iconst X0.here hx rfl (hb hby d4_16) ?_
    show Steps p.tables e below (s₁.setTop (mkF m 17 #[.val (.ref a), .val (.ref aV), .val (.ref aT), .val (.int xx), .val (.int tim), .val (.int (xx &&& (2147483647 : Int32))), .val (.int ((xx &&& (2147483647 : Int32)) % (3 : Int32))), .unset] [(.int (2 : Int32)), (.int ((xx &&& (2147483647 : Int32)) / (3 : Int32)))])) _
    refine XS.irem X0.here hx rfl (hb hby d4_17) rfl (by decide) ?_
    show Steps p.tables e below (s₁.setTop (mkF m 18 #[.val (.ref a), .val (.ref aV), .val (.ref aT), .val (.int xx), .val (.int tim), .val (.int (xx &&& (2147483647 : Int32))), .val (.int ((xx &&& (2147483647 : Int32)) % (3 : Int32))), .unset] [(.int (((xx &&& (2147483647 : Int32)) / (3 : Int32)) - (((xx &&& (2147483647 : Int32)) / (3 : Int32)) / (2 : Int32)) * (2 : Int32)))])) _
    rw [own_irem (((xx &&& (2147483647 : Int32)) / (3 : Int32))) ((2 : Int32))]
    show Steps p.tables e below (s₁.setTop (mkF m 18 #[.val (.ref a), .val (.ref aV), .val (.ref aT), .val (.int xx), .val (.int tim), .val (.int (xx &&& (2147483647 : Int32))), .val (.int ((xx &&& (2147483647 : Int32)) % (3 : Int32))), .unset] [(.int (((xx &&& (2147483647 : Int32)) / (3 : Int32)) % (2 : Int32)))])) _
    refine XS.istore X0.here hx rfl (hb hby d4_18) rfl (l' := #[.val (.ref a), .val (.ref aV), .val (.ref aT), .val (.int xx), .val (.int tim), .val (.int (xx &&& (2147483647 : Int32))), .val (.int ((xx &&& (2147483647 : Int32)) % (3 : Int32))), .val (.int (((xx &&& (2147483647 : Int32)) / (3 : Int32)) % (2 : Int32)))]) rfl ?_
    exact kt
  exact S20 _ _ _ _ X0 (Nat.le_trans (Nat.le_refl 0) (by decide)) (Nat.le_trans (Nat.le_refl 0) (by decide)) h0 e0 N0 (xx &&& (2147483647 : Int32)) ((xx &&& (2147483647 : Int32)) % (3 : Int32)) (((xx &&& (2147483647 : Int32)) / (3 : Int32)) % (2 : Int32)) (Keep.refl h0 [aw, af, al, ac, an, ap, aV, aT]) F0 F1 F2 F3 F4 F5 F6 F7 F8 F9 F10 F11 F12 F13 F14 (own_m3 xx) (own_w2 xx) hf
theorem d8_0 : decode method_4_code 0 = .ok (.iconst 0, 1) := by decide +kernel
theorem d8_1 : decode method_4_code 1 = .ok (.istore_n 2, 1) := by decide +kernel
theorem d8_2 : decode method_4_code 2 = .ok (.aload_n 0, 1) := by decide +kernel
theorem d8_3 : decode method_4_code 3 = .ok (.iconst 0, 1) := by decide +kernel
theorem d8_4 : decode method_4_code 4 = .ok (.iaload, 1) := by decide +kernel
theorem d8_5 : decode method_4_code 5 = .ok (.iload_n 1, 1) := by decide +kernel
theorem d8_6 : decode method_4_code 6 = .ok (.if_icmp .ne 7, 3) := by decide +kernel
theorem d8_9 : decode method_4_code 9 = .ok (.iload_n 2, 1) := by decide +kernel
theorem d8_10 : decode method_4_code 10 = .ok (.iconst 1, 1) := by decide +kernel
theorem d8_11 : decode method_4_code 11 = .ok (.iadd, 1) := by decide +kernel
theorem d8_12 : decode method_4_code 12 = .ok (.istore_n 2, 1) := by decide +kernel
theorem d8_13 : decode method_4_code 13 = .ok (.aload_n 0, 1) := by decide +kernel
theorem d8_14 : decode method_4_code 14 = .ok (.iconst 1, 1) := by decide +kernel
theorem d8_15 : decode method_4_code 15 = .ok (.iaload, 1) := by decide +kernel
theorem d8_16 : decode method_4_code 16 = .ok (.iload_n 1, 1) := by decide +kernel
theorem d8_17 : decode method_4_code 17 = .ok (.if_icmp .ne 7, 3) := by decide +kernel
theorem d8_20 : decode method_4_code 20 = .ok (.iload_n 2, 1) := by decide +kernel
theorem d8_21 : decode method_4_code 21 = .ok (.iconst 1, 1) := by decide +kernel
theorem d8_22 : decode method_4_code 22 = .ok (.iadd, 1) := by decide +kernel
theorem d8_23 : decode method_4_code 23 = .ok (.istore_n 2, 1) := by decide +kernel
theorem d8_24 : decode method_4_code 24 = .ok (.aload_n 0, 1) := by decide +kernel
theorem d8_25 : decode method_4_code 25 = .ok (.iconst 2, 1) := by decide +kernel
theorem d8_26 : decode method_4_code 26 = .ok (.iaload, 1) := by decide +kernel
theorem d8_27 : decode method_4_code 27 = .ok (.iload_n 1, 1) := by decide +kernel
theorem d8_28 : decode method_4_code 28 = .ok (.if_icmp .ne 7, 3) := by decide +kernel
theorem d8_31 : decode method_4_code 31 = .ok (.iload_n 2, 1) := by decide +kernel
theorem d8_32 : decode method_4_code 32 = .ok (.iconst 1, 1) := by decide +kernel
theorem d8_33 : decode method_4_code 33 = .ok (.iadd, 1) := by decide +kernel
theorem d8_34 : decode method_4_code 34 = .ok (.istore_n 2, 1) := by decide +kernel
theorem d8_35 : decode method_4_code 35 = .ok (.iload_n 2, 1) := by decide +kernel
theorem d8_36 : decode method_4_code 36 = .ok (.ireturn, 1) := by decide +kernel
theorem ef_crfF (m : MethodId) (x0 : Addr) (x1 : Int32) : entryFrame m #[(.ref x0), (.int x1)] 3 = mkF m 0 #[.val (.ref x0), .val (.int x1), .unset] [] := by first | (simp [entryFrame, mkF, argsToLocals, Value.category]; done) | rfl
def crfF_35  (x2 : Int32) : Int32 := x2
def crfF_24 (q : Int32) (vl : List Int32) (x2 : Int32) : Int32 := (if (vl.getD 2 (0 : Int32)) = q then (crfF_35  (x2 + (1 : Int32))) else (crfF_35  x2))
def crfF_13 (q : Int32) (vl : List Int32) (x2 : Int32) : Int32 := (if (vl.getD 1 (0 : Int32)) = q then (crfF_24 q vl (x2 + (1 : Int32))) else (crfF_24 q vl x2))
def crfF (q : Int32) (vl : List Int32) : Int32 := (if (vl.getD 0 (0 : Int32)) = q then (crfF_13 q vl (1 : Int32)) else (crfF_13 q vl (0 : Int32)))
def QcrfF (Z : State) (a : Addr) (q : Int32) (vl : List Int32) (RES : Int32) (h0 : Heap) (n0 : Nat) (v : Option Value) (h : Heap) (L : List Loc) : Prop := v = some (.int RES) ∧ Fr n0 L ∧ h = h0
set_option maxRecDepth 65536 in
set_option maxHeartbeats 40000000 in
theorem rm_crfF (l : Launch) (Z : State) (a0 : Array Value) (hw : ∀ d ∈ tables_1, d.before a0 Z = true) (ws : List Jvm.Cond) (a : Addr) (q : Int32) (vl : List Int32) (h0 : Heap) (n0 : Nat) (Z0 : n0 ≤ h0.size) (F0 : VA Z h0 a .int (vl.map Value.int)) (hv : vl.length = 3) :
    MetFree l (⟨"com/example/knotwise/knotwise/PlacementPlacePinLaw", "countRef", "([II)I"⟩ : MethodName) (head1 (Jvm.Cond.code (⟨"com/example/knotwise/knotwise/PlacementPlacePinLaw", "countRef", "([II)I"⟩ : MethodName) method_4_code 3 (some .int) :: ws) ({ frames := 0, cells := 0, slots := 0, locals := 0 } : Room)) (fun A_ U => A_ = #[(.ref a), (.int q)] ∧ Z.Warmed39 U.vm ∧ U.heap = h0) (fun _ _ _ _ _ => True) (fun _ U o U' => ∃ v L, o = .returned v ∧ QcrfF Z a q vl (crfF q vl) h0 n0 v U'.heap L ∧ FrameEnd U o U' L ({ frames := 0, cells := 0, slots := 0, locals := 0 } : Room).cells ({ frames := 0, cells := 0, slots := 0, locals := 0 } : Room).slots) := by
  refine MetFree.of_bodySF (plainFor_of_name pn_2) hisR ?_
  intro p e s m args below meth c s₁ Bd hml0 hP hK
  obtain ⟨rfl, hZ, hh⟩ := hP
  have hx := Bd.exec
  have hby := Bd.bytes
  have hml : c.maxLocals = 3 := hml0
  have hown : s.vm.findClass "com/example/knotwise/knotwise/PlacementPlacePinLaw" = some m.cls := findClass_of_methodNamed Bd.named
  have hnm := (name_of_methodNamed Bd.named Bd.method).1
  have X0 : Stand p l e ({ frames := 0, cells := 0, slots := 0, locals := 0 } : Room) s m #[(.ref a), (.int q)] below meth c s₁ [] 0 0 := Stand.of_body Bd
  have e0 : s₁.heap = h0 := by rw [← hh, Bd.state]; rfl
  have N0 := Fr.nil n0
  obtain ⟨RES, hf⟩ : ∃ z, z = crfF q vl := ⟨_, rfl⟩
  rw [← hf]
  rw [crfF] at hf
  suffices HGO : Go p e below s (QcrfF Z a q vl RES h0 n0) ({ frames := 0, cells := 0, slots := 0, locals := 0 } : Room).cells ({ frames := 0, cells := 0, slots := 0, locals := 0 } : Room).slots s₁ (mkF m 0 #[.val (.ref a), .val (.int q), .unset] []) from Go.cast (ef_crfF m a q) HGO
  have S35 : ∀ (T : State) (locs : List Loc) (cells slots : Nat) (X : Stand p l e ({ frames := 0, cells := 0, slots := 0, locals := 0 } : Room) s m #[(.ref a), (.int q)] below meth c T locs cells slots) (hcl : cells ≤ 0) (hsl : slots ≤ 0) (eT : T.heap = h0) (N : Fr n0 locs) (x2 : Int32)  (hf : RES = crfF_35  x2), Go p e below s (QcrfF Z a q vl RES h0 n0) ({ frames := 0, cells := 0, slots := 0, locals := 0 } : Room).cells ({ frames := 0, cells := 0, slots := 0, locals := 0 } : Room).slots T (mkF m 35 #[.val (.ref a), .val (.int q), .val (.int x2)] []) := by
    intro T locs cells slots X hcl hsl eT N x2 hf
    rw [crfF_35] at hf
    refine Go.step (T' := T) (f' := (mkF m 36 #[.val (.ref a), .val (.int q), .val (.int x2)] [(.int x2)])) (fun t kt => ?_) ?_
    · show Steps p.tables e below (T.setTop (mkF m 35 #[.val (.ref a), .val (.int q), .val (.int x2)] [])) _
      refine XS.iloadN X.here hx rfl (hb hby d8_35) rfl ?_
      exact kt
    refine Go.fin X (v := some (.int x2)) (fun h => by rw [Bd.returns] at h; cases h) Bd.notSynchronized ?_ (Nat.le_trans hcl (by decide)) (Nat.le_trans hsl (by decide)) (fun fs hr => retI X hx Bd.returns (hb hby d8_36) hr)
    · exact ⟨by rw [hf], N, eT⟩
  have S24 : ∀ (T : State) (locs : List Loc) (cells slots : Nat) (X : Stand p l e ({ frames := 0, cells := 0, slots := 0, locals := 0 } : Room) s m #[(.ref a), (.int q)] below meth c T locs cells slots) (hcl : cells ≤ 0) (hsl : slots ≤ 0) (eT : T.heap = h0) (N : Fr n0 locs) (x2 : Int32)  (hf : RES = crfF_24 q vl x2), Go p e below s (QcrfF Z a q vl RES h0 n0) ({ frames := 0, cells := 0, slots := 0, locals := 0 } : Room).cells ({ frames := 0, cells := 0, slots := 0, locals := 0 } : Room).slots T (mkF m 24 #[.val (.ref a), .val (.int q), .val (.int x2)] []) := by
    intro T locs cells slots X hcl hsl eT N x2 hf
    rw [crfF_24] at hf
    have ix1 : 0 ≤ ((2 : Int32)).toInt ∧ ((2 : Int32)).toInt < ((vl).length : Int) := by constructor <;> first | decide | (rw [hv]; decide)
    refine Go.step (T' := T) (f' := (mkF m 28 #[.val (.ref a), .val (.int q), .val (.int x2)] [(.int q), (.int (vl.getD 2 (0 : Int32)))])) (fun t kt => ?_) ?_
    · show Steps p.tables e below (T.setTop (mkF m 24 #[.val (.ref a), .val (.int q), .val (.int x2)] [])) _
      refine XS.aloadN X.here hx rfl (hb hby d8_24) rfl rfl ?_
      show Steps p.tables e below (T.setTop (mkF m 25 #[.val (.ref a), .val (.int q), .val (.int x2)] [(.ref a)])) _
      refine XS.iconst X.here hx rfl (hb hby d8_25) ?_
      show Steps p.tables e below (T.setTop (mkF m 26 #[.val (.ref a), .val (.int q), .val (.int x2)] [(.int (2 : Int32)), (.ref a)])) _
      refine ldI X hx hZ eT F0 ix1.1 ix1.2 (g := (mkF m 26 #[.val (.ref a), .val (.int q), .val (.int x2)] [(.int (2 : Int32)), (.ref a)])) rfl rfl (hb hby d8_26) _ ?_
      show Steps p.tables e below (T.setTop (mkF m 27 #[.val (.ref a), .val (.int q), .val (.int x2)] [(.int (vl.getD 2 (0 : Int32)))])) _
      refine XS.iloadN X.here hx rfl (hb hby d8_27) rfl ?_
      exact kt
    by_cases hc2 : (vl.getD 2 (0 : Int32)) = q
    · rw [if_pos hc2] at hf
      refine Go.step (T' := T) (f' := (mkF m 31 #[.val (.ref a), .val (.int q), .val (.int x2)] [])) (fun t kt => ?_) ?_
      · show Steps p.tables e below (T.setTop (mkF m 28 #[.val (.ref a), .val (.int q), .val (.int x2)] [(.int q), (.int (vl.getD 2 (0 : Int32)))])) _
        refine XS.icmpNo X.here hx rfl (hb hby d8_28) rfl (teq hc2).2 ?_
        exact kt
      refine Go.step (T' := T) (f' := (mkF m 35 #[.val (.ref a), .val (.int q), .val (.int (x2 + (1 : Int32)))] [])) (fun t kt => ?_) ?_
      · show Steps p.tables e below (T.setTop (mkF m 31 #[.val (.ref a), .val (.int q), .val (.int x2)] [])) _
        refine XS.iloadN X.here hx rfl (hb hby d8_31) rfl ?_
        show Steps p.tables e below (T.setTop (mkF m 32 #[.val (.ref a), .val (.int q), .val (.int x2)] [(.int x2)])) _
        refine XS.iconst X.here hx rfl (hb hby d8_32) ?_
        show Steps p.tables e below (T.setTop (mkF m 33 #[.val (.ref a), .val (.int q), .val (.int x2)] [(.int (1 : Int32)), (.int x2)])) _
        refine XS.iadd X.here hx rfl (hb hby d8_33) rfl ?_
        show Steps p.tables e below (T.setTop (mkF m 34 #[.val (.ref a), .val (.int q), .val (.int x2)] [(.int (x2 + (1 : Int32)))])) _
        refine XS.istoreN X.here hx rfl (hb hby d8_34) rfl (l' := #[.val (.ref a), .val (.int q), .val (.int (x2 + (1 : Int32)))]) rfl ?_
        exact kt
      exact S35 _ _ _ _ X (Nat.le_trans hcl (by decide)) (Nat.le_trans hsl (by decide)) eT N (x2 + (1 : Int32)) hf
    · rw [if_neg hc2] at hf
      refine Go.step (T' := T) (f' := (mkF m 35 #[.val (.ref a), .val (.int q), .val (.int x2)] [])) (fun t kt => ?_) ?_
      · show Steps p.tables e below (T.setTop (mkF m 28 #[.val (.ref a), .val (.int q), .val (.int x2)] [(.int q), (.int (vl.getD 2 (0 : Int32)))])) _
        refine XS.icmpYes X.here hx rfl (pc0 := 28) (pc' := 35) rfl (hb hby d8_28) rfl (feq hc2).2 (by decide) (by decide) ?_
        exact kt
      exact S35 _ _ _ _ X (Nat.le_trans hcl (by decide)) (Nat.le_trans hsl (by decide)) eT N x2 hf
  have S13 : ∀ (T : State) (locs : List Loc) (cells slots : Nat) (X : Stand p l e ({ frames := 0, cells := 0, slots := 0, locals := 0 } : Room) s m #[(.ref a), (.int q)] below meth c T locs cells slots) (hcl : cells ≤ 0) (hsl : slots ≤ 0) (eT : T.heap = h0) (N : Fr n0 locs) (x2 : Int32)  (hf : RES = crfF_13 q vl x2), Go p e below s (QcrfF Z a q vl RES h0 n0) ({ frames := 0, cells := 0, slots := 0, locals := 0 } : Room).cells ({ frames := 0, cells := 0, slots := 0, locals := 0 } : Room).slots T (mkF m 13 #[.val (.ref a), .val (.int q), .val (.int x2)] []) := by
    intro T locs cells slots X hcl hsl eT N x2 hf
    rw [crfF_13] at hf
    have ix3 : 0 ≤ ((1 : Int32)).toInt ∧ ((1 : Int32)).toInt < ((vl).length : Int) := by constructor <;> first | decide | (rw [hv]; decide)
    refine Go.step (T' := T) (f' := (mkF m 17 #[.val (.ref a), .val (.int q), .val (.int x2)] [(.int q), (.int (vl.getD 1 (0 : Int32)))])) (fun t kt => ?_) ?_
    · show Steps p.tables e below (T.setTop (mkF m 13 #[.val (.ref a), .val (.int q), .val (.int x2)] [])) _
      refine XS.aloadN X.here hx rfl (hb hby d8_13) rfl rfl ?_
      show Steps p.tables e below (T.setTop (mkF m 14 #[.val (.ref a), .val (.int q), .val (.int x2)] [(.ref a)])) _
      refine XS.iconst X.here hx rfl (hb hby d8_14) ?_
      show Steps p.tables e below (T.setTop (mkF m 15 #[.val (.ref a), .val (.int q), .val (.int x2)] [(.int (1 : Int32)), (.ref a)])) _
      refine ldI X hx hZ eT F0 ix3.1 ix3.2 (g := (mkF m 15 #[.val (.ref a), .val (.int q), .val (.int x2)] [(.int (1 : Int32)), (.ref a)])) rfl rfl (hb hby d8_15) _ ?_
      show Steps p.tables e below (T.setTop (mkF m 16 #[.val (.ref a), .val (.int q), .val (.int x2)] [(.int (vl.getD 1 (0 : Int32)))])) _
      refine XS.iloadN X.here hx rfl (hb hby d8_16) rfl ?_
      exact kt
    by_cases hc4 : (vl.getD 1 (0 : Int32)) = q
    · rw [if_pos hc4] at hf
      refine Go.step (T' := T) (f' := (mkF m 20 #[.val (.ref a), .val (.int q), .val (.int x2)] [])) (fun t kt => ?_) ?_
      · show Steps p.tables e below (T.setTop (mkF m 17 #[.val (.ref a), .val (.int q), .val (.int x2)] [(.int q), (.int (vl.getD 1 (0 : Int32)))])) _
        refine XS.icmpNo X.here hx rfl (hb hby d8_17) rfl (teq hc4).2 ?_
        exact kt
      refine Go.step (T' := T) (f' := (mkF m 24 #[.val (.ref a), .val (.int q), .val (.int (x2 + (1 : Int32)))] [])) (fun t kt => ?_) ?_
      · show Steps p.tables e below (T.setTop (mkF m 20 #[.val (.ref a), .val (.int q), .val (.int x2)] [])) _
        refine XS.iloadN X.here hx rfl (hb hby d8_20) rfl ?_
        show Steps p.tables e below (T.setTop (mkF m 21 #[.val (.ref a), .val (.int q), .val (.int x2)] [(.int x2)])) _
        refine XS.iconst X.here hx rfl (hb hby d8_21) ?_
        show Steps p.tables e below (T.setTop (mkF m 22 #[.val (.ref a), .val (.int q), .val (.int x2)] [(.int (1 : Int32)), (.int x2)])) _
        refine XS.iadd X.here hx rfl (hb hby d8_22) rfl ?_
        show Steps p.tables e below (T.setTop (mkF m 23 #[.val (.ref a), .val (.int q), .val (.int x2)] [(.int (x2 + (1 : Int32)))])) _
        refine XS.istoreN X.here hx rfl (hb hby d8_23) rfl (l' := #[.val (.ref a), .val (.int q), .val (.int (x2 + (1 : Int32)))]) rfl ?_
        exact kt
      exact S24 _ _ _ _ X (Nat.le_trans hcl (by decide)) (Nat.le_trans hsl (by decide)) eT N (x2 + (1 : Int32)) hf
    · rw [if_neg hc4] at hf
      refine Go.step (T' := T) (f' := (mkF m 24 #[.val (.ref a), .val (.int q), .val (.int x2)] [])) (fun t kt => ?_) ?_
      · show Steps p.tables e below (T.setTop (mkF m 17 #[.val (.ref a), .val (.int q), .val (.int x2)] [(.int q), (.int (vl.getD 1 (0 : Int32)))])) _
        refine XS.icmpYes X.here hx rfl (pc0 := 17) (pc' := 24) rfl (hb hby d8_17) rfl (feq hc4).2 (by decide) (by decide) ?_
        exact kt
      exact S24 _ _ _ _ X (Nat.le_trans hcl (by decide)) (Nat.le_trans hsl (by decide)) eT N x2 hf
  have ix5 : 0 ≤ ((0 : Int32)).toInt ∧ ((0 : Int32)).toInt < ((vl).length : Int) := by constructor <;> first | decide | (rw [hv]; decide)
  refine Go.step (T' := s₁) (f' := (mkF m 6 #[.val (.ref a), .val (.int q), .val (.int (0 : Int32))] [(.int q), (.int (vl.getD 0 (0 : Int32)))])) (fun t kt => ?_) ?_
  · show Steps p.tables e below (s₁.setTop (mkF m 0 #[.val (.ref a), .val (.int q), .unset] [])) _
    refine XS.iconst X0.here hx rfl (hb hby d8_0) ?_
    show Steps p.tables e below (s₁.setTop (mkF m 1 #[.val (.ref a), .val (.int q), .unset] [(.int (0 : Int32))])) _
    refine XS.istoreN X0.here hx rfl (hb hby d8_1) rfl (l' := #[.val (.ref a), .val (.int q), .val (.int (0 : Int32))]) rfl ?_
    show Steps p.tables e below (s₁.setTop (mkF m 2 #[.val (.ref a), .val (.int q), .val (.int (0 : Int32))] [])) _
    refine XS.aloadN X0.here hx rfl (hb hby d8_2) rfl rfl ?_
    show Steps p.tables e below (s₁.setTop (mkF m 3 #[.val (.ref a), .val (.int q), .val (.int (0 : Int32))] [(.ref a)])) _
    refine XS.iconst X0.here hx rfl (hb hby d8_3) ?_
    show Steps p.tables e below (s₁.setTop (mkF m 4 #[.val (.ref a), .val (.int q), .val (.int (0 : Int32))] [(.int (0 : Int32)), (.ref a)])) _
    refine ldI X0 hx hZ e0 F0 ix5.1 ix5.2 (g := (mkF m 4 #[.val (.ref a), .val (.int q), .val (.int (0 : Int32))] [(.int (0 : Int32)), (.ref a)])) rfl rfl (hb hby d8_4) _ ?_
    show Steps p.tables e below (s₁.setTop (mkF m 5 #[.val (.ref a), .val (.int q), .val (.int (0 : Int32))] [(.int (vl.getD 0 (0 : Int32)))])) _
    refine XS.iloadN X0.here hx rfl (hb hby d8_5) rfl ?_
    exact kt
  by_cases hc6 : (vl.getD 0 (0 : Int32)) = q
  · rw [if_pos hc6] at hf
    refine Go.step (T' := s₁) (f' := (mkF m 9 #[.val (.ref a), .val (.int q), .val (.int (0 : Int32))] [])) (fun t kt => ?_) ?_
    · show Steps p.tables e below (s₁.setTop (mkF m 6 #[.val (.ref a), .val (.int q), .val (.int (0 : Int32))] [(.int q), (.int (vl.getD 0 (0 : Int32)))])) _
      refine XS.icmpNo X0.here hx rfl (hb hby d8_6) rfl (teq hc6).2 ?_
      exact kt
    refine Go.step (T' := s₁) (f' := (mkF m 13 #[.val (.ref a), .val (.int q), .val (.int (1 : Int32))] [])) (fun t kt => ?_) ?_
    · show Steps p.tables e below (s₁.setTop (mkF m 9 #[.val (.ref a), .val (.int q), .val (.int (0 : Int32))] [])) _
      refine XS.iloadN X0.here hx rfl (hb hby d8_9) rfl ?_
      show Steps p.tables e below (s₁.setTop (mkF m 10 #[.val (.ref a), .val (.int q), .val (.int (0 : Int32))] [(.int (0 : Int32))])) _
      refine XS.iconst X0.here hx rfl (hb hby d8_10) ?_
      show Steps p.tables e below (s₁.setTop (mkF m 11 #[.val (.ref a), .val (.int q), .val (.int (0 : Int32))] [(.int (1 : Int32)), (.int (0 : Int32))])) _
      refine XS.iadd X0.here hx rfl (hb hby d8_11) rfl ?_
      show Steps p.tables e below (s₁.setTop (mkF m 12 #[.val (.ref a), .val (.int q), .val (.int (0 : Int32))] [(.int (1 : Int32))])) _
      refine XS.istoreN X0.here hx rfl (hb hby d8_12) rfl (l' := #[.val (.ref a), .val (.int q), .val (.int (1 : Int32))]) rfl ?_
      exact kt
    exact S13 _ _ _ _ X0 (Nat.le_trans (Nat.le_refl 0) (by decide)) (Nat.le_trans (Nat.le_refl 0) (by decide)) e0 N0 (1 : Int32) hf
  · rw [if_neg hc6] at hf
    refine Go.step (T' := s₁) (f' := (mkF m 13 #[.val (.ref a), .val (.int q), .val (.int (0 : Int32))] [])) (fun t kt => ?_) ?_
    · show Steps p.tables e below (s₁.setTop (mkF m 6 #[.val (.ref a), .val (.int q), .val (.int (0 : Int32))] [(.int q), (.int (vl.getD 0 (0 : Int32)))])) _
      refine XS.icmpYes X0.here hx rfl (pc0 := 6) (pc' := 13) rfl (hb hby d8_6) rfl (feq hc6).2 (by decide) (by decide) ?_
      exact kt
    exact S13 _ _ _ _ X0 (Nat.le_trans (Nat.le_refl 0) (by decide)) (Nat.le_trans (Nat.le_refl 0) (by decide)) e0 N0 (0 : Int32) hf
theorem d11_0 : decode method_5_code 0 = .ok (.iconst (-1), 1) := by decide +kernel
theorem d11_1 : decode method_5_code 1 = .ok (.istore_n 3, 1) := by decide +kernel
theorem d11_2 : decode method_5_code 2 = .ok (.iconst (-1), 1) := by decide +kernel
theorem d11_3 : decode method_5_code 3 = .ok (.istore 4, 2) := by decide +kernel
theorem d11_5 : decode method_5_code 5 = .ok (.aload_n 0, 1) := by decide +kernel
theorem d11_6 : decode method_5_code 6 = .ok (.iconst 0, 1) := by decide +kernel
theorem d11_7 : decode method_5_code 7 = .ok (.iaload, 1) := by decide +kernel
theorem d11_8 : decode method_5_code 8 = .ok (.iload_n 2, 1) := by decide +kernel
theorem d11_9 : decode method_5_code 9 = .ok (.if_icmp .ne 18, 3) := by decide +kernel
theorem d11_12 : decode method_5_code 12 = .ok (.aload_n 1, 1) := by decide +kernel
theorem d11_13 : decode method_5_code 13 = .ok (.iconst 0, 1) := by decide +kernel
theorem d11_14 : decode method_5_code 14 = .ok (.iaload, 1) := by decide +kernel
theorem d11_15 : decode method_5_code 15 = .ok (.iload 4, 2) := by decide +kernel
theorem d11_17 : decode method_5_code 17 = .ok (.if_icmp .le 10, 3) := by decide +kernel
theorem d11_20 : decode method_5_code 20 = .ok (.iconst 0, 1) := by decide +kernel
theorem d11_21 : decode method_5_code 21 = .ok (.istore_n 3, 1) := by decide +kernel
theorem d11_22 : decode method_5_code 22 = .ok (.aload_n 1, 1) := by decide +kernel
theorem d11_23 : decode method_5_code 23 = .ok (.iconst 0, 1) := by decide +kernel
theorem d11_24 : decode method_5_code 24 = .ok (.iaload, 1) := by decide +kernel
theorem d11_25 : decode method_5_code 25 = .ok (.istore 4, 2) := by decide +kernel
theorem d11_27 : decode method_5_code 27 = .ok (.aload_n 0, 1) := by decide +kernel
theorem d11_28 : decode method_5_code 28 = .ok (.iconst 1, 1) := by decide +kernel
theorem d11_29 : decode method_5_code 29 = .ok (.iaload, 1) := by decide +kernel
theorem d11_30 : decode method_5_code 30 = .ok (.iload_n 2, 1) := by decide +kernel
theorem d11_31 : decode method_5_code 31 = .ok (.if_icmp .ne 18, 3) := by decide +kernel
theorem d11_34 : decode method_5_code 34 = .ok (.aload_n 1, 1) := by decide +kernel
theorem d11_35 : decode method_5_code 35 = .ok (.iconst 1, 1) := by decide +kernel
theorem d11_36 : decode method_5_code 36 = .ok (.iaload, 1) := by decide +kernel
theorem d11_37 : decode method_5_code 37 = .ok (.iload 4, 2) := by decide +kernel
theorem d11_39 : decode method_5_code 39 = .ok (.if_icmp .le 10, 3) := by decide +kernel
theorem d11_42 : decode method_5_code 42 = .ok (.iconst 1, 1) := by decide +kernel
theorem d11_43 : decode method_5_code 43 = .ok (.istore_n 3, 1) := by decide +kernel
theorem d11_44 : decode method_5_code 44 = .ok (.aload_n 1, 1) := by decide +kernel
theorem d11_45 : decode method_5_code 45 = .ok (.iconst 1, 1) := by decide +kernel
theorem d11_46 : decode method_5_code 46 = .ok (.iaload, 1) := by decide +kernel
theorem d11_47 : decode method_5_code 47 = .ok (.istore 4, 2) := by decide +kernel
theorem d11_49 : decode method_5_code 49 = .ok (.aload_n 0, 1) := by decide +kernel
theorem d11_50 : decode method_5_code 50 = .ok (.iconst 2, 1) := by decide +kernel
theorem d11_51 : decode method_5_code 51 = .ok (.iaload, 1) := by decide +kernel
theorem d11_52 : decode method_5_code 52 = .ok (.iload_n 2, 1) := by decide +kernel
theorem d11_53 : decode method_5_code 53 = .ok (.if_icmp .ne 18, 3) := by decide +kernel
theorem d11_56 : decode method_5_code 56 = .ok (.aload_n 1, 1) := by decide +kernel
theorem d11_57 : decode method_5_code 57 = .ok (.iconst 2, 1) := by decide +kernel
theorem d11_58 : decode method_5_code 58 = .ok (.iaload, 1) := by decide +kernel
theorem d11_59 : decode method_5_code 59 = .ok (.iload 4, 2) := by decide +kernel
theorem d11_61 : decode method_5_code 61 = .ok (.if_icmp .le 10, 3) := by decide +kernel
theorem d11_64 : decode method_5_code 64 = .ok (.iconst 2, 1) := by decide +kernel
theorem d11_65 : decode method_5_code 65 = .ok (.istore_n 3, 1) := by decide +kernel
theorem d11_66 : decode method_5_code 66 = .ok (.aload_n 1, 1) := by decide +kernel
theorem d11_67 : decode method_5_code 67 = .ok (.iconst 2, 1) := by decide +kernel
theorem d11_68 : decode method_5_code 68 = .ok (.iaload, 1) := by decide +kernel
theorem d11_69 : decode method_5_code 69 = .ok (.istore 4, 2) := by decide +kernel
theorem d11_71 : decode method_5_code 71 = .ok (.iload_n 3, 1) := by decide +kernel
theorem d11_72 : decode method_5_code 72 = .ok (.ireturn, 1) := by decide +kernel
theorem ef_lrfF (m : MethodId) (x0 : Addr) (x1 : Addr) (x2 : Int32) : entryFrame m #[(.ref x0), (.ref x1), (.int x2)] 5 = mkF m 0 #[.val (.ref x0), .val (.ref x1), .val (.int x2), .unset, .unset] [] := by first | (simp [entryFrame, mkF, argsToLocals, Value.category]; done) | rfl
def lrfF_71  (x3 : Int32) (x4 : Int32) : Int32 := x3
def lrfF_49 (q : Int32) (vl : List Int32) (tl : List Int32) (x3 : Int32) (x4 : Int32) : Int32 := (if (vl.getD 2 (0 : Int32)) = q then (if x4 < (tl.getD 2 (0 : Int32)) then (lrfF_71  (2 : Int32) (tl.getD 2 (0 : Int32))) else (lrfF_71  x3 x4)) else (lrfF_71  x3 x4))
def lrfF_27 (q : Int32) (vl : List Int32) (tl : List Int32) (x3 : Int32) (x4 : Int32) : Int32 := (if (vl.getD 1 (0 : Int32)) = q then (if x4 < (tl.getD 1 (0 : Int32)) then (lrfF_49 q vl tl (1 : Int32) (tl.getD 1 (0 : Int32))) else (lrfF_49 q vl tl x3 x4)) else (lrfF_49 q vl tl x3 x4))
def lrfF (q : Int32) (vl : List Int32) (tl : List Int32) : Int32 := (if (vl.getD 0 (0 : Int32)) = q then (if (-1 : Int32) < (tl.getD 0 (0 : Int32)) then (lrfF_27 q vl tl (0 : Int32) (tl.getD 0 (0 : Int32))) else (lrfF_27 q vl tl (-1 : Int32) (-1 : Int32))) else (lrfF_27 q vl tl (-1 : Int32) (-1 : Int32)))
def QlrfF (Z : State) (a : Addr) (b : Addr) (q : Int32) (vl : List Int32) (tl : List Int32) (RES : Int32) (h0 : Heap) (n0 : Nat) (v : Option Value) (h : Heap) (L : List Loc) : Prop := v = some (.int RES) ∧ Fr n0 L ∧ h = h0
set_option maxRecDepth 65536 in
set_option maxHeartbeats 40000000 in
theorem rm_lrfF (l : Launch) (Z : State) (a0 : Array Value) (hw : ∀ d ∈ tables_1, d.before a0 Z = true) (ws : List Jvm.Cond) (a : Addr) (b : Addr) (q : Int32) (vl : List Int32) (tl : List Int32) (h0 : Heap) (n0 : Nat) (Z0 : n0 ≤ h0.size) (F0 : VA Z h0 a .int (vl.map Value.int)) (F1 : VA Z h0 b .int (tl.map Value.int)) (hv : vl.length = 3) (ht : tl.length = 3) :
    MetFree l (⟨"com/example/knotwise/knotwise/PlacementPlacePinLaw", "lastRef", "([I[II)I"⟩ : MethodName) (head1 (Jvm.Cond.code (⟨"com/example/knotwise/knotwise/PlacementPlacePinLaw", "lastRef", "([I[II)I"⟩ : MethodName) method_5_code 5 (some .int) :: ws) ({ frames := 0, cells := 0, slots := 0, locals := 0 } : Room)) (fun A_ U => A_ = #[(.ref a), (.ref b), (.int q)] ∧ Z.Warmed39 U.vm ∧ U.heap = h0) (fun _ _ _ _ _ => True) (fun _ U o U' => ∃ v L, o = .returned v ∧ QlrfF Z a b q vl tl (lrfF q vl tl) h0 n0 v U'.heap L ∧ FrameEnd U o U' L ({ frames := 0, cells := 0, slots := 0, locals := 0 } : Room).cells ({ frames := 0, cells := 0, slots := 0, locals := 0 } : Room).slots) := by
  refine MetFree.of_bodySF (plainFor_of_name pn_2) hisR ?_
  intro p e s m args below meth c s₁ Bd hml0 hP hK
  obtain ⟨rfl, hZ, hh⟩ := hP
  have hx := Bd.exec
  have hby := Bd.bytes
  have hml : c.maxLocals = 5 := hml0
  have hown : s.vm.findClass "com/example/knotwise/knotwise/PlacementPlacePinLaw" = some m.cls := findClass_of_methodNamed Bd.named
  have hnm := (name_of_methodNamed Bd.named Bd.method).1
  have X0 : Stand p l e ({ frames := 0, cells := 0, slots := 0, locals := 0 } : Room) s m #[(.ref a), (.ref b), (.int q)] below meth c s₁ [] 0 0 := Stand.of_body Bd
  have e0 : s₁.heap = h0 := by rw [← hh, Bd.state]; rfl
  have N0 := Fr.nil n0
  obtain ⟨RES, hf⟩ : ∃ z, z = lrfF q vl tl := ⟨_, rfl⟩
  rw [← hf]
  rw [lrfF] at hf
  suffices HGO : Go p e below s (QlrfF Z a b q vl tl RES h0 n0) ({ frames := 0, cells := 0, slots := 0, locals := 0 } : Room).cells ({ frames := 0, cells := 0, slots := 0, locals := 0 } : Room).slots s₁ (mkF m 0 #[.val (.ref a), .val (.ref b), .val (.int q), .unset, .unset] []) from Go.cast (ef_lrfF m a b q) HGO
  have S71 : ∀ (T : State) (locs : List Loc) (cells slots : Nat) (X : Stand p l e ({ frames := 0, cells := 0, slots := 0, locals := 0 } : Room) s m #[(.ref a), (.ref b), (.int q)] below meth c T locs cells slots) (hcl : cells ≤ 0) (hsl : slots ≤ 0) (eT : T.heap = h0) (N : Fr n0 locs) (x3 : Int32) (x4 : Int32)  (hf : RES = lrfF_71  x3 x4), Go p e below s (QlrfF Z a b q vl tl RES h0 n0) ({ frames := 0, cells := 0, slots := 0, locals := 0 } : Room).cells ({ frames := 0, cells := 0, slots := 0, locals := 0 } : Room).slots T (mkF m 71 #[.val (.ref a), .val (.ref b), .val (.int q), .val (.int x3), .val (.int x4)] []) := by
    intro T locs cells slots X hcl hsl eT N x3 x4 hf
    rw [lrfF_71] at hf
    refine Go.step (T' := T) (f' := (mkF m 72 #[.val (.ref a), .val (.ref b), .val (.int q), .val (.int x3), .val (.int x4)] [(.int x3)])) (fun t kt => ?_) ?_
    · show Steps p.tables e below (T.setTop (mkF m 71 #[.val (.ref a), .val (.ref b), .val (.int q), .val (.int x3), .val (.int x4)] [])) _
      refine XS.iloadN X.here hx rfl (hb hby d11_71) rfl ?_
      exact kt
    refine Go.fin X (v := some (.int x3)) (fun h => by rw [Bd.returns] at h; cases h) Bd.notSynchronized ?_ (Nat.le_trans hcl (by decide)) (Nat.le_trans hsl (by decide)) (fun fs hr => retI X hx Bd.returns (hb hby d11_72) hr)
    · exact ⟨by rw [hf], N, eT⟩
  have S49 : ∀ (T : State) (locs : List Loc) (cells slots : Nat) (X : Stand p l e ({ frames := 0, cells := 0, slots := 0, locals := 0 } : Room) s m #[(.ref a), (.ref b), (.int q)] below meth c T locs cells slots) (hcl : cells ≤ 0) (hsl : slots ≤ 0) (eT : T.heap = h0) (N : Fr n0 locs) (x3 : Int32) (x4 : Int32)  (hf : RES = lrfF_49 q vl tl x3 x4), Go p e below s (QlrfF Z a b q vl tl RES h0 n0) ({ frames := 0, cells := 0, slots := 0, locals := 0 } : Room).cells ({ frames := 0, cells := 0, slots := 0, locals := 0 } : Room).slots T (mkF m 49 #[.val (.ref a), .val (.ref b), .val (.int q), .val (.int x3), .val (.int x4)] []) := by
    intro T locs cells slots X hcl hsl eT N x3 x4 hf
    rw [lrfF_49] at hf
    have ix1 : 0 ≤ ((2 : Int32)).toInt ∧ ((2 : Int32)).toInt < ((vl).length : Int) := by constructor <;> first | decide | (rw [hv]; decide) | (rw [ht]; decide)
    refine Go.step (T' := T) (f' := (mkF m 53 #[.val (.ref a), .val (.ref b), .val (.int q), .val (.int x3), .val (.int x4)] [(.int q), (.int (vl.getD 2 (0 : Int32)))])) (fun t kt => ?_) ?_
    · show Steps p.tables e below (T.setTop (mkF m 49 #[.val (.ref a), .val (.ref b), .val (.int q), .val (.int x3), .val (.int x4)] [])) _
      refine XS.aloadN X.here hx rfl (hb hby d11_49) rfl rfl ?_
      show Steps p.tables e below (T.setTop (mkF m 50 #[.val (.ref a), .val (.ref b), .val (.int q), .val (.int x3), .val (.int x4)] [(.ref a)])) _
      refine XS.iconst X.here hx rfl (hb hby d11_50) ?_
      show Steps p.tables e below (T.setTop (mkF m 51 #[.val (.ref a), .val (.ref b), .val (.int q), .val (.int x3), .val (.int x4)] [(.int (2 : Int32)), (.ref a)])) _
      refine ldI X hx hZ eT F0 ix1.1 ix1.2 (g := (mkF m 51 #[.val (.ref a), .val (.ref b), .val (.int q), .val (.int x3), .val (.int x4)] [(.int (2 : Int32)), (.ref a)])) rfl rfl (hb hby d11_51) _ ?_
      show Steps p.tables e below (T.setTop (mkF m 52 #[.val (.ref a), .val (.ref b), .val (.int q), .val (.int x3), .val (.int x4)] [(.int (vl.getD 2 (0 : Int32)))])) _
      refine XS.iloadN X.here hx rfl (hb hby d11_52) rfl ?_
      exact kt
    by_cases hc2 : (vl.getD 2 (0 : Int32)) = q
    · rw [if_pos hc2] at hf
      refine Go.step (T' := T) (f' := (mkF m 56 #[.val (.ref a), .val (.ref b), .val (.int q), .val (.int x3), .val (.int x4)] [])) (fun t kt => ?_) ?_
      · show Steps p.tables e below (T.setTop (mkF m 53 #[.val (.ref a), .val (.ref b), .val (.int q), .val (.int x3), .val (.int x4)] [(.int q), (.int (vl.getD 2 (0 : Int32)))])) _
        refine XS.icmpNo X.here hx rfl (hb hby d11_53) rfl (teq hc2).2 ?_
        exact kt
      have ix3 : 0 ≤ ((2 : Int32)).toInt ∧ ((2 : Int32)).toInt < ((tl).length : Int) := by constructor <;> first | decide | (rw [hv]; decide) | (rw [ht]; decide)
      refine Go.step (T' := T) (f' := (mkF m 61 #[.val (.ref a), .val (.ref b), .val (.int q), .val (.int x3), .val (.int x4)] [(.int x4), (.int (tl.getD 2 (0 : Int32)))])) (fun t kt => ?_) ?_
      · show Steps p.tables e below (T.setTop (mkF m 56 #[.val (.ref a), .val (.ref b), .val (.int q), .val (.int x3), .val (.int x4)] [])) _
        refine XS.aloadN X.here hx rfl (hb hby d11_56) rfl rfl ?_
        show Steps p.tables e below (T.setTop (mkF m 57 #[.val (.ref a), .val (.ref b), .val (.int q), .val (.int x3), .val (.int x4)] [(.ref b)])) _
        refine XS.iconst X.here hx rfl (hb hby d11_57) ?_
        show Steps p.tables e below (T.setTop (mkF m 58 #[.val (.ref a), .val (.ref b), .val (.int q), .val (.int x3), .val (.int x4)] [(.int (2 : Int32)), (.ref b)])) _
        refine ldI X hx hZ eT F1 ix3.1 ix3.2 (g := (mkF m 58 #[.val (.ref a), .val (.ref b), .val (.int q), .val (.int x3), .val (.int x4)] [(.int (2 : Int32)), (.ref b)])) rfl rfl (hb hby d11_58) _ ?_
        show Steps p.tables e below (T.setTop (mkF m 59 #[.val (.ref a), .val (.ref b), .val (.int q), .val (.int x3), .val (.int x4)] [(.int (tl.getD 2 (0 : Int32)))])) _
        refine XS.iload X.here hx rfl (hb hby d11_59) rfl ?_
        exact kt
      by_cases hc4 : x4 < (tl.getD 2 (0 : Int32))
      · rw [if_pos hc4] at hf
        refine Go.step (T' := T) (f' := (mkF m 64 #[.val (.ref a), .val (.ref b), .val (.int q), .val (.int x3), .val (.int x4)] [])) (fun t kt => ?_) ?_
        · show Steps p.tables e below (T.setTop (mkF m 61 #[.val (.ref a), .val (.ref b), .val (.int q), .val (.int x3), .val (.int x4)] [(.int x4), (.int (tl.getD 2 (0 : Int32)))])) _
          refine XS.icmpNo X.here hx rfl (hb hby d11_61) rfl (tlt hc4).2.2.2 ?_
          exact kt
        have ix5 : 0 ≤ ((2 : Int32)).toInt ∧ ((2 : Int32)).toInt < ((tl).length : Int) := by constructor <;> first | decide | (rw [hv]; decide) | (rw [ht]; decide)
        refine Go.step (T' := T) (f' := (mkF m 71 #[.val (.ref a), .val (.ref b), .val (.int q), .val (.int (2 : Int32)), .val (.int (tl.getD 2 (0 : Int32)))] [])) (fun t kt => ?_) ?_
        · show Steps p.tables e below (T.setTop (mkF m 64 #[.val (.ref a), .val (.ref b), .val (.int q), .val (.int x3), .val (.int x4)] [])) _
          refine XS.iconst X.here hx rfl (hb hby d11_64) ?_
          show Steps p.tables e below (T.setTop (mkF m 65 #[.val (.ref a), .val (.ref b), .val (.int q), .val (.int x3), .val (.int x4)] [(.int (2 : Int32))])) _
          refine XS.istoreN X.here hx rfl (hb hby d11_65) rfl (l' := #[.val (.ref a), .val (.ref b), .val (.int q), .val (.int (2 : Int32)), .val (.int x4)]) rfl ?_
          show Steps p.tables e below (T.setTop (mkF m 66 #[.val (.ref a), .val (.ref b), .val (.int q), .val (.int (2 : Int32)), .val (.int x4)] [])) _
          refine XS.aloadN X.here hx rfl (hb hby d11_66) rfl rfl ?_
          show Steps p.tables e below (T.setTop (mkF m 67 #[.val (.ref a), .val (.ref b), .val (.int q), .val (.int (2 : Int32)), .val (.int x4)] [(.ref b)])) _
          refine XS.iconst X.here hx rfl (hb hby d11_67) ?_
          show Steps p.tables e below (T.setTop (mkF m 68 #[.val (.ref a), .val (.ref b), .val (.int q), .val (.int (2 : Int32)), .val (.int x4)] [(.int (2 : Int32)), (.ref b)])) _
          refine ldI X hx hZ eT F1 ix5.1 ix5.2 (g := (mkF m 68 #[.val (.ref a), .val (.ref b), .val (.int q), .val (.int (2 : Int32)), .val (.int x4)] [(.int (2 : Int32)), (.ref b)])) rfl rfl (hb hby d11_68) _ ?_
          show Steps p.tables e below (T.setTop (mkF m 69 #[.val (.ref a), .val (.ref b), .val (.int q), .val (.int (2 : Int32)), .val (.int x4)] [(.int (tl.getD 2 (0 : Int32)))])) _
          refine XS.istore X.here hx rfl (hb hby d11_69) rfl (l' := #[.val (.ref a), .val (.ref b), .val (.int q), .val (.int (2 : Int32)), .val (.int (tl.getD 2 (0 : Int32)))]) rfl ?_
          exact kt
        exact S71 _ _ _ _ X (Nat.le_trans hcl (by decide)) (Nat.le_trans hsl (by decide)) eT N (2 : Int32) (tl.getD 2 (0 : Int32)) hf
      · rw [if_neg hc4] at hf
        refine Go.step (T' := T) (f' := (mkF m 71 #[.val (.ref a), .val (.ref b), .val (.int q), .val (.int x3), .val (.int x4)] [])) (fun t kt => ?_) ?_
        · show Steps p.tables e below (T.setTop (mkF m 61 #[.val (.ref a), .val (.ref b), .val (.int q), .val (.int x3), .val (.int x4)] [(.int x4), (.int (tl.getD 2 (0 : Int32)))])) _
          refine XS.icmpYes X.here hx rfl (pc0 := 61) (pc' := 71) rfl (hb hby d11_61) rfl (flt hc4).2.2.2 (by decide) (by decide) ?_
          exact kt
        exact S71 _ _ _ _ X (Nat.le_trans hcl (by decide)) (Nat.le_trans hsl (by decide)) eT N x3 x4 hf
    · rw [if_neg hc2] at hf
      refine Go.step (T' := T) (f' := (mkF m 71 #[.val (.ref a), .val (.ref b), .val (.int q), .val (.int x3), .val (.int x4)] [])) (fun t kt => ?_) ?_
      · show Steps p.tables e below (T.setTop (mkF m 53 #[.val (.ref a), .val (.ref b), .val (.int q), .val (.int x3), .val (.int x4)] [(.int q), (.int (vl.getD 2 (0 : Int32)))])) _
        refine XS.icmpYes X.here hx rfl (pc0 := 53) (pc' := 71) rfl (hb hby d11_53) rfl (feq hc2).2 (by decide) (by decide) ?_
        exact kt
      exact S71 _ _ _ _ X (Nat.le_trans hcl (by decide)) (Nat.le_trans hsl (by decide)) eT N x3 x4 hf
  have S27 : ∀ (T : State) (locs : List Loc) (cells slots : Nat) (X : Stand p l e ({ frames := 0, cells := 0, slots := 0, locals := 0 } : Room) s m #[(.ref a), (.ref b), (.int q)] below meth c T locs cells slots) (hcl : cells ≤ 0) (hsl : slots ≤ 0) (eT : T.heap = h0) (N : Fr n0 locs) (x3 : Int32) (x4 : Int32)  (hf : RES = lrfF_27 q vl tl x3 x4), Go p e below s (QlrfF Z a b q vl tl RES h0 n0) ({ frames := 0, cells := 0, slots := 0, locals := 0 } : Room).cells ({ frames := 0, cells := 0, slots := 0, locals := 0 } : Room).slots T (mkF m 27 #[.val (.ref a), .val (.ref b), .val (.int q), .val (.int x3), .val (.int x4)] []) := by
    intro T locs cells slots X hcl hsl eT N x3 x4 hf
    rw [lrfF_27] at hf
    have ix6 : 0 ≤ ((1 : Int32)).toInt ∧ ((1 : Int32)).toInt < ((vl).length : Int) := by constructor <;> first | decide | (rw [hv]; decide) | (rw [ht]; decide)
    refine Go.step (T' := T) (f' := (mkF m 31 #[.val (.ref a), .val (.ref b), .val (.int q), .val (.int x3), .val (.int x4)] [(.int q), (.int (vl.getD 1 (0 : Int32)))])) (fun t kt => ?_) ?_
    · show Steps p.tables e below (T.setTop (mkF m 27 #[.val (.ref a), .val (.ref b), .val (.int q), .val (.int x3), .val (.int x4)] [])) _
      refine XS.aloadN X.here hx rfl (hb hby d11_27) rfl rfl ?_
      show Steps p.tables e below (T.setTop (mkF m 28 #[.val (.ref a), .val (.ref b), .val (.int q), .val (.int x3), .val (.int x4)] [(.ref a)])) _
      refine XS.iconst X.here hx rfl (hb hby d11_28) ?_
      show Steps p.tables e below (T.setTop (mkF m 29 #[.val (.ref a), .val (.ref b), .val (.int q), .val (.int x3), .val (.int x4)] [(.int (1 : Int32)), (.ref a)])) _
      refine ldI X hx hZ eT F0 ix6.1 ix6.2 (g := (mkF m 29 #[.val (.ref a), .val (.ref b), .val (.int q), .val (.int x3), .val (.int x4)] [(.int (1 : Int32)), (.ref a)])) rfl rfl (hb hby d11_29) _ ?_
      show Steps p.tables e below (T.setTop (mkF m 30 #[.val (.ref a), .val (.ref b), .val (.int q), .val (.int x3), .val (.int x4)] [(.int (vl.getD 1 (0 : Int32)))])) _
      refine XS.iloadN X.here hx rfl (hb hby d11_30) rfl ?_
      exact kt
    by_cases hc7 : (vl.getD 1 (0 : Int32)) = q
    · rw [if_pos hc7] at hf
      refine Go.step (T' := T) (f' := (mkF m 34 #[.val (.ref a), .val (.ref b), .val (.int q), .val (.int x3), .val (.int x4)] [])) (fun t kt => ?_) ?_
      · show Steps p.tables e below (T.setTop (mkF m 31 #[.val (.ref a), .val (.ref b), .val (.int q), .val (.int x3), .val (.int x4)] [(.int q), (.int (vl.getD 1 (0 : Int32)))])) _
        refine XS.icmpNo X.here hx rfl (hb hby d11_31) rfl (teq hc7).2 ?_
        exact kt
      have ix8 : 0 ≤ ((1 : Int32)).toInt ∧ ((1 : Int32)).toInt < ((tl).length : Int) := by constructor <;> first | decide | (rw [hv]; decide) | (rw [ht]; decide)
      refine Go.step (T' := T) (f' := (mkF m 39 #[.val (.ref a), .val (.ref b), .val (.int q), .val (.int x3), .val (.int x4)] [(.int x4), (.int (tl.getD 1 (0 : Int32)))])) (fun t kt => ?_) ?_
      · show Steps p.tables e below (T.setTop (mkF m 34 #[.val (.ref a), .val (.ref b), .val (.int q), .val (.int x3), .val (.int x4)] [])) _
        refine XS.aloadN X.here hx rfl (hb hby d11_34) rfl rfl ?_
        show Steps p.tables e below (T.setTop (mkF m 35 #[.val (.ref a), .val (.ref b), .val (.int q), .val (.int x3), .val (.int x4)] [(.ref b)])) _
        refine XS.iconst X.here hx rfl (hb hby d11_35) ?_
        show Steps p.tables e below (T.setTop (mkF m 36 #[.val (.ref a), .val (.ref b), .val (.int q), .val (.int x3), .val (.int x4)] [(.int (1 : Int32)), (.ref b)])) _
        refine ldI X hx hZ eT F1 ix8.1 ix8.2 (g := (mkF m 36 #[.val (.ref a), .val (.ref b), .val (.int q), .val (.int x3), .val (.int x4)] [(.int (1 : Int32)), (.ref b)])) rfl rfl (hb hby d11_36) _ ?_
        show Steps p.tables e below (T.setTop (mkF m 37 #[.val (.ref a), .val (.ref b), .val (.int q), .val (.int x3), .val (.int x4)] [(.int (tl.getD 1 (0 : Int32)))])) _
        refine XS.iload X.here hx rfl (hb hby d11_37) rfl ?_
        exact kt
      by_cases hc9 : x4 < (tl.getD 1 (0 : Int32))
      · rw [if_pos hc9] at hf
        refine Go.step (T' := T) (f' := (mkF m 42 #[.val (.ref a), .val (.ref b), .val (.int q), .val (.int x3), .val (.int x4)] [])) (fun t kt => ?_) ?_
        · show Steps p.tables e below (T.setTop (mkF m 39 #[.val (.ref a), .val (.ref b), .val (.int q), .val (.int x3), .val (.int x4)] [(.int x4), (.int (tl.getD 1 (0 : Int32)))])) _
          refine XS.icmpNo X.here hx rfl (hb hby d11_39) rfl (tlt hc9).2.2.2 ?_
          exact kt
        have ix10 : 0 ≤ ((1 : Int32)).toInt ∧ ((1 : Int32)).toInt < ((tl).length : Int) := by constructor <;> first | decide | (rw [hv]; decide) | (rw [ht]; decide)
        refine Go.step (T' := T) (f' := (mkF m 49 #[.val (.ref a), .val (.ref b), .val (.int q), .val (.int (1 : Int32)), .val (.int (tl.getD 1 (0 : Int32)))] [])) (fun t kt => ?_) ?_
        · show Steps p.tables e below (T.setTop (mkF m 42 #[.val (.ref a), .val (.ref b), .val (.int q), .val (.int x3), .val (.int x4)] [])) _
          refine XS.iconst X.here hx rfl (hb hby d11_42) ?_
          show Steps p.tables e below (T.setTop (mkF m 43 #[.val (.ref a), .val (.ref b), .val (.int q), .val (.int x3), .val (.int x4)] [(.int (1 : Int32))])) _
          refine XS.istoreN X.here hx rfl (hb hby d11_43) rfl (l' := #[.val (.ref a), .val (.ref b), .val (.int q), .val (.int (1 : Int32)), .val (.int x4)]) rfl ?_
          show Steps p.tables e below (T.setTop (mkF m 44 #[.val (.ref a), .val (.ref b), .val (.int q), .val (.int (1 : Int32)), .val (.int x4)] [])) _
          refine XS.aloadN X.here hx rfl (hb hby d11_44) rfl rfl ?_
          show Steps p.tables e below (T.setTop (mkF m 45 #[.val (.ref a), .val (.ref b), .val (.int q), .val (.int (1 : Int32)), .val (.int x4)] [(.ref b)])) _
          refine XS.iconst X.here hx rfl (hb hby d11_45) ?_
          show Steps p.tables e below (T.setTop (mkF m 46 #[.val (.ref a), .val (.ref b), .val (.int q), .val (.int (1 : Int32)), .val (.int x4)] [(.int (1 : Int32)), (.ref b)])) _
          refine ldI X hx hZ eT F1 ix10.1 ix10.2 (g := (mkF m 46 #[.val (.ref a), .val (.ref b), .val (.int q), .val (.int (1 : Int32)), .val (.int x4)] [(.int (1 : Int32)), (.ref b)])) rfl rfl (hb hby d11_46) _ ?_
          show Steps p.tables e below (T.setTop (mkF m 47 #[.val (.ref a), .val (.ref b), .val (.int q), .val (.int (1 : Int32)), .val (.int x4)] [(.int (tl.getD 1 (0 : Int32)))])) _
          refine XS.istore X.here hx rfl (hb hby d11_47) rfl (l' := #[.val (.ref a), .val (.ref b), .val (.int q), .val (.int (1 : Int32)), .val (.int (tl.getD 1 (0 : Int32)))]) rfl ?_
          exact kt
        exact S49 _ _ _ _ X (Nat.le_trans hcl (by decide)) (Nat.le_trans hsl (by decide)) eT N (1 : Int32) (tl.getD 1 (0 : Int32)) hf
      · rw [if_neg hc9] at hf
        refine Go.step (T' := T) (f' := (mkF m 49 #[.val (.ref a), .val (.ref b), .val (.int q), .val (.int x3), .val (.int x4)] [])) (fun t kt => ?_) ?_
        · show Steps p.tables e below (T.setTop (mkF m 39 #[.val (.ref a), .val (.ref b), .val (.int q), .val (.int x3), .val (.int x4)] [(.int x4), (.int (tl.getD 1 (0 : Int32)))])) _
          refine XS.icmpYes X.here hx rfl (pc0 := 39) (pc' := 49) rfl (hb hby d11_39) rfl (flt hc9).2.2.2 (by decide) (by decide) ?_
          exact kt
        exact S49 _ _ _ _ X (Nat.le_trans hcl (by decide)) (Nat.le_trans hsl (by decide)) eT N x3 x4 hf
    · rw [if_neg hc7] at hf
      refine Go.step (T' := T) (f' := (mkF m 49 #[.val (.ref a), .val (.ref b), .val (.int q), .val (.int x3), .val (.int x4)] [])) (fun t kt => ?_) ?_
      · show Steps p.tables e below (T.setTop (mkF m 31 #[.val (.ref a), .val (.ref b), .val (.int q), .val (.int x3), .val (.int x4)] [(.int q), (.int (vl.getD 1 (0 : Int32)))])) _
        refine XS.icmpYes X.here hx rfl (pc0 := 31) (pc' := 49) rfl (hb hby d11_31) rfl (feq hc7).2 (by decide) (by decide) ?_
        exact kt
      exact S49 _ _ _ _ X (Nat.le_trans hcl (by decide)) (Nat.le_trans hsl (by decide)) eT N x3 x4 hf
  have ix11 : 0 ≤ ((0 : Int32)).toInt ∧ ((0 : Int32)).toInt < ((vl).length : Int) := by constructor <;> first | decide | (rw [hv]; decide) | (rw [ht]; decide)
  refine Go.step (T' := s₁) (f' := (mkF m 9 #[.val (.ref a), .val (.ref b), .val (.int q), .val (.int (-1 : Int32)), .val (.int (-1 : Int32))] [(.int q), (.int (vl.getD 0 (0 : Int32)))])) (fun t kt => ?_) ?_
  · show Steps p.tables e below (s₁.setTop (mkF m 0 #[.val (.ref a), .val (.ref b), .val (.int q), .unset, .unset] [])) _
    refine XS.iconst X0.here hx rfl (hb hby d11_0) ?_
    show Steps p.tables e below (s₁.setTop (mkF m 1 #[.val (.ref a), .val (.ref b), .val (.int q), .unset, .unset] [(.int (-1 : Int32))])) _
    refine XS.istoreN X0.here hx rfl (hb hby d11_1) rfl (l' := #[.val (.ref a), .val (.ref b), .val (.int q), .val (.int (-1 : Int32)), .unset]) rfl ?_
    show Steps p.tables e below (s₁.setTop (mkF m 2 #[.val (.ref a), .val (.ref b), .val (.int q), .val (.int (-1 : Int32)), .unset] [])) _
    refine XS.iconst X0.here hx rfl (hb hby d11_2) ?_
    show Steps p.tables e below (s₁.setTop (mkF m 3 #[.val (.ref a), .val (.ref b), .val (.int q), .val (.int (-1 : Int32)), .unset] [(.int (-1 : Int32))])) _
    refine XS.istore X0.here hx rfl (hb hby d11_3) rfl (l' := #[.val (.ref a), .val (.ref b), .val (.int q), .val (.int (-1 : Int32)), .val (.int (-1 : Int32))]) rfl ?_
    show Steps p.tables e below (s₁.setTop (mkF m 5 #[.val (.ref a), .val (.ref b), .val (.int q), .val (.int (-1 : Int32)), .val (.int (-1 : Int32))] [])) _
    refine XS.aloadN X0.here hx rfl (hb hby d11_5) rfl rfl ?_
    show Steps p.tables e below (s₁.setTop (mkF m 6 #[.val (.ref a), .val (.ref b), .val (.int q), .val (.int (-1 : Int32)), .val (.int (-1 : Int32))] [(.ref a)])) _
    refine XS.iconst X0.here hx rfl (hb hby d11_6) ?_
    show Steps p.tables e below (s₁.setTop (mkF m 7 #[.val (.ref a), .val (.ref b), .val (.int q), .val (.int (-1 : Int32)), .val (.int (-1 : Int32))] [(.int (0 : Int32)), (.ref a)])) _
    refine ldI X0 hx hZ e0 F0 ix11.1 ix11.2 (g := (mkF m 7 #[.val (.ref a), .val (.ref b), .val (.int q), .val (.int (-1 : Int32)), .val (.int (-1 : Int32))] [(.int (0 : Int32)), (.ref a)])) rfl rfl (hb hby d11_7) _ ?_
    show Steps p.tables e below (s₁.setTop (mkF m 8 #[.val (.ref a), .val (.ref b), .val (.int q), .val (.int (-1 : Int32)), .val (.int (-1 : Int32))] [(.int (vl.getD 0 (0 : Int32)))])) _
    refine XS.iloadN X0.here hx rfl (hb hby d11_8) rfl ?_
    exact kt
  by_cases hc12 : (vl.getD 0 (0 : Int32)) = q
  · rw [if_pos hc12] at hf
    refine Go.step (T' := s₁) (f' := (mkF m 12 #[.val (.ref a), .val (.ref b), .val (.int q), .val (.int (-1 : Int32)), .val (.int (-1 : Int32))] [])) (fun t kt => ?_) ?_
    · show Steps p.tables e below (s₁.setTop (mkF m 9 #[.val (.ref a), .val (.ref b), .val (.int q), .val (.int (-1 : Int32)), .val (.int (-1 : Int32))] [(.int q), (.int (vl.getD 0 (0 : Int32)))])) _
      refine XS.icmpNo X0.here hx rfl (hb hby d11_9) rfl (teq hc12).2 ?_
      exact kt
    have ix13 : 0 ≤ ((0 : Int32)).toInt ∧ ((0 : Int32)).toInt < ((tl).length : Int) := by constructor <;> first | decide | (rw [hv]; decide) | (rw [ht]; decide)
    refine Go.step (T' := s₁) (f' := (mkF m 17 #[.val (.ref a), .val (.ref b), .val (.int q), .val (.int (-1 : Int32)), .val (.int (-1 : Int32))] [(.int (-1 : Int32)), (.int (tl.getD 0 (0 : Int32)))])) (fun t kt => ?_) ?_
    · show Steps p.tables e below (s₁.setTop (mkF m 12 #[.val (.ref a), .val (.ref b), .val (.int q), .val (.int (-1 : Int32)), .val (.int (-1 : Int32))] [])) _
      refine XS.aloadN X0.here hx rfl (hb hby d11_12) rfl rfl ?_
      show Steps p.tables e below (s₁.setTop (mkF m 13 #[.val (.ref a), .val (.ref b), .val (.int q), .val (.int (-1 : Int32)), .val (.int (-1 : Int32))] [(.ref b)])) _
      refine XS.iconst X0.here hx rfl (hb hby d11_13) ?_
      show Steps p.tables e below (s₁.setTop (mkF m 14 #[.val (.ref a), .val (.ref b), .val (.int q), .val (.int (-1 : Int32)), .val (.int (-1 : Int32))] [(.int (0 : Int32)), (.ref b)])) _
      refine ldI X0 hx hZ e0 F1 ix13.1 ix13.2 (g := (mkF m 14 #[.val (.ref a), .val (.ref b), .val (.int q), .val (.int (-1 : Int32)), .val (.int (-1 : Int32))] [(.int (0 : Int32)), (.ref b)])) rfl rfl (hb hby d11_14) _ ?_
      show Steps p.tables e below (s₁.setTop (mkF m 15 #[.val (.ref a), .val (.ref b), .val (.int q), .val (.int (-1 : Int32)), .val (.int (-1 : Int32))] [(.int (tl.getD 0 (0 : Int32)))])) _
      refine XS.iload X0.here hx rfl (hb hby d11_15) rfl ?_
      exact kt
    by_cases hc14 : (-1 : Int32) < (tl.getD 0 (0 : Int32))
    · rw [if_pos hc14] at hf
      refine Go.step (T' := s₁) (f' := (mkF m 20 #[.val (.ref a), .val (.ref b), .val (.int q), .val (.int (-1 : Int32)), .val (.int (-1 : Int32))] [])) (fun t kt => ?_) ?_
      · show Steps p.tables e below (s₁.setTop (mkF m 17 #[.val (.ref a), .val (.ref b), .val (.int q), .val (.int (-1 : Int32)), .val (.int (-1 : Int32))] [(.int (-1 : Int32)), (.int (tl.getD 0 (0 : Int32)))])) _
        refine XS.icmpNo X0.here hx rfl (hb hby d11_17) rfl (tlt hc14).2.2.2 ?_
        exact kt
      have ix15 : 0 ≤ ((0 : Int32)).toInt ∧ ((0 : Int32)).toInt < ((tl).length : Int) := by constructor <;> first | decide | (rw [hv]; decide) | (rw [ht]; decide)
      refine Go.step (T' := s₁) (f' := (mkF m 27 #[.val (.ref a), .val (.ref b), .val (.int q), .val (.int (0 : Int32)), .val (.int (tl.getD 0 (0 : Int32)))] [])) (fun t kt => ?_) ?_
      · show Steps p.tables e below (s₁.setTop (mkF m 20 #[.val (.ref a), .val (.ref b), .val (.int q), .val (.int (-1 : Int32)), .val (.int (-1 : Int32))] [])) _
        refine XS.iconst X0.here hx rfl (hb hby d11_20) ?_
        show Steps p.tables e below (s₁.setTop (mkF m 21 #[.val (.ref a), .val (.ref b), .val (.int q), .val (.int (-1 : Int32)), .val (.int (-1 : Int32))] [(.int (0 : Int32))])) _
        refine XS.istoreN X0.here hx rfl (hb hby d11_21) rfl (l' := #[.val (.ref a), .val (.ref b), .val (.int q), .val (.int (0 : Int32)), .val (.int (-1 : Int32))]) rfl ?_
        show Steps p.tables e below (s₁.setTop (mkF m 22 #[.val (.ref a), .val (.ref b), .val (.int q), .val (.int (0 : Int32)), .val (.int (-1 : Int32))] [])) _
        refine XS.aloadN X0.here hx rfl (hb hby d11_22) rfl rfl ?_
        show Steps p.tables e below (s₁.setTop (mkF m 23 #[.val (.ref a), .val (.ref b), .val (.int q), .val (.int (0 : Int32)), .val (.int (-1 : Int32))] [(.ref b)])) _
        refine XS.iconst X0.here hx rfl (hb hby d11_23) ?_
        show Steps p.tables e below (s₁.setTop (mkF m 24 #[.val (.ref a), .val (.ref b), .val (.int q), .val (.int (0 : Int32)), .val (.int (-1 : Int32))] [(.int (0 : Int32)), (.ref b)])) _
        refine ldI X0 hx hZ e0 F1 ix15.1 ix15.2 (g := (mkF m 24 #[.val (.ref a), .val (.ref b), .val (.int q), .val (.int (0 : Int32)), .val (.int (-1 : Int32))] [(.int (0 : Int32)), (.ref b)])) rfl rfl (hb hby d11_24) _ ?_
        show Steps p.tables e below (s₁.setTop (mkF m 25 #[.val (.ref a), .val (.ref b), .val (.int q), .val (.int (0 : Int32)), .val (.int (-1 : Int32))] [(.int (tl.getD 0 (0 : Int32)))])) _
        refine XS.istore X0.here hx rfl (hb hby d11_25) rfl (l' := #[.val (.ref a), .val (.ref b), .val (.int q), .val (.int (0 : Int32)), .val (.int (tl.getD 0 (0 : Int32)))]) rfl ?_
        exact kt
      exact S27 _ _ _ _ X0 (Nat.le_trans (Nat.le_refl 0) (by decide)) (Nat.le_trans (Nat.le_refl 0) (by decide)) e0 N0 (0 : Int32) (tl.getD 0 (0 : Int32)) hf
    · rw [if_neg hc14] at hf
      refine Go.step (T' := s₁) (f' := (mkF m 27 #[.val (.ref a), .val (.ref b), .val (.int q), .val (.int (-1 : Int32)), .val (.int (-1 : Int32))] [])) (fun t kt => ?_) ?_
      · show Steps p.tables e below (s₁.setTop (mkF m 17 #[.val (.ref a), .val (.ref b), .val (.int q), .val (.int (-1 : Int32)), .val (.int (-1 : Int32))] [(.int (-1 : Int32)), (.int (tl.getD 0 (0 : Int32)))])) _
        refine XS.icmpYes X0.here hx rfl (pc0 := 17) (pc' := 27) rfl (hb hby d11_17) rfl (flt hc14).2.2.2 (by decide) (by decide) ?_
        exact kt
      exact S27 _ _ _ _ X0 (Nat.le_trans (Nat.le_refl 0) (by decide)) (Nat.le_trans (Nat.le_refl 0) (by decide)) e0 N0 (-1 : Int32) (-1 : Int32) hf
  · rw [if_neg hc12] at hf
    refine Go.step (T' := s₁) (f' := (mkF m 27 #[.val (.ref a), .val (.ref b), .val (.int q), .val (.int (-1 : Int32)), .val (.int (-1 : Int32))] [])) (fun t kt => ?_) ?_
    · show Steps p.tables e below (s₁.setTop (mkF m 9 #[.val (.ref a), .val (.ref b), .val (.int q), .val (.int (-1 : Int32)), .val (.int (-1 : Int32))] [(.int q), (.int (vl.getD 0 (0 : Int32)))])) _
      refine XS.icmpYes X0.here hx rfl (pc0 := 9) (pc' := 27) rfl (hb hby d11_9) rfl (feq hc12).2 (by decide) (by decide) ?_
      exact kt
    exact S27 _ _ _ _ X0 (Nat.le_trans (Nat.le_refl 0) (by decide)) (Nat.le_trans (Nat.le_refl 0) (by decide)) e0 N0 (-1 : Int32) (-1 : Int32) hf
theorem own_sinv (xx tim : Int32) (wl fl ll cl nl pl vl tl : List Int32) (hI : own_I wl fl ll cl nl pl) (hv : vl.length = 3) (ht : tl.length = 3) : own_I (stpF xx tim wl fl ll cl nl pl vl tl).1 (stpF xx tim wl fl ll cl nl pl vl tl).2.1 (stpF xx tim wl fl ll cl nl pl vl tl).2.2.1 (stpF xx tim wl fl ll cl nl pl vl tl).2.2.2.1 (stpF xx tim wl fl ll cl nl pl vl tl).2.2.2.2.1 (stpF xx tim wl fl ll cl nl pl vl tl).2.2.2.2.2.1 ∧ (stpF xx tim wl fl ll cl nl pl vl tl).2.2.2.2.2.2.1.length = 3 ∧ (stpF xx tim wl fl ll cl nl pl vl tl).2.2.2.2.2.2.2.length = 3 := by
  refine ⟨own_pinv _ _ _ _ _ _ _ _ hI (own_m3 xx) (own_w2 xx), ?_, ?_⟩
  · show (List.set _ _ _).length = 3
    rw [List.length_set]; exact hv
  · show (List.set _ _ _).length = 3
    rw [List.length_set]; exact ht
theorem pd_3 : parseMethodDescriptor "(Lcom/example/knotwise/knotwise/Placement;[I[III)V" = some ⟨[(.object "com/example/knotwise/knotwise/Placement"), (.array .int), (.array .int), .int, .int], none⟩ := by decide +kernel
theorem pd_4 : parseMethodDescriptor "(I)I" = some ⟨[.int], some .int⟩ := by decide +kernel
theorem pd_5 : parseMethodDescriptor "([II)I" = some ⟨[(.array .int), .int], some .int⟩ := by decide +kernel
theorem pd_6 : parseMethodDescriptor "([I[II)I" = some ⟨[(.array .int), (.array .int), .int], some .int⟩ := by decide +kernel
theorem ef_0 (m : MethodId) (x0 : Int32) (x1 : Int32) (x2 : Int32) (x3 : Int32) (x4 : Int32) : entryFrame m #[(.int x0), (.int x1), (.int x2), (.int x3), (.int x4)] maxLocals = mkF m 0 #[.val (.int x0), .val (.int x1), .val (.int x2), .val (.int x3), .val (.int x4), .unset, .unset, .unset, .unset, .unset, .unset] [] := by first | (simp [entryFrame, mkF, argsToLocals, Value.category, maxLocals]; done) | rfl
def lawF_265  (x8 : Int32) (x9 : Int32) (x10 : Int32) (wl : List Int32) (fl : List Int32) (ll : List Int32) (cl : List Int32) (nl : List Int32) (pl : List Int32) (vl : List Int32) (tl : List Int32) : Int32 := (nar .boolean x8)
def lawF_263  (x8 : Int32) (x9 : Int32) (x10 : Int32) (t0 : Int32) (wl : List Int32) (fl : List Int32) (ll : List Int32) (cl : List Int32) (nl : List Int32) (pl : List Int32) (vl : List Int32) (tl : List Int32) : Int32 := (lawF_265  t0 x9 x10 wl fl ll cl nl pl vl tl)
def lawF_231  (x8 : Int32) (x9 : Int32) (x10 : Int32) (wl : List Int32) (fl : List Int32) (ll : List Int32) (cl : List Int32) (nl : List Int32) (pl : List Int32) (vl : List Int32) (tl : List Int32) : Int32 := (if (0 : Int32) < x10 then (if x8 = (0 : Int32) then (lawF_263  x8 x9 x10 (0 : Int32) wl fl ll cl nl pl vl tl) else (if (lasF (1 : Int32) ll) = (lrfF (1 : Int32) vl tl) then (lawF_263  x8 x9 x10 (1 : Int32) wl fl ll cl nl pl vl tl) else (lawF_263  x8 x9 x10 (0 : Int32) wl fl ll cl nl pl vl tl))) else (lawF_265  x8 x9 x10 wl fl ll cl nl pl vl tl))
def lawF_229  (x8 : Int32) (x9 : Int32) (x10 : Int32) (t0 : Int32) (wl : List Int32) (fl : List Int32) (ll : List Int32) (cl : List Int32) (nl : List Int32) (pl : List Int32) (vl : List Int32) (tl : List Int32) : Int32 := (lawF_231  t0 x9 x10 wl fl ll cl nl pl vl tl)
def lawF_195  (x8 : Int32) (x9 : Int32) (x10 : Int32) (t0 : Int32) (wl : List Int32) (fl : List Int32) (ll : List Int32) (cl : List Int32) (nl : List Int32) (pl : List Int32) (vl : List Int32) (tl : List Int32) : Int32 := (if (0 : Int32) < x9 then (if t0 = (0 : Int32) then (lawF_229  t0 x9 x10 (0 : Int32) wl fl ll cl nl pl vl tl) else (if (lasF (0 : Int32) ll) = (lrfF (0 : Int32) vl tl) then (lawF_229  t0 x9 x10 (1 : Int32) wl fl ll cl nl pl vl tl) else (lawF_229  t0 x9 x10 (0 : Int32) wl fl ll cl nl pl vl tl))) else (lawF_231  t0 x9 x10 wl fl ll cl nl pl vl tl))
def lawF_145  (t0 : Int32) (wl : List Int32) (fl : List Int32) (ll : List Int32) (cl : List Int32) (nl : List Int32) (pl : List Int32) (vl : List Int32) (tl : List Int32) : Int32 := (if t0 = (0 : Int32) then (lawF_195  t0 (crfF (0 : Int32) vl) (crfF (1 : Int32) vl) (0 : Int32) wl fl ll cl nl pl vl tl) else (if (couF (0 : Int32) cl) = (crfF (0 : Int32) vl) then (if (couF (1 : Int32) cl) = (crfF (1 : Int32) vl) then (lawF_195  t0 (crfF (0 : Int32) vl) (crfF (1 : Int32) vl) (1 : Int32) wl fl ll cl nl pl vl tl) else (lawF_195  t0 (crfF (0 : Int32) vl) (crfF (1 : Int32) vl) (0 : Int32) wl fl ll cl nl pl vl tl)) else (lawF_195  t0 (crfF (0 : Int32) vl) (crfF (1 : Int32) vl) (0 : Int32) wl fl ll cl nl pl vl tl)))
def lawF_101  (wl : List Int32) (fl : List Int32) (ll : List Int32) (cl : List Int32) (nl : List Int32) (pl : List Int32) (vl : List Int32) (tl : List Int32) : Int32 := (if (wifF (0 : Int32) wl) = (vl.getD 0 (0 : Int32)) then (if (wifF (1 : Int32) wl) = (vl.getD 1 (0 : Int32)) then (if (wifF (2 : Int32) wl) = (vl.getD 2 (0 : Int32)) then (lawF_145  (1 : Int32) wl fl ll cl nl pl vl tl) else (lawF_145  (0 : Int32) wl fl ll cl nl pl vl tl)) else (lawF_145  (0 : Int32) wl fl ll cl nl pl vl tl)) else (lawF_145  (0 : Int32) wl fl ll cl nl pl vl tl))
def lawF_89 (p5 : Int32) (wl : List Int32) (fl : List Int32) (ll : List Int32) (cl : List Int32) (nl : List Int32) (pl : List Int32) (vl : List Int32) (tl : List Int32) : Int32 := (lawF_101  (stpF p5 (4 : Int32) wl fl ll cl nl pl vl tl).1 (stpF p5 (4 : Int32) wl fl ll cl nl pl vl tl).2.1 (stpF p5 (4 : Int32) wl fl ll cl nl pl vl tl).2.2.1 (stpF p5 (4 : Int32) wl fl ll cl nl pl vl tl).2.2.2.1 (stpF p5 (4 : Int32) wl fl ll cl nl pl vl tl).2.2.2.2.1 (stpF p5 (4 : Int32) wl fl ll cl nl pl vl tl).2.2.2.2.2.1 (stpF p5 (4 : Int32) wl fl ll cl nl pl vl tl).2.2.2.2.2.2.1 (stpF p5 (4 : Int32) wl fl ll cl nl pl vl tl).2.2.2.2.2.2.2)
def lawF_78 (p4 : Int32) (p5 : Int32) (wl : List Int32) (fl : List Int32) (ll : List Int32) (cl : List Int32) (nl : List Int32) (pl : List Int32) (vl : List Int32) (tl : List Int32) : Int32 := (lawF_89 p5 (stpF p4 (3 : Int32) wl fl ll cl nl pl vl tl).1 (stpF p4 (3 : Int32) wl fl ll cl nl pl vl tl).2.1 (stpF p4 (3 : Int32) wl fl ll cl nl pl vl tl).2.2.1 (stpF p4 (3 : Int32) wl fl ll cl nl pl vl tl).2.2.2.1 (stpF p4 (3 : Int32) wl fl ll cl nl pl vl tl).2.2.2.2.1 (stpF p4 (3 : Int32) wl fl ll cl nl pl vl tl).2.2.2.2.2.1 (stpF p4 (3 : Int32) wl fl ll cl nl pl vl tl).2.2.2.2.2.2.1 (stpF p4 (3 : Int32) wl fl ll cl nl pl vl tl).2.2.2.2.2.2.2)
def lawF_67 (p3 : Int32) (p4 : Int32) (p5 : Int32) (wl : List Int32) (fl : List Int32) (ll : List Int32) (cl : List Int32) (nl : List Int32) (pl : List Int32) (vl : List Int32) (tl : List Int32) : Int32 := (lawF_78 p4 p5 (stpF p3 (2 : Int32) wl fl ll cl nl pl vl tl).1 (stpF p3 (2 : Int32) wl fl ll cl nl pl vl tl).2.1 (stpF p3 (2 : Int32) wl fl ll cl nl pl vl tl).2.2.1 (stpF p3 (2 : Int32) wl fl ll cl nl pl vl tl).2.2.2.1 (stpF p3 (2 : Int32) wl fl ll cl nl pl vl tl).2.2.2.2.1 (stpF p3 (2 : Int32) wl fl ll cl nl pl vl tl).2.2.2.2.2.1 (stpF p3 (2 : Int32) wl fl ll cl nl pl vl tl).2.2.2.2.2.2.1 (stpF p3 (2 : Int32) wl fl ll cl nl pl vl tl).2.2.2.2.2.2.2)
def lawF_56 (p2 : Int32) (p3 : Int32) (p4 : Int32) (p5 : Int32) (wl : List Int32) (fl : List Int32) (ll : List Int32) (cl : List Int32) (nl : List Int32) (pl : List Int32) (vl : List Int32) (tl : List Int32) : Int32 := (lawF_67 p3 p4 p5 (stpF p2 (1 : Int32) wl fl ll cl nl pl vl tl).1 (stpF p2 (1 : Int32) wl fl ll cl nl pl vl tl).2.1 (stpF p2 (1 : Int32) wl fl ll cl nl pl vl tl).2.2.1 (stpF p2 (1 : Int32) wl fl ll cl nl pl vl tl).2.2.2.1 (stpF p2 (1 : Int32) wl fl ll cl nl pl vl tl).2.2.2.2.1 (stpF p2 (1 : Int32) wl fl ll cl nl pl vl tl).2.2.2.2.2.1 (stpF p2 (1 : Int32) wl fl ll cl nl pl vl tl).2.2.2.2.2.2.1 (stpF p2 (1 : Int32) wl fl ll cl nl pl vl tl).2.2.2.2.2.2.2)
def lawF (p1 : Int32) (p2 : Int32) (p3 : Int32) (p4 : Int32) (p5 : Int32) : Int32 := (lawF_56 p2 p3 p4 p5 (stpF p1 (0 : Int32) [(-1 : Int32), (-1 : Int32), (-1 : Int32)] [(-1 : Int32), (-1 : Int32)] [(-1 : Int32), (-1 : Int32)] [(0 : Int32), (0 : Int32)] [(0 : Int32), (0 : Int32), (0 : Int32)] [(0 : Int32), (0 : Int32), (0 : Int32)] [(-1 : Int32), (-1 : Int32), (-1 : Int32)] [(-1 : Int32), (-1 : Int32), (-1 : Int32)]).1 (stpF p1 (0 : Int32) [(-1 : Int32), (-1 : Int32), (-1 : Int32)] [(-1 : Int32), (-1 : Int32)] [(-1 : Int32), (-1 : Int32)] [(0 : Int32), (0 : Int32)] [(0 : Int32), (0 : Int32), (0 : Int32)] [(0 : Int32), (0 : Int32), (0 : Int32)] [(-1 : Int32), (-1 : Int32), (-1 : Int32)] [(-1 : Int32), (-1 : Int32), (-1 : Int32)]).2.1 (stpF p1 (0 : Int32) [(-1 : Int32), (-1 : Int32), (-1 : Int32)] [(-1 : Int32), (-1 : Int32)] [(-1 : Int32), (-1 : Int32)] [(0 : Int32), (0 : Int32)] [(0 : Int32), (0 : Int32), (0 : Int32)] [(0 : Int32), (0 : Int32), (0 : Int32)] [(-1 : Int32), (-1 : Int32), (-1 : Int32)] [(-1 : Int32), (-1 : Int32), (-1 : Int32)]).2.2.1 (stpF p1 (0 : Int32) [(-1 : Int32), (-1 : Int32), (-1 : Int32)] [(-1 : Int32), (-1 : Int32)] [(-1 : Int32), (-1 : Int32)] [(0 : Int32), (0 : Int32)] [(0 : Int32), (0 : Int32), (0 : Int32)] [(0 : Int32), (0 : Int32), (0 : Int32)] [(-1 : Int32), (-1 : Int32), (-1 : Int32)] [(-1 : Int32), (-1 : Int32), (-1 : Int32)]).2.2.2.1 (stpF p1 (0 : Int32) [(-1 : Int32), (-1 : Int32), (-1 : Int32)] [(-1 : Int32), (-1 : Int32)] [(-1 : Int32), (-1 : Int32)] [(0 : Int32), (0 : Int32)] [(0 : Int32), (0 : Int32), (0 : Int32)] [(0 : Int32), (0 : Int32), (0 : Int32)] [(-1 : Int32), (-1 : Int32), (-1 : Int32)] [(-1 : Int32), (-1 : Int32), (-1 : Int32)]).2.2.2.2.1 (stpF p1 (0 : Int32) [(-1 : Int32), (-1 : Int32), (-1 : Int32)] [(-1 : Int32), (-1 : Int32)] [(-1 : Int32), (-1 : Int32)] [(0 : Int32), (0 : Int32)] [(0 : Int32), (0 : Int32), (0 : Int32)] [(0 : Int32), (0 : Int32), (0 : Int32)] [(-1 : Int32), (-1 : Int32), (-1 : Int32)] [(-1 : Int32), (-1 : Int32), (-1 : Int32)]).2.2.2.2.2.1 (stpF p1 (0 : Int32) [(-1 : Int32), (-1 : Int32), (-1 : Int32)] [(-1 : Int32), (-1 : Int32)] [(-1 : Int32), (-1 : Int32)] [(0 : Int32), (0 : Int32)] [(0 : Int32), (0 : Int32), (0 : Int32)] [(0 : Int32), (0 : Int32), (0 : Int32)] [(-1 : Int32), (-1 : Int32), (-1 : Int32)] [(-1 : Int32), (-1 : Int32), (-1 : Int32)]).2.2.2.2.2.2.1 (stpF p1 (0 : Int32) [(-1 : Int32), (-1 : Int32), (-1 : Int32)] [(-1 : Int32), (-1 : Int32)] [(-1 : Int32), (-1 : Int32)] [(0 : Int32), (0 : Int32)] [(0 : Int32), (0 : Int32), (0 : Int32)] [(0 : Int32), (0 : Int32), (0 : Int32)] [(-1 : Int32), (-1 : Int32), (-1 : Int32)] [(-1 : Int32), (-1 : Int32), (-1 : Int32)]).2.2.2.2.2.2.2)
def Q0 (Z : State) (p1 : Int32) (p2 : Int32) (p3 : Int32) (p4 : Int32) (p5 : Int32)  (RES : Int32) (h0 : Heap) (n0 : Nat) (v : Option Value) (h : Heap) (L : List Loc) : Prop := v = some (.int RES) ∧ Fr n0 L
set_option maxRecDepth 65536 in
set_option maxHeartbeats 40000000 in
theorem rm_0 (l : Launch) (Z : State) (a0 : Array Value) (hw : ∀ d ∈ tables_1, d.before a0 Z = true) (ws : List Jvm.Cond) (p1 : Int32) (p2 : Int32) (p3 : Int32) (p4 : Int32) (p5 : Int32)  (h0 : Heap) (n0 : Nat) (Z0 : n0 ≤ h0.size) :
    MetFree l x (head1 (Jvm.Cond.code x code maxLocals ret :: ws) room_1) (fun A_ U => A_ = #[(.int p1), (.int p2), (.int p3), (.int p4), (.int p5)] ∧ Z.Warmed39 U.vm ∧ U.heap = h0) (fun _ _ _ _ _ => True) (fun _ U o U' => ∃ v L, o = .returned v ∧ Q0 Z p1 p2 p3 p4 p5 (lawF p1 p2 p3 p4 p5) h0 n0 v U'.heap L ∧ FrameEnd U o U' L 32 128) := by
  refine MetFree.of_bodySF (plainFor_of_name pn_2) hisR ?_
  intro p e s m args below meth c s₁ Bd hml0 hP hK
  obtain ⟨rfl, hZ, hh⟩ := hP
  have hx := Bd.exec
  have hby := Bd.bytes
  have hml : c.maxLocals = 11 := hml0
  have hown : s.vm.findClass "com/example/knotwise/knotwise/PlacementPlacePinLaw" = some m.cls := findClass_of_methodNamed Bd.named
  have hnm := (name_of_methodNamed Bd.named Bd.method).1
  have X0 : Stand p l e room_1 s m #[(.int p1), (.int p2), (.int p3), (.int p4), (.int p5)] below meth c s₁ [] 0 0 := Stand.of_body Bd
  have e0 : s₁.heap = h0 := by rw [← hh, Bd.state]; rfl
  have N0 := Fr.nil n0
  obtain ⟨RES, hf⟩ : ∃ z, z = lawF p1 p2 p3 p4 p5 := ⟨_, rfl⟩
  rw [← hf]
  rw [lawF] at hf
  suffices HGO : Go p e below s (Q0 Z p1 p2 p3 p4 p5 RES h0 n0) 32 128 s₁ (mkF m 0 #[.val (.int p1), .val (.int p2), .val (.int p3), .val (.int p4), .val (.int p5), .unset, .unset, .unset, .unset, .unset, .unset] []) from Go.cast (ef_0 m p1 p2 p3 p4 p5) HGO
  have S265 : ∀ (T : State) (locs : List Loc) (cells slots : Nat) (X : Stand p l e room_1 s m #[(.int p1), (.int p2), (.int p3), (.int p4), (.int p5)] below meth c T locs cells slots) (hcl : cells ≤ 9) (hsl : slots ≤ 27) (h : Heap) (eT : T.heap = h) (N : Fr n0 locs) (x8 : Int32) (x9 : Int32) (x10 : Int32)  (b1 : Addr) (aw_8 : Addr) (af_8 : Addr) (al_8 : Addr) (ac_8 : Addr) (an_8 : Addr) (ap_8 : Addr) (b10 : Addr) (b73 : Addr) (wl : List Int32) (fl : List Int32) (ll : List Int32) (cl : List Int32) (nl : List Int32) (pl : List Int32) (vl : List Int32) (tl : List Int32) (K : Keep h0 h []) (fc0 : Exa Z h b1 "com/example/knotwise/knotwise/Placement") (fc1 : Fld Z h b1 "com/example/knotwise/knotwise/Placement" "wives" "[I" (.ref aw_8)) (fc2 : Fld Z h b1 "com/example/knotwise/knotwise/Placement" "first" "[I" (.ref af_8)) (fc3 : Fld Z h b1 "com/example/knotwise/knotwise/Placement" "last" "[I" (.ref al_8)) (fc4 : Fld Z h b1 "com/example/knotwise/knotwise/Placement" "count" "[I" (.ref ac_8)) (fc5 : Fld Z h b1 "com/example/knotwise/knotwise/Placement" "next" "[I" (.ref an_8)) (fc6 : Fld Z h b1 "com/example/knotwise/knotwise/Placement" "previous" "[I" (.ref ap_8)) (fc7 : VA Z h aw_8 .int (wl.map Value.int)) (fc8 : VA Z h af_8 .int (fl.map Value.int)) (fc9 : VA Z h al_8 .int (ll.map Value.int)) (fc10 : VA Z h ac_8 .int (cl.map Value.int)) (fc11 : VA Z h an_8 .int (nl.map Value.int)) (fc12 : VA Z h ap_8 .int (pl.map Value.int)) (fc13 : VA Z h b10 .int (vl.map Value.int)) (fc14 : VA Z h b73 .int (tl.map Value.int)) (g_b1 : n0 ≤ b1) (g_aw_8 : n0 ≤ aw_8) (g_af_8 : n0 ≤ af_8) (g_al_8 : n0 ≤ al_8) (g_ac_8 : n0 ≤ ac_8) (g_an_8 : n0 ≤ an_8) (g_ap_8 : n0 ≤ ap_8) (g_b10 : n0 ≤ b10) (g_b73 : n0 ≤ b73) (sz_b1 : h0.size ≤ b1) (sz_aw_8 : h0.size ≤ aw_8) (sz_af_8 : h0.size ≤ af_8) (sz_al_8 : h0.size ≤ al_8) (sz_ac_8 : h0.size ≤ ac_8) (sz_an_8 : h0.size ≤ an_8) (sz_ap_8 : h0.size ≤ ap_8) (sz_b10 : h0.size ≤ b10) (sz_b73 : h0.size ≤ b73) (ne_b1_aw_8 : b1 ≠ aw_8) (ne_b1_af_8 : b1 ≠ af_8) (ne_b1_al_8 : b1 ≠ al_8) (ne_b1_ac_8 : b1 ≠ ac_8) (ne_b1_an_8 : b1 ≠ an_8) (ne_b1_ap_8 : b1 ≠ ap_8) (ne_aw_8_af_8 : aw_8 ≠ af_8) (ne_aw_8_al_8 : aw_8 ≠ al_8) (ne_aw_8_ac_8 : aw_8 ≠ ac_8) (ne_aw_8_an_8 : aw_8 ≠ an_8) (ne_aw_8_ap_8 : aw_8 ≠ ap_8) (ne_af_8_al_8 : af_8 ≠ al_8) (ne_af_8_ac_8 : af_8 ≠ ac_8) (ne_af_8_an_8 : af_8 ≠ an_8) (ne_af_8_ap_8 : af_8 ≠ ap_8) (ne_al_8_ac_8 : al_8 ≠ ac_8) (ne_al_8_an_8 : al_8 ≠ an_8) (ne_al_8_ap_8 : al_8 ≠ ap_8) (ne_ac_8_an_8 : ac_8 ≠ an_8) (ne_ac_8_ap_8 : ac_8 ≠ ap_8) (ne_an_8_ap_8 : an_8 ≠ ap_8) (ne_b1_b10 : b1 ≠ b10) (ne_aw_8_b10 : aw_8 ≠ b10) (ne_af_8_b10 : af_8 ≠ b10) (ne_al_8_b10 : al_8 ≠ b10) (ne_ac_8_b10 : ac_8 ≠ b10) (ne_an_8_b10 : an_8 ≠ b10) (ne_ap_8_b10 : ap_8 ≠ b10) (ne_b1_b73 : b1 ≠ b73) (ne_aw_8_b73 : aw_8 ≠ b73) (ne_af_8_b73 : af_8 ≠ b73) (ne_al_8_b73 : al_8 ≠ b73) (ne_ac_8_b73 : ac_8 ≠ b73) (ne_an_8_b73 : an_8 ≠ b73) (ne_ap_8_b73 : ap_8 ≠ b73) (ne_b10_b73 : b10 ≠ b73) (hI : own_I wl fl ll cl nl pl) (hv : vl.length = 3) (ht : tl.length = 3) (hf : RES = lawF_265  x8 x9 x10 wl fl ll cl nl pl vl tl), Go p e below s (Q0 Z p1 p2 p3 p4 p5 RES h0 n0) 32 128 T (mkF m 265 #[.val (.int p1), .val (.int p2), .val (.int p3), .val (.int p4), .val (.int p5), .val (.ref b1), .val (.ref b10), .val (.ref b73), .val (.int x8), .val (.int x9), .val (.int x10)] []) := by
    intro T locs cells slots X hcl hsl h eT N x8 x9 x10 b1 aw_8 af_8 al_8 ac_8 an_8 ap_8 b10 b73 wl fl ll cl nl pl vl tl K fc0 fc1 fc2 fc3 fc4 fc5 fc6 fc7 fc8 fc9 fc10 fc11 fc12 fc13 fc14 g_b1 g_aw_8 g_af_8 g_al_8 g_ac_8 g_an_8 g_ap_8 g_b10 g_b73 sz_b1 sz_aw_8 sz_af_8 sz_al_8 sz_ac_8 sz_an_8 sz_ap_8 sz_b10 sz_b73 ne_b1_aw_8 ne_b1_af_8 ne_b1_al_8 ne_b1_ac_8 ne_b1_an_8 ne_b1_ap_8 ne_aw_8_af_8 ne_aw_8_al_8 ne_aw_8_ac_8 ne_aw_8_an_8 ne_aw_8_ap_8 ne_af_8_al_8 ne_af_8_ac_8 ne_af_8_an_8 ne_af_8_ap_8 ne_al_8_ac_8 ne_al_8_an_8 ne_al_8_ap_8 ne_ac_8_an_8 ne_ac_8_ap_8 ne_an_8_ap_8 ne_b1_b10 ne_aw_8_b10 ne_af_8_b10 ne_al_8_b10 ne_ac_8_b10 ne_an_8_b10 ne_ap_8_b10 ne_b1_b73 ne_aw_8_b73 ne_af_8_b73 ne_al_8_b73 ne_ac_8_b73 ne_an_8_b73 ne_ap_8_b73 ne_b10_b73 hI hv ht hf
    have Zh : n0 ≤ h.size := Nat.le_trans Z0 K.1
    rw [lawF_265] at hf
    refine Go.step (T' := T) (f' := (mkF m 267 #[.val (.int p1), .val (.int p2), .val (.int p3), .val (.int p4), .val (.int p5), .val (.ref b1), .val (.ref b10), .val (.ref b73), .val (.int x8), .val (.int x9), .val (.int x10)] [(.int x8)])) (fun t kt => ?_) ?_
    · show Steps p.tables e below (T.setTop (mkF m 265 #[.val (.int p1), .val (.int p2), .val (.int p3), .val (.int p4), .val (.int p5), .val (.ref b1), .val (.ref b10), .val (.ref b73), .val (.int x8), .val (.int x9), .val (.int x10)] [])) _
      refine XS.iload X.here hx rfl (hb hby at_265) rfl ?_
      exact kt
    refine Go.fin X (v := some (.int (nar .boolean x8))) (fun h => by rw [Bd.returns] at h; cases h) Bd.notSynchronized ?_ (Nat.le_trans hcl (by decide)) (Nat.le_trans hsl (by decide)) (fun fs hr => retN X hx (t := .boolean) Bd.returns (by simp) (hb hby at_267) hr)
    · exact ⟨by rw [hf], N⟩
  have S263 : ∀ (T : State) (locs : List Loc) (cells slots : Nat) (X : Stand p l e room_1 s m #[(.int p1), (.int p2), (.int p3), (.int p4), (.int p5)] below meth c T locs cells slots) (hcl : cells ≤ 9) (hsl : slots ≤ 27) (h : Heap) (eT : T.heap = h) (N : Fr n0 locs) (x8 : Int32) (x9 : Int32) (x10 : Int32) (t0 : Int32)  (b1 : Addr) (aw_8 : Addr) (af_8 : Addr) (al_8 : Addr) (ac_8 : Addr) (an_8 : Addr) (ap_8 : Addr) (b10 : Addr) (b73 : Addr) (wl : List Int32) (fl : List Int32) (ll : List Int32) (cl : List Int32) (nl : List Int32) (pl : List Int32) (vl : List Int32) (tl : List Int32) (K : Keep h0 h []) (fc0 : Exa Z h b1 "com/example/knotwise/knotwise/Placement") (fc1 : Fld Z h b1 "com/example/knotwise/knotwise/Placement" "wives" "[I" (.ref aw_8)) (fc2 : Fld Z h b1 "com/example/knotwise/knotwise/Placement" "first" "[I" (.ref af_8)) (fc3 : Fld Z h b1 "com/example/knotwise/knotwise/Placement" "last" "[I" (.ref al_8)) (fc4 : Fld Z h b1 "com/example/knotwise/knotwise/Placement" "count" "[I" (.ref ac_8)) (fc5 : Fld Z h b1 "com/example/knotwise/knotwise/Placement" "next" "[I" (.ref an_8)) (fc6 : Fld Z h b1 "com/example/knotwise/knotwise/Placement" "previous" "[I" (.ref ap_8)) (fc7 : VA Z h aw_8 .int (wl.map Value.int)) (fc8 : VA Z h af_8 .int (fl.map Value.int)) (fc9 : VA Z h al_8 .int (ll.map Value.int)) (fc10 : VA Z h ac_8 .int (cl.map Value.int)) (fc11 : VA Z h an_8 .int (nl.map Value.int)) (fc12 : VA Z h ap_8 .int (pl.map Value.int)) (fc13 : VA Z h b10 .int (vl.map Value.int)) (fc14 : VA Z h b73 .int (tl.map Value.int)) (g_b1 : n0 ≤ b1) (g_aw_8 : n0 ≤ aw_8) (g_af_8 : n0 ≤ af_8) (g_al_8 : n0 ≤ al_8) (g_ac_8 : n0 ≤ ac_8) (g_an_8 : n0 ≤ an_8) (g_ap_8 : n0 ≤ ap_8) (g_b10 : n0 ≤ b10) (g_b73 : n0 ≤ b73) (sz_b1 : h0.size ≤ b1) (sz_aw_8 : h0.size ≤ aw_8) (sz_af_8 : h0.size ≤ af_8) (sz_al_8 : h0.size ≤ al_8) (sz_ac_8 : h0.size ≤ ac_8) (sz_an_8 : h0.size ≤ an_8) (sz_ap_8 : h0.size ≤ ap_8) (sz_b10 : h0.size ≤ b10) (sz_b73 : h0.size ≤ b73) (ne_b1_aw_8 : b1 ≠ aw_8) (ne_b1_af_8 : b1 ≠ af_8) (ne_b1_al_8 : b1 ≠ al_8) (ne_b1_ac_8 : b1 ≠ ac_8) (ne_b1_an_8 : b1 ≠ an_8) (ne_b1_ap_8 : b1 ≠ ap_8) (ne_aw_8_af_8 : aw_8 ≠ af_8) (ne_aw_8_al_8 : aw_8 ≠ al_8) (ne_aw_8_ac_8 : aw_8 ≠ ac_8) (ne_aw_8_an_8 : aw_8 ≠ an_8) (ne_aw_8_ap_8 : aw_8 ≠ ap_8) (ne_af_8_al_8 : af_8 ≠ al_8) (ne_af_8_ac_8 : af_8 ≠ ac_8) (ne_af_8_an_8 : af_8 ≠ an_8) (ne_af_8_ap_8 : af_8 ≠ ap_8) (ne_al_8_ac_8 : al_8 ≠ ac_8) (ne_al_8_an_8 : al_8 ≠ an_8) (ne_al_8_ap_8 : al_8 ≠ ap_8) (ne_ac_8_an_8 : ac_8 ≠ an_8) (ne_ac_8_ap_8 : ac_8 ≠ ap_8) (ne_an_8_ap_8 : an_8 ≠ ap_8) (ne_b1_b10 : b1 ≠ b10) (ne_aw_8_b10 : aw_8 ≠ b10) (ne_af_8_b10 : af_8 ≠ b10) (ne_al_8_b10 : al_8 ≠ b10) (ne_ac_8_b10 : ac_8 ≠ b10) (ne_an_8_b10 : an_8 ≠ b10) (ne_ap_8_b10 : ap_8 ≠ b10) (ne_b1_b73 : b1 ≠ b73) (ne_aw_8_b73 : aw_8 ≠ b73) (ne_af_8_b73 : af_8 ≠ b73) (ne_al_8_b73 : al_8 ≠ b73) (ne_ac_8_b73 : ac_8 ≠ b73) (ne_an_8_b73 : an_8 ≠ b73) (ne_ap_8_b73 : ap_8 ≠ b73) (ne_b10_b73 : b10 ≠ b73) (hI : own_I wl fl ll cl nl pl) (hv : vl.length = 3) (ht : tl.length = 3) (hf : RES = lawF_263  x8 x9 x10 t0 wl fl ll cl nl pl vl tl), Go p e below s (Q0 Z p1 p2 p3 p4 p5 RES h0 n0) 32 128 T (mkF m 263 #[.val (.int p1), .val (.int p2), .val (.int p3), .val (.int p4), .val (.int p5), .val (.ref b1), .val (.ref b10), .val (.ref b73), .val (.int x8), .val (.int x9), .val (.int x10)] [(.int t0)]) := by
    intro T locs cells slots X hcl hsl h eT N x8 x9 x10 t0 b1 aw_8 af_8 al_8 ac_8 an_8 ap_8 b10 b73 wl fl ll cl nl pl vl tl K fc0 fc1 fc2 fc3 fc4 fc5 fc6 fc7 fc8 fc9 fc10 fc11 fc12 fc13 fc14 g_b1 g_aw_8 g_af_8 g_al_8 g_ac_8 g_an_8 g_ap_8 g_b10 g_b73 sz_b1 sz_aw_8 sz_af_8 sz_al_8 sz_ac_8 sz_an_8 sz_ap_8 sz_b10 sz_b73 ne_b1_aw_8 ne_b1_af_8 ne_b1_al_8 ne_b1_ac_8 ne_b1_an_8 ne_b1_ap_8 ne_aw_8_af_8 ne_aw_8_al_8 ne_aw_8_ac_8 ne_aw_8_an_8 ne_aw_8_ap_8 ne_af_8_al_8 ne_af_8_ac_8 ne_af_8_an_8 ne_af_8_ap_8 ne_al_8_ac_8 ne_al_8_an_8 ne_al_8_ap_8 ne_ac_8_an_8 ne_ac_8_ap_8 ne_an_8_ap_8 ne_b1_b10 ne_aw_8_b10 ne_af_8_b10 ne_al_8_b10 ne_ac_8_b10 ne_an_8_b10 ne_ap_8_b10 ne_b1_b73 ne_aw_8_b73 ne_af_8_b73 ne_al_8_b73 ne_ac_8_b73 ne_an_8_b73 ne_ap_8_b73 ne_b10_b73 hI hv ht hf
    have Zh : n0 ≤ h.size := Nat.le_trans Z0 K.1
    rw [lawF_263] at hf
    refine Go.step (T' := T) (f' := (mkF m 265 #[.val (.int p1), .val (.int p2), .val (.int p3), .val (.int p4), .val (.int p5), .val (.ref b1), .val (.ref b10), .val (.ref b73), .val (.int t0), .val (.int x9), .val (.int x10)] [])) (fun t kt => ?_) ?_
    · show Steps p.tables e below (T.setTop (mkF m 263 #[.val (.int p1), .val (.int p2), .val (.int p3), .val (.int p4), .val (.int p5), .val (.ref b1), .val (.ref b10), .val (.ref b73), .val (.int x8), .val (.int x9), .val (.int x10)] [(.int t0)])) _
      refine XS.istore X.here hx rfl (hb hby at_263) rfl (l' := #[.val (.int p1), .val (.int p2), .val (.int p3), .val (.int p4), .val (.int p5), .val (.ref b1), .val (.ref b10), .val (.ref b73), .val (.int t0), .val (.int x9), .val (.int x10)]) rfl ?_
      exact kt
    exact S265 _ _ _ _ X (Nat.le_trans hcl (by decide)) (Nat.le_trans hsl (by decide)) h eT N t0 x9 x10 b1 aw_8 af_8 al_8 ac_8 an_8 ap_8 b10 b73 wl fl ll cl nl pl vl tl K fc0 fc1 fc2 fc3 fc4 fc5 fc6 fc7 fc8 fc9 fc10 fc11 fc12 fc13 fc14 g_b1 g_aw_8 g_af_8 g_al_8 g_ac_8 g_an_8 g_ap_8 g_b10 g_b73 sz_b1 sz_aw_8 sz_af_8 sz_al_8 sz_ac_8 sz_an_8 sz_ap_8 sz_b10 sz_b73 ne_b1_aw_8 ne_b1_af_8 ne_b1_al_8 ne_b1_ac_8 ne_b1_an_8 ne_b1_ap_8 ne_aw_8_af_8 ne_aw_8_al_8 ne_aw_8_ac_8 ne_aw_8_an_8 ne_aw_8_ap_8 ne_af_8_al_8 ne_af_8_ac_8 ne_af_8_an_8 ne_af_8_ap_8 ne_al_8_ac_8 ne_al_8_an_8 ne_al_8_ap_8 ne_ac_8_an_8 ne_ac_8_ap_8 ne_an_8_ap_8 ne_b1_b10 ne_aw_8_b10 ne_af_8_b10 ne_al_8_b10 ne_ac_8_b10 ne_an_8_b10 ne_ap_8_b10 ne_b1_b73 ne_aw_8_b73 ne_af_8_b73 ne_al_8_b73 ne_ac_8_b73 ne_an_8_b73 ne_ap_8_b73 ne_b10_b73 hI hv ht hf
  have S231 : ∀ (T : State) (locs : List Loc) (cells slots : Nat) (X : Stand p l e room_1 s m #[(.int p1), (.int p2), (.int p3), (.int p4), (.int p5)] below meth c T locs cells slots) (hcl : cells ≤ 9) (hsl : slots ≤ 27) (h : Heap) (eT : T.heap = h) (N : Fr n0 locs) (x8 : Int32) (x9 : Int32) (x10 : Int32)  (b1 : Addr) (aw_8 : Addr) (af_8 : Addr) (al_8 : Addr) (ac_8 : Addr) (an_8 : Addr) (ap_8 : Addr) (b10 : Addr) (b73 : Addr) (wl : List Int32) (fl : List Int32) (ll : List Int32) (cl : List Int32) (nl : List Int32) (pl : List Int32) (vl : List Int32) (tl : List Int32) (K : Keep h0 h []) (fc0 : Exa Z h b1 "com/example/knotwise/knotwise/Placement") (fc1 : Fld Z h b1 "com/example/knotwise/knotwise/Placement" "wives" "[I" (.ref aw_8)) (fc2 : Fld Z h b1 "com/example/knotwise/knotwise/Placement" "first" "[I" (.ref af_8)) (fc3 : Fld Z h b1 "com/example/knotwise/knotwise/Placement" "last" "[I" (.ref al_8)) (fc4 : Fld Z h b1 "com/example/knotwise/knotwise/Placement" "count" "[I" (.ref ac_8)) (fc5 : Fld Z h b1 "com/example/knotwise/knotwise/Placement" "next" "[I" (.ref an_8)) (fc6 : Fld Z h b1 "com/example/knotwise/knotwise/Placement" "previous" "[I" (.ref ap_8)) (fc7 : VA Z h aw_8 .int (wl.map Value.int)) (fc8 : VA Z h af_8 .int (fl.map Value.int)) (fc9 : VA Z h al_8 .int (ll.map Value.int)) (fc10 : VA Z h ac_8 .int (cl.map Value.int)) (fc11 : VA Z h an_8 .int (nl.map Value.int)) (fc12 : VA Z h ap_8 .int (pl.map Value.int)) (fc13 : VA Z h b10 .int (vl.map Value.int)) (fc14 : VA Z h b73 .int (tl.map Value.int)) (g_b1 : n0 ≤ b1) (g_aw_8 : n0 ≤ aw_8) (g_af_8 : n0 ≤ af_8) (g_al_8 : n0 ≤ al_8) (g_ac_8 : n0 ≤ ac_8) (g_an_8 : n0 ≤ an_8) (g_ap_8 : n0 ≤ ap_8) (g_b10 : n0 ≤ b10) (g_b73 : n0 ≤ b73) (sz_b1 : h0.size ≤ b1) (sz_aw_8 : h0.size ≤ aw_8) (sz_af_8 : h0.size ≤ af_8) (sz_al_8 : h0.size ≤ al_8) (sz_ac_8 : h0.size ≤ ac_8) (sz_an_8 : h0.size ≤ an_8) (sz_ap_8 : h0.size ≤ ap_8) (sz_b10 : h0.size ≤ b10) (sz_b73 : h0.size ≤ b73) (ne_b1_aw_8 : b1 ≠ aw_8) (ne_b1_af_8 : b1 ≠ af_8) (ne_b1_al_8 : b1 ≠ al_8) (ne_b1_ac_8 : b1 ≠ ac_8) (ne_b1_an_8 : b1 ≠ an_8) (ne_b1_ap_8 : b1 ≠ ap_8) (ne_aw_8_af_8 : aw_8 ≠ af_8) (ne_aw_8_al_8 : aw_8 ≠ al_8) (ne_aw_8_ac_8 : aw_8 ≠ ac_8) (ne_aw_8_an_8 : aw_8 ≠ an_8) (ne_aw_8_ap_8 : aw_8 ≠ ap_8) (ne_af_8_al_8 : af_8 ≠ al_8) (ne_af_8_ac_8 : af_8 ≠ ac_8) (ne_af_8_an_8 : af_8 ≠ an_8) (ne_af_8_ap_8 : af_8 ≠ ap_8) (ne_al_8_ac_8 : al_8 ≠ ac_8) (ne_al_8_an_8 : al_8 ≠ an_8) (ne_al_8_ap_8 : al_8 ≠ ap_8) (ne_ac_8_an_8 : ac_8 ≠ an_8) (ne_ac_8_ap_8 : ac_8 ≠ ap_8) (ne_an_8_ap_8 : an_8 ≠ ap_8) (ne_b1_b10 : b1 ≠ b10) (ne_aw_8_b10 : aw_8 ≠ b10) (ne_af_8_b10 : af_8 ≠ b10) (ne_al_8_b10 : al_8 ≠ b10) (ne_ac_8_b10 : ac_8 ≠ b10) (ne_an_8_b10 : an_8 ≠ b10) (ne_ap_8_b10 : ap_8 ≠ b10) (ne_b1_b73 : b1 ≠ b73) (ne_aw_8_b73 : aw_8 ≠ b73) (ne_af_8_b73 : af_8 ≠ b73) (ne_al_8_b73 : al_8 ≠ b73) (ne_ac_8_b73 : ac_8 ≠ b73) (ne_an_8_b73 : an_8 ≠ b73) (ne_ap_8_b73 : ap_8 ≠ b73) (ne_b10_b73 : b10 ≠ b73) (hI : own_I wl fl ll cl nl pl) (hv : vl.length = 3) (ht : tl.length = 3) (hf : RES = lawF_231  x8 x9 x10 wl fl ll cl nl pl vl tl), Go p e below s (Q0 Z p1 p2 p3 p4 p5 RES h0 n0) 32 128 T (mkF m 231 #[.val (.int p1), .val (.int p2), .val (.int p3), .val (.int p4), .val (.int p5), .val (.ref b1), .val (.ref b10), .val (.ref b73), .val (.int x8), .val (.int x9), .val (.int x10)] []) := by
    intro T locs cells slots X hcl hsl h eT N x8 x9 x10 b1 aw_8 af_8 al_8 ac_8 an_8 ap_8 b10 b73 wl fl ll cl nl pl vl tl K fc0 fc1 fc2 fc3 fc4 fc5 fc6 fc7 fc8 fc9 fc10 fc11 fc12 fc13 fc14 g_b1 g_aw_8 g_af_8 g_al_8 g_ac_8 g_an_8 g_ap_8 g_b10 g_b73 sz_b1 sz_aw_8 sz_af_8 sz_al_8 sz_ac_8 sz_an_8 sz_ap_8 sz_b10 sz_b73 ne_b1_aw_8 ne_b1_af_8 ne_b1_al_8 ne_b1_ac_8 ne_b1_an_8 ne_b1_ap_8 ne_aw_8_af_8 ne_aw_8_al_8 ne_aw_8_ac_8 ne_aw_8_an_8 ne_aw_8_ap_8 ne_af_8_al_8 ne_af_8_ac_8 ne_af_8_an_8 ne_af_8_ap_8 ne_al_8_ac_8 ne_al_8_an_8 ne_al_8_ap_8 ne_ac_8_an_8 ne_ac_8_ap_8 ne_an_8_ap_8 ne_b1_b10 ne_aw_8_b10 ne_af_8_b10 ne_al_8_b10 ne_ac_8_b10 ne_an_8_b10 ne_ap_8_b10 ne_b1_b73 ne_aw_8_b73 ne_af_8_b73 ne_al_8_b73 ne_ac_8_b73 ne_an_8_b73 ne_ap_8_b73 ne_b10_b73 hI hv ht hf
    have Zh : n0 ≤ h.size := Nat.le_trans Z0 K.1
    rw [lawF_231] at hf
    refine Go.step (T' := T) (f' := (mkF m 233 #[.val (.int p1), .val (.int p2), .val (.int p3), .val (.int p4), .val (.int p5), .val (.ref b1), .val (.ref b10), .val (.ref b73), .val (.int x8), .val (.int x9), .val (.int x10)] [(.int x10)])) (fun t kt => ?_) ?_
    · show Steps p.tables e below (T.setTop (mkF m 231 #[.val (.int p1), .val (.int p2), .val (.int p3), .val (.int p4), .val (.int p5), .val (.ref b1), .val (.ref b10), .val (.ref b73), .val (.int x8), .val (.int x9), .val (.int x10)] [])) _
      refine XS.iload X.here hx rfl (hb hby at_231) rfl ?_
      exact kt
    by_cases hc1 : (0 : Int32) < x10
    · rw [if_pos hc1] at hf
      refine Go.step (T' := T) (f' := (mkF m 236 #[.val (.int p1), .val (.int p2), .val (.int p3), .val (.int p4), .val (.int p5), .val (.ref b1), .val (.ref b10), .val (.ref b73), .val (.int x8), .val (.int x9), .val (.int x10)] [])) (fun t kt => ?_) ?_
      · show Steps p.tables e below (T.setTop (mkF m 233 #[.val (.int p1), .val (.int p2), .val (.int p3), .val (.int p4), .val (.int p5), .val (.ref b1), .val (.ref b10), .val (.ref b73), .val (.int x8), .val (.int x9), .val (.int x10)] [(.int x10)])) _
        refine XS.ifNo X.here hx rfl (hb hby at_233) rfl ((if0 _ _).trans (tlt hc1).2.2.2) ?_
        exact kt
      refine Go.step (T' := T) (f' := (mkF m 238 #[.val (.int p1), .val (.int p2), .val (.int p3), .val (.int p4), .val (.int p5), .val (.ref b1), .val (.ref b10), .val (.ref b73), .val (.int x8), .val (.int x9), .val (.int x10)] [(.int x8)])) (fun t kt => ?_) ?_
      · show Steps p.tables e below (T.setTop (mkF m 236 #[.val (.int p1), .val (.int p2), .val (.int p3), .val (.int p4), .val (.int p5), .val (.ref b1), .val (.ref b10), .val (.ref b73), .val (.int x8), .val (.int x9), .val (.int x10)] [])) _
        refine XS.iload X.here hx rfl (hb hby at_236) rfl ?_
        exact kt
      by_cases hc2 : x8 = (0 : Int32)
      · rw [if_pos hc2] at hf
        refine Go.step (T' := T) (f' := (mkF m 262 #[.val (.int p1), .val (.int p2), .val (.int p3), .val (.int p4), .val (.int p5), .val (.ref b1), .val (.ref b10), .val (.ref b73), .val (.int x8), .val (.int x9), .val (.int x10)] [])) (fun t kt => ?_) ?_
        · show Steps p.tables e below (T.setTop (mkF m 238 #[.val (.int p1), .val (.int p2), .val (.int p3), .val (.int p4), .val (.int p5), .val (.ref b1), .val (.ref b10), .val (.ref b73), .val (.int x8), .val (.int x9), .val (.int x10)] [(.int x8)])) _
          refine XS.ifYes X.here hx rfl (pc0 := 238) (pc' := 262) rfl (hb hby at_238) rfl ((if0 _ _).trans (teq hc2).1) (by decide) (by decide) ?_
          exact kt
        refine Go.step (T' := T) (f' := (mkF m 263 #[.val (.int p1), .val (.int p2), .val (.int p3), .val (.int p4), .val (.int p5), .val (.ref b1), .val (.ref b10), .val (.ref b73), .val (.int x8), .val (.int x9), .val (.int x10)] [(.int (0 : Int32))])) (fun t kt => ?_) ?_
        · show Steps p.tables e below (T.setTop (mkF m 262 #[.val (.int p1), .val (.int p2), .val (.int p3), .val (.int p4), .val (.int p5), .val (.ref b1), .val (.ref b10), .val (.ref b73), .val (.int x8), .val (.int x9), .val (.int x10)] [])) _
          refine XS.iconst X.here hx rfl (hb hby at_262) ?_
          exact kt
        exact S263 _ _ _ _ X (Nat.le_trans hcl (by decide)) (Nat.le_trans hsl (by decide)) h eT N x8 x9 x10 (0 : Int32) b1 aw_8 af_8 al_8 ac_8 an_8 ap_8 b10 b73 wl fl ll cl nl pl vl tl K fc0 fc1 fc2 fc3 fc4 fc5 fc6 fc7 fc8 fc9 fc10 fc11 fc12 fc13 fc14 g_b1 g_aw_8 g_af_8 g_al_8 g_ac_8 g_an_8 g_ap_8 g_b10 g_b73 sz_b1 sz_aw_8 sz_af_8 sz_al_8 sz_ac_8 sz_an_8 sz_ap_8 sz_b10 sz_b73 ne_b1_aw_8 ne_b1_af_8 ne_b1_al_8 ne_b1_ac_8 ne_b1_an_8 ne_b1_ap_8 ne_aw_8_af_8 ne_aw_8_al_8 ne_aw_8_ac_8 ne_aw_8_an_8 ne_aw_8_ap_8 ne_af_8_al_8 ne_af_8_ac_8 ne_af_8_an_8 ne_af_8_ap_8 ne_al_8_ac_8 ne_al_8_an_8 ne_al_8_ap_8 ne_ac_8_an_8 ne_ac_8_ap_8 ne_an_8_ap_8 ne_b1_b10 ne_aw_8_b10 ne_af_8_b10 ne_al_8_b10 ne_ac_8_b10 ne_an_8_b10 ne_ap_8_b10 ne_b1_b73 ne_aw_8_b73 ne_af_8_b73 ne_al_8_b73 ne_ac_8_b73 ne_an_8_b73 ne_ap_8_b73 ne_b10_b73 hI hv ht hf
      · rw [if_neg hc2] at hf
        refine Go.step (T' := T) (f' := (mkF m 241 #[.val (.int p1), .val (.int p2), .val (.int p3), .val (.int p4), .val (.int p5), .val (.ref b1), .val (.ref b10), .val (.ref b73), .val (.int x8), .val (.int x9), .val (.int x10)] [])) (fun t kt => ?_) ?_
        · show Steps p.tables e below (T.setTop (mkF m 238 #[.val (.int p1), .val (.int p2), .val (.int p3), .val (.int p4), .val (.int p5), .val (.ref b1), .val (.ref b10), .val (.ref b73), .val (.int x8), .val (.int x9), .val (.int x10)] [(.int x8)])) _
          refine XS.ifNo X.here hx rfl (hb hby at_238) rfl ((if0 _ _).trans (feq hc2).1) ?_
          exact kt
        obtain ⟨cq3, kq3, q3a, q3b, q3c⟩ := isOf hZ eT (fc0 : Exa Z h b1 "com/example/knotwise/knotwise/Placement")
        obtain ⟨_, _, ⟨T3, L3, k3, n3⟩, -, X3, ⟨Lc3, hQ3, l3, y3, z3⟩, st3⟩ := X.virtualBack hx (y := (⟨"com/example/knotwise/knotwise/Placement", "last", "(I)I"⟩ : MethodName)) (z := (⟨"com/example/knotwise/knotwise/Placement", "last", "(I)I"⟩ : MethodName)) hown (mvT hZ (hw _ (List.mem_of_getElem? (i := 54) rfl))) (mvT hZ (hw _ (List.mem_of_getElem? (i := 55) rfl))) (notFace_of_selects (args := #[]) (mvT hZ (hw _ (List.mem_of_getElem? (i := 57) rfl)))) (mvT hZ (hw _ (List.mem_of_getElem? (i := 57) rfl))) (mvT hZ (hw _ (List.mem_of_getElem? (i := 56) rfl))) (by decide) (backOf (W := 0) (rm_lasF l Z a0 hw [] b1 (1 : Int32) al_8 ll h n0 Zh fc3 fc9 (by decide) hI.2.2.1) hZ (hw _ (List.mem_of_getElem? (i := 58) rfl)) (hw _ (List.mem_of_getElem? (i := 2) rfl)) (by decide) (by decide)) q3a q3c (g := (mkF m 244 #[.val (.int p1), .val (.int p2), .val (.int p3), .val (.int p4), .val (.int p5), .val (.ref b1), .val (.ref b10), .val (.ref b73), .val (.int x8), .val (.int x9), .val (.int x10)] [(.int (1 : Int32)), (.ref b1)])) rfl (by rw [hml]; rfl) (Steps.refl _) (argsL := [(.int (1 : Int32))]) (rest := []) (lenOf pd_4 rfl) rfl (by show 2 * 0 + _ ≤ _; exact Nat.le_of_eq rfl) (hb hby at_244) (fun _ _ => ⟨rfl, eT, (Nat.le_trans (Nat.add_le_add_right hcl 0) (by decide)), (Nat.le_trans (Nat.add_le_add_right hsl 0) (by decide))⟩)
        dsimp only [Pt.U, Pt.locs, Pt.cells, Pt.slots] at X3 l3 y3 z3 st3 hQ3
        subst l3 y3 z3
        obtain ⟨rfl, N3q, e3⟩ := hQ3
        have N3 := Fr.app N N3q
        obtain ⟨_, _, ⟨T4, L4, k4, n4⟩, -, X4, ⟨Lc4, hQ4, l4, y4, z4⟩, st4⟩ := Jvm.LawKit.callS X3 hx (y := (⟨"com/example/knotwise/knotwise/PlacementPlacePinLaw", "lastRef", "([I[II)I"⟩ : MethodName)) hown (mvT hZ (hw _ (List.mem_of_getElem? (i := 59) rfl))) (mvT hZ (hw _ (List.mem_of_getElem? (i := 60) rfl))) (mvT hZ (hw _ (List.mem_of_getElem? (i := 28) rfl))) (mvT hZ (hw _ (List.mem_of_getElem? (i := 61) rfl))) (by decide) (backOf (W := 1) (rm_lrfF l Z a0 hw [] b10 b73 (1 : Int32) vl tl h n0 Zh fc13 fc14 hv ht) hZ (hw _ (List.mem_of_getElem? (i := 61) rfl)) (hw _ (List.mem_of_getElem? (i := 28) rfl)) (by decide) (by decide)) (g := (mkF m 252 #[.val (.int p1), .val (.int p2), .val (.int p3), .val (.int p4), .val (.int p5), .val (.ref b1), .val (.ref b10), .val (.ref b73), .val (.int x8), .val (.int x9), .val (.int x10)] [(.int (1 : Int32)), (.ref b73), (.ref b10), (.int (lasF (1 : Int32) ll))])) rfl (by rw [hml]; rfl) (argsL := [(.ref b10), (.ref b73), (.int (1 : Int32))]) (rest := [(.int (lasF (1 : Int32) ll))]) (lenOf pd_6 rfl) rfl (by show 2 * 0 + _ ≤ _; exact Nat.le_of_eq rfl) (hb hby at_252) (fun _ _ => ⟨rfl, e3, (Nat.le_trans (Nat.add_le_add_right (Nat.add_le_add_right hcl 0) 0) (by decide)), (Nat.le_trans (Nat.add_le_add_right (Nat.add_le_add_right hsl 0) 0) (by decide))⟩)
        dsimp only [Pt.U, Pt.locs, Pt.cells, Pt.slots] at X4 l4 y4 z4 st4 hQ4
        subst l4 y4 z4
        obtain ⟨rfl, N4q, e4⟩ := hQ4
        have N4 := Fr.app N3 N4q
        refine Go.step (T' := T4) (f' := (mkF m 255 #[.val (.int p1), .val (.int p2), .val (.int p3), .val (.int p4), .val (.int p5), .val (.ref b1), .val (.ref b10), .val (.ref b73), .val (.int x8), .val (.int x9), .val (.int x10)] [(.int (lrfF (1 : Int32) vl tl)), (.int (lasF (1 : Int32) ll))])) (fun t kt => ?_) ?_
        · show Steps p.tables e below (T.setTop (mkF m 241 #[.val (.int p1), .val (.int p2), .val (.int p3), .val (.int p4), .val (.int p5), .val (.ref b1), .val (.ref b10), .val (.ref b73), .val (.int x8), .val (.int x9), .val (.int x10)] [])) _
          refine XS.aload X.here hx rfl (hb hby at_241) rfl rfl ?_
          show Steps p.tables e below (T.setTop (mkF m 243 #[.val (.int p1), .val (.int p2), .val (.int p3), .val (.int p4), .val (.int p5), .val (.ref b1), .val (.ref b10), .val (.ref b73), .val (.int x8), .val (.int x9), .val (.int x10)] [(.ref b1)])) _
          refine XS.iconst X.here hx rfl (hb hby at_243) ?_
          show Steps p.tables e below (T.setTop (mkF m 244 #[.val (.int p1), .val (.int p2), .val (.int p3), .val (.int p4), .val (.int p5), .val (.ref b1), .val (.ref b10), .val (.ref b73), .val (.int x8), .val (.int x9), .val (.int x10)] [(.int (1 : Int32)), (.ref b1)])) _
          refine st3.trans ?_
          show Steps p.tables e below (T3.setTop (mkF m 247 #[.val (.int p1), .val (.int p2), .val (.int p3), .val (.int p4), .val (.int p5), .val (.ref b1), .val (.ref b10), .val (.ref b73), .val (.int x8), .val (.int x9), .val (.int x10)] [(.int (lasF (1 : Int32) ll))])) _
          refine XS.aload X3.here hx rfl (hb hby at_247) rfl rfl ?_
          show Steps p.tables e below (T3.setTop (mkF m 249 #[.val (.int p1), .val (.int p2), .val (.int p3), .val (.int p4), .val (.int p5), .val (.ref b1), .val (.ref b10), .val (.ref b73), .val (.int x8), .val (.int x9), .val (.int x10)] [(.ref b10), (.int (lasF (1 : Int32) ll))])) _
          refine XS.aload X3.here hx rfl (hb hby at_249) rfl rfl ?_
          show Steps p.tables e below (T3.setTop (mkF m 251 #[.val (.int p1), .val (.int p2), .val (.int p3), .val (.int p4), .val (.int p5), .val (.ref b1), .val (.ref b10), .val (.ref b73), .val (.int x8), .val (.int x9), .val (.int x10)] [(.ref b73), (.ref b10), (.int (lasF (1 : Int32) ll))])) _
          refine XS.iconst X3.here hx rfl (hb hby at_251) ?_
          show Steps p.tables e below (T3.setTop (mkF m 252 #[.val (.int p1), .val (.int p2), .val (.int p3), .val (.int p4), .val (.int p5), .val (.ref b1), .val (.ref b10), .val (.ref b73), .val (.int x8), .val (.int x9), .val (.int x10)] [(.int (1 : Int32)), (.ref b73), (.ref b10), (.int (lasF (1 : Int32) ll))])) _
          refine st4 _ ?_
          exact kt
        by_cases hc5 : (lasF (1 : Int32) ll) = (lrfF (1 : Int32) vl tl)
        · rw [if_pos hc5] at hf
          refine Go.step (T' := T4) (f' := (mkF m 258 #[.val (.int p1), .val (.int p2), .val (.int p3), .val (.int p4), .val (.int p5), .val (.ref b1), .val (.ref b10), .val (.ref b73), .val (.int x8), .val (.int x9), .val (.int x10)] [])) (fun t kt => ?_) ?_
          · show Steps p.tables e below (T4.setTop (mkF m 255 #[.val (.int p1), .val (.int p2), .val (.int p3), .val (.int p4), .val (.int p5), .val (.ref b1), .val (.ref b10), .val (.ref b73), .val (.int x8), .val (.int x9), .val (.int x10)] [(.int (lrfF (1 : Int32) vl tl)), (.int (lasF (1 : Int32) ll))])) _
            refine XS.icmpNo X4.here hx rfl (hb hby at_255) rfl (teq hc5).2 ?_
            exact kt
          refine Go.step (T' := T4) (f' := (mkF m 263 #[.val (.int p1), .val (.int p2), .val (.int p3), .val (.int p4), .val (.int p5), .val (.ref b1), .val (.ref b10), .val (.ref b73), .val (.int x8), .val (.int x9), .val (.int x10)] [(.int (1 : Int32))])) (fun t kt => ?_) ?_
          · show Steps p.tables e below (T4.setTop (mkF m 258 #[.val (.int p1), .val (.int p2), .val (.int p3), .val (.int p4), .val (.int p5), .val (.ref b1), .val (.ref b10), .val (.ref b73), .val (.int x8), .val (.int x9), .val (.int x10)] [])) _
            refine XS.iconst X4.here hx rfl (hb hby at_258) ?_
            show Steps p.tables e below (T4.setTop (mkF m 259 #[.val (.int p1), .val (.int p2), .val (.int p3), .val (.int p4), .val (.int p5), .val (.ref b1), .val (.ref b10), .val (.ref b73), .val (.int x8), .val (.int x9), .val (.int x10)] [(.int (1 : Int32))])) _
            refine XS.goto X4.here hx rfl (pc0 := 259) (pc' := 263) rfl (hb hby at_259) (by decide) (by decide) ?_
            exact kt
          exact S263 _ _ _ _ X4 (Nat.le_trans (Nat.add_le_add_right (Nat.add_le_add_right hcl 0) 0) (by decide)) (Nat.le_trans (Nat.add_le_add_right (Nat.add_le_add_right hsl 0) 0) (by decide)) h e4 N4 x8 x9 x10 (1 : Int32) b1 aw_8 af_8 al_8 ac_8 an_8 ap_8 b10 b73 wl fl ll cl nl pl vl tl K fc0 fc1 fc2 fc3 fc4 fc5 fc6 fc7 fc8 fc9 fc10 fc11 fc12 fc13 fc14 g_b1 g_aw_8 g_af_8 g_al_8 g_ac_8 g_an_8 g_ap_8 g_b10 g_b73 sz_b1 sz_aw_8 sz_af_8 sz_al_8 sz_ac_8 sz_an_8 sz_ap_8 sz_b10 sz_b73 ne_b1_aw_8 ne_b1_af_8 ne_b1_al_8 ne_b1_ac_8 ne_b1_an_8 ne_b1_ap_8 ne_aw_8_af_8 ne_aw_8_al_8 ne_aw_8_ac_8 ne_aw_8_an_8 ne_aw_8_ap_8 ne_af_8_al_8 ne_af_8_ac_8 ne_af_8_an_8 ne_af_8_ap_8 ne_al_8_ac_8 ne_al_8_an_8 ne_al_8_ap_8 ne_ac_8_an_8 ne_ac_8_ap_8 ne_an_8_ap_8 ne_b1_b10 ne_aw_8_b10 ne_af_8_b10 ne_al_8_b10 ne_ac_8_b10 ne_an_8_b10 ne_ap_8_b10 ne_b1_b73 ne_aw_8_b73 ne_af_8_b73 ne_al_8_b73 ne_ac_8_b73 ne_an_8_b73 ne_ap_8_b73 ne_b10_b73 hI hv ht hf
        · rw [if_neg hc5] at hf
          refine Go.step (T' := T4) (f' := (mkF m 262 #[.val (.int p1), .val (.int p2), .val (.int p3), .val (.int p4), .val (.int p5), .val (.ref b1), .val (.ref b10), .val (.ref b73), .val (.int x8), .val (.int x9), .val (.int x10)] [])) (fun t kt => ?_) ?_
          · show Steps p.tables e below (T4.setTop (mkF m 255 #[.val (.int p1), .val (.int p2), .val (.int p3), .val (.int p4), .val (.int p5), .val (.ref b1), .val (.ref b10), .val (.ref b73), .val (.int x8), .val (.int x9), .val (.int x10)] [(.int (lrfF (1 : Int32) vl tl)), (.int (lasF (1 : Int32) ll))])) _
            refine XS.icmpYes X4.here hx rfl (pc0 := 255) (pc' := 262) rfl (hb hby at_255) rfl (feq hc5).2 (by decide) (by decide) ?_
            exact kt
          refine Go.step (T' := T4) (f' := (mkF m 263 #[.val (.int p1), .val (.int p2), .val (.int p3), .val (.int p4), .val (.int p5), .val (.ref b1), .val (.ref b10), .val (.ref b73), .val (.int x8), .val (.int x9), .val (.int x10)] [(.int (0 : Int32))])) (fun t kt => ?_) ?_
          · show Steps p.tables e below (T4.setTop (mkF m 262 #[.val (.int p1), .val (.int p2), .val (.int p3), .val (.int p4), .val (.int p5), .val (.ref b1), .val (.ref b10), .val (.ref b73), .val (.int x8), .val (.int x9), .val (.int x10)] [])) _
            refine XS.iconst X4.here hx rfl (hb hby at_262) ?_
            exact kt
          exact S263 _ _ _ _ X4 (Nat.le_trans (Nat.add_le_add_right (Nat.add_le_add_right hcl 0) 0) (by decide)) (Nat.le_trans (Nat.add_le_add_right (Nat.add_le_add_right hsl 0) 0) (by decide)) h e4 N4 x8 x9 x10 (0 : Int32) b1 aw_8 af_8 al_8 ac_8 an_8 ap_8 b10 b73 wl fl ll cl nl pl vl tl K fc0 fc1 fc2 fc3 fc4 fc5 fc6 fc7 fc8 fc9 fc10 fc11 fc12 fc13 fc14 g_b1 g_aw_8 g_af_8 g_al_8 g_ac_8 g_an_8 g_ap_8 g_b10 g_b73 sz_b1 sz_aw_8 sz_af_8 sz_al_8 sz_ac_8 sz_an_8 sz_ap_8 sz_b10 sz_b73 ne_b1_aw_8 ne_b1_af_8 ne_b1_al_8 ne_b1_ac_8 ne_b1_an_8 ne_b1_ap_8 ne_aw_8_af_8 ne_aw_8_al_8 ne_aw_8_ac_8 ne_aw_8_an_8 ne_aw_8_ap_8 ne_af_8_al_8 ne_af_8_ac_8 ne_af_8_an_8 ne_af_8_ap_8 ne_al_8_ac_8 ne_al_8_an_8 ne_al_8_ap_8 ne_ac_8_an_8 ne_ac_8_ap_8 ne_an_8_ap_8 ne_b1_b10 ne_aw_8_b10 ne_af_8_b10 ne_al_8_b10 ne_ac_8_b10 ne_an_8_b10 ne_ap_8_b10 ne_b1_b73 ne_aw_8_b73 ne_af_8_b73 ne_al_8_b73 ne_ac_8_b73 ne_an_8_b73 ne_ap_8_b73 ne_b10_b73 hI hv ht hf
    · rw [if_neg hc1] at hf
      refine Go.step (T' := T) (f' := (mkF m 265 #[.val (.int p1), .val (.int p2), .val (.int p3), .val (.int p4), .val (.int p5), .val (.ref b1), .val (.ref b10), .val (.ref b73), .val (.int x8), .val (.int x9), .val (.int x10)] [])) (fun t kt => ?_) ?_
      · show Steps p.tables e below (T.setTop (mkF m 233 #[.val (.int p1), .val (.int p2), .val (.int p3), .val (.int p4), .val (.int p5), .val (.ref b1), .val (.ref b10), .val (.ref b73), .val (.int x8), .val (.int x9), .val (.int x10)] [(.int x10)])) _
        refine XS.ifYes X.here hx rfl (pc0 := 233) (pc' := 265) rfl (hb hby at_233) rfl ((if0 _ _).trans (flt hc1).2.2.2) (by decide) (by decide) ?_
        exact kt
      exact S265 _ _ _ _ X (Nat.le_trans hcl (by decide)) (Nat.le_trans hsl (by decide)) h eT N x8 x9 x10 b1 aw_8 af_8 al_8 ac_8 an_8 ap_8 b10 b73 wl fl ll cl nl pl vl tl K fc0 fc1 fc2 fc3 fc4 fc5 fc6 fc7 fc8 fc9 fc10 fc11 fc12 fc13 fc14 g_b1 g_aw_8 g_af_8 g_al_8 g_ac_8 g_an_8 g_ap_8 g_b10 g_b73 sz_b1 sz_aw_8 sz_af_8 sz_al_8 sz_ac_8 sz_an_8 sz_ap_8 sz_b10 sz_b73 ne_b1_aw_8 ne_b1_af_8 ne_b1_al_8 ne_b1_ac_8 ne_b1_an_8 ne_b1_ap_8 ne_aw_8_af_8 ne_aw_8_al_8 ne_aw_8_ac_8 ne_aw_8_an_8 ne_aw_8_ap_8 ne_af_8_al_8 ne_af_8_ac_8 ne_af_8_an_8 ne_af_8_ap_8 ne_al_8_ac_8 ne_al_8_an_8 ne_al_8_ap_8 ne_ac_8_an_8 ne_ac_8_ap_8 ne_an_8_ap_8 ne_b1_b10 ne_aw_8_b10 ne_af_8_b10 ne_al_8_b10 ne_ac_8_b10 ne_an_8_b10 ne_ap_8_b10 ne_b1_b73 ne_aw_8_b73 ne_af_8_b73 ne_al_8_b73 ne_ac_8_b73 ne_an_8_b73 ne_ap_8_b73 ne_b10_b73 hI hv ht hf
  have S229 : ∀ (T : State) (locs : List Loc) (cells slots : Nat) (X : Stand p l e room_1 s m #[(.int p1), (.int p2), (.int p3), (.int p4), (.int p5)] below meth c T locs cells slots) (hcl : cells ≤ 9) (hsl : slots ≤ 27) (h : Heap) (eT : T.heap = h) (N : Fr n0 locs) (x8 : Int32) (x9 : Int32) (x10 : Int32) (t0 : Int32)  (b1 : Addr) (aw_8 : Addr) (af_8 : Addr) (al_8 : Addr) (ac_8 : Addr) (an_8 : Addr) (ap_8 : Addr) (b10 : Addr) (b73 : Addr) (wl : List Int32) (fl : List Int32) (ll : List Int32) (cl : List Int32) (nl : List Int32) (pl : List Int32) (vl : List Int32) (tl : List Int32) (K : Keep h0 h []) (fc0 : Exa Z h b1 "com/example/knotwise/knotwise/Placement") (fc1 : Fld Z h b1 "com/example/knotwise/knotwise/Placement" "wives" "[I" (.ref aw_8)) (fc2 : Fld Z h b1 "com/example/knotwise/knotwise/Placement" "first" "[I" (.ref af_8)) (fc3 : Fld Z h b1 "com/example/knotwise/knotwise/Placement" "last" "[I" (.ref al_8)) (fc4 : Fld Z h b1 "com/example/knotwise/knotwise/Placement" "count" "[I" (.ref ac_8)) (fc5 : Fld Z h b1 "com/example/knotwise/knotwise/Placement" "next" "[I" (.ref an_8)) (fc6 : Fld Z h b1 "com/example/knotwise/knotwise/Placement" "previous" "[I" (.ref ap_8)) (fc7 : VA Z h aw_8 .int (wl.map Value.int)) (fc8 : VA Z h af_8 .int (fl.map Value.int)) (fc9 : VA Z h al_8 .int (ll.map Value.int)) (fc10 : VA Z h ac_8 .int (cl.map Value.int)) (fc11 : VA Z h an_8 .int (nl.map Value.int)) (fc12 : VA Z h ap_8 .int (pl.map Value.int)) (fc13 : VA Z h b10 .int (vl.map Value.int)) (fc14 : VA Z h b73 .int (tl.map Value.int)) (g_b1 : n0 ≤ b1) (g_aw_8 : n0 ≤ aw_8) (g_af_8 : n0 ≤ af_8) (g_al_8 : n0 ≤ al_8) (g_ac_8 : n0 ≤ ac_8) (g_an_8 : n0 ≤ an_8) (g_ap_8 : n0 ≤ ap_8) (g_b10 : n0 ≤ b10) (g_b73 : n0 ≤ b73) (sz_b1 : h0.size ≤ b1) (sz_aw_8 : h0.size ≤ aw_8) (sz_af_8 : h0.size ≤ af_8) (sz_al_8 : h0.size ≤ al_8) (sz_ac_8 : h0.size ≤ ac_8) (sz_an_8 : h0.size ≤ an_8) (sz_ap_8 : h0.size ≤ ap_8) (sz_b10 : h0.size ≤ b10) (sz_b73 : h0.size ≤ b73) (ne_b1_aw_8 : b1 ≠ aw_8) (ne_b1_af_8 : b1 ≠ af_8) (ne_b1_al_8 : b1 ≠ al_8) (ne_b1_ac_8 : b1 ≠ ac_8) (ne_b1_an_8 : b1 ≠ an_8) (ne_b1_ap_8 : b1 ≠ ap_8) (ne_aw_8_af_8 : aw_8 ≠ af_8) (ne_aw_8_al_8 : aw_8 ≠ al_8) (ne_aw_8_ac_8 : aw_8 ≠ ac_8) (ne_aw_8_an_8 : aw_8 ≠ an_8) (ne_aw_8_ap_8 : aw_8 ≠ ap_8) (ne_af_8_al_8 : af_8 ≠ al_8) (ne_af_8_ac_8 : af_8 ≠ ac_8) (ne_af_8_an_8 : af_8 ≠ an_8) (ne_af_8_ap_8 : af_8 ≠ ap_8) (ne_al_8_ac_8 : al_8 ≠ ac_8) (ne_al_8_an_8 : al_8 ≠ an_8) (ne_al_8_ap_8 : al_8 ≠ ap_8) (ne_ac_8_an_8 : ac_8 ≠ an_8) (ne_ac_8_ap_8 : ac_8 ≠ ap_8) (ne_an_8_ap_8 : an_8 ≠ ap_8) (ne_b1_b10 : b1 ≠ b10) (ne_aw_8_b10 : aw_8 ≠ b10) (ne_af_8_b10 : af_8 ≠ b10) (ne_al_8_b10 : al_8 ≠ b10) (ne_ac_8_b10 : ac_8 ≠ b10) (ne_an_8_b10 : an_8 ≠ b10) (ne_ap_8_b10 : ap_8 ≠ b10) (ne_b1_b73 : b1 ≠ b73) (ne_aw_8_b73 : aw_8 ≠ b73) (ne_af_8_b73 : af_8 ≠ b73) (ne_al_8_b73 : al_8 ≠ b73) (ne_ac_8_b73 : ac_8 ≠ b73) (ne_an_8_b73 : an_8 ≠ b73) (ne_ap_8_b73 : ap_8 ≠ b73) (ne_b10_b73 : b10 ≠ b73) (hI : own_I wl fl ll cl nl pl) (hv : vl.length = 3) (ht : tl.length = 3) (hf : RES = lawF_229  x8 x9 x10 t0 wl fl ll cl nl pl vl tl), Go p e below s (Q0 Z p1 p2 p3 p4 p5 RES h0 n0) 32 128 T (mkF m 229 #[.val (.int p1), .val (.int p2), .val (.int p3), .val (.int p4), .val (.int p5), .val (.ref b1), .val (.ref b10), .val (.ref b73), .val (.int x8), .val (.int x9), .val (.int x10)] [(.int t0)]) := by
    intro T locs cells slots X hcl hsl h eT N x8 x9 x10 t0 b1 aw_8 af_8 al_8 ac_8 an_8 ap_8 b10 b73 wl fl ll cl nl pl vl tl K fc0 fc1 fc2 fc3 fc4 fc5 fc6 fc7 fc8 fc9 fc10 fc11 fc12 fc13 fc14 g_b1 g_aw_8 g_af_8 g_al_8 g_ac_8 g_an_8 g_ap_8 g_b10 g_b73 sz_b1 sz_aw_8 sz_af_8 sz_al_8 sz_ac_8 sz_an_8 sz_ap_8 sz_b10 sz_b73 ne_b1_aw_8 ne_b1_af_8 ne_b1_al_8 ne_b1_ac_8 ne_b1_an_8 ne_b1_ap_8 ne_aw_8_af_8 ne_aw_8_al_8 ne_aw_8_ac_8 ne_aw_8_an_8 ne_aw_8_ap_8 ne_af_8_al_8 ne_af_8_ac_8 ne_af_8_an_8 ne_af_8_ap_8 ne_al_8_ac_8 ne_al_8_an_8 ne_al_8_ap_8 ne_ac_8_an_8 ne_ac_8_ap_8 ne_an_8_ap_8 ne_b1_b10 ne_aw_8_b10 ne_af_8_b10 ne_al_8_b10 ne_ac_8_b10 ne_an_8_b10 ne_ap_8_b10 ne_b1_b73 ne_aw_8_b73 ne_af_8_b73 ne_al_8_b73 ne_ac_8_b73 ne_an_8_b73 ne_ap_8_b73 ne_b10_b73 hI hv ht hf
    have Zh : n0 ≤ h.size := Nat.le_trans Z0 K.1
    rw [lawF_229] at hf
    refine Go.step (T' := T) (f' := (mkF m 231 #[.val (.int p1), .val (.int p2), .val (.int p3), .val (.int p4), .val (.int p5), .val (.ref b1), .val (.ref b10), .val (.ref b73), .val (.int t0), .val (.int x9), .val (.int x10)] [])) (fun t kt => ?_) ?_
    · show Steps p.tables e below (T.setTop (mkF m 229 #[.val (.int p1), .val (.int p2), .val (.int p3), .val (.int p4), .val (.int p5), .val (.ref b1), .val (.ref b10), .val (.ref b73), .val (.int x8), .val (.int x9), .val (.int x10)] [(.int t0)])) _
      refine XS.istore X.here hx rfl (hb hby at_229) rfl (l' := #[.val (.int p1), .val (.int p2), .val (.int p3), .val (.int p4), .val (.int p5), .val (.ref b1), .val (.ref b10), .val (.ref b73), .val (.int t0), .val (.int x9), .val (.int x10)]) rfl ?_
      exact kt
    exact S231 _ _ _ _ X (Nat.le_trans hcl (by decide)) (Nat.le_trans hsl (by decide)) h eT N t0 x9 x10 b1 aw_8 af_8 al_8 ac_8 an_8 ap_8 b10 b73 wl fl ll cl nl pl vl tl K fc0 fc1 fc2 fc3 fc4 fc5 fc6 fc7 fc8 fc9 fc10 fc11 fc12 fc13 fc14 g_b1 g_aw_8 g_af_8 g_al_8 g_ac_8 g_an_8 g_ap_8 g_b10 g_b73 sz_b1 sz_aw_8 sz_af_8 sz_al_8 sz_ac_8 sz_an_8 sz_ap_8 sz_b10 sz_b73 ne_b1_aw_8 ne_b1_af_8 ne_b1_al_8 ne_b1_ac_8 ne_b1_an_8 ne_b1_ap_8 ne_aw_8_af_8 ne_aw_8_al_8 ne_aw_8_ac_8 ne_aw_8_an_8 ne_aw_8_ap_8 ne_af_8_al_8 ne_af_8_ac_8 ne_af_8_an_8 ne_af_8_ap_8 ne_al_8_ac_8 ne_al_8_an_8 ne_al_8_ap_8 ne_ac_8_an_8 ne_ac_8_ap_8 ne_an_8_ap_8 ne_b1_b10 ne_aw_8_b10 ne_af_8_b10 ne_al_8_b10 ne_ac_8_b10 ne_an_8_b10 ne_ap_8_b10 ne_b1_b73 ne_aw_8_b73 ne_af_8_b73 ne_al_8_b73 ne_ac_8_b73 ne_an_8_b73 ne_ap_8_b73 ne_b10_b73 hI hv ht hf
  have S195 : ∀ (T : State) (locs : List Loc) (cells slots : Nat) (X : Stand p l e room_1 s m #[(.int p1), (.int p2), (.int p3), (.int p4), (.int p5)] below meth c T locs cells slots) (hcl : cells ≤ 9) (hsl : slots ≤ 27) (h : Heap) (eT : T.heap = h) (N : Fr n0 locs) (x8 : Int32) (x9 : Int32) (x10 : Int32) (t0 : Int32)  (b1 : Addr) (aw_8 : Addr) (af_8 : Addr) (al_8 : Addr) (ac_8 : Addr) (an_8 : Addr) (ap_8 : Addr) (b10 : Addr) (b73 : Addr) (wl : List Int32) (fl : List Int32) (ll : List Int32) (cl : List Int32) (nl : List Int32) (pl : List Int32) (vl : List Int32) (tl : List Int32) (K : Keep h0 h []) (fc0 : Exa Z h b1 "com/example/knotwise/knotwise/Placement") (fc1 : Fld Z h b1 "com/example/knotwise/knotwise/Placement" "wives" "[I" (.ref aw_8)) (fc2 : Fld Z h b1 "com/example/knotwise/knotwise/Placement" "first" "[I" (.ref af_8)) (fc3 : Fld Z h b1 "com/example/knotwise/knotwise/Placement" "last" "[I" (.ref al_8)) (fc4 : Fld Z h b1 "com/example/knotwise/knotwise/Placement" "count" "[I" (.ref ac_8)) (fc5 : Fld Z h b1 "com/example/knotwise/knotwise/Placement" "next" "[I" (.ref an_8)) (fc6 : Fld Z h b1 "com/example/knotwise/knotwise/Placement" "previous" "[I" (.ref ap_8)) (fc7 : VA Z h aw_8 .int (wl.map Value.int)) (fc8 : VA Z h af_8 .int (fl.map Value.int)) (fc9 : VA Z h al_8 .int (ll.map Value.int)) (fc10 : VA Z h ac_8 .int (cl.map Value.int)) (fc11 : VA Z h an_8 .int (nl.map Value.int)) (fc12 : VA Z h ap_8 .int (pl.map Value.int)) (fc13 : VA Z h b10 .int (vl.map Value.int)) (fc14 : VA Z h b73 .int (tl.map Value.int)) (g_b1 : n0 ≤ b1) (g_aw_8 : n0 ≤ aw_8) (g_af_8 : n0 ≤ af_8) (g_al_8 : n0 ≤ al_8) (g_ac_8 : n0 ≤ ac_8) (g_an_8 : n0 ≤ an_8) (g_ap_8 : n0 ≤ ap_8) (g_b10 : n0 ≤ b10) (g_b73 : n0 ≤ b73) (sz_b1 : h0.size ≤ b1) (sz_aw_8 : h0.size ≤ aw_8) (sz_af_8 : h0.size ≤ af_8) (sz_al_8 : h0.size ≤ al_8) (sz_ac_8 : h0.size ≤ ac_8) (sz_an_8 : h0.size ≤ an_8) (sz_ap_8 : h0.size ≤ ap_8) (sz_b10 : h0.size ≤ b10) (sz_b73 : h0.size ≤ b73) (ne_b1_aw_8 : b1 ≠ aw_8) (ne_b1_af_8 : b1 ≠ af_8) (ne_b1_al_8 : b1 ≠ al_8) (ne_b1_ac_8 : b1 ≠ ac_8) (ne_b1_an_8 : b1 ≠ an_8) (ne_b1_ap_8 : b1 ≠ ap_8) (ne_aw_8_af_8 : aw_8 ≠ af_8) (ne_aw_8_al_8 : aw_8 ≠ al_8) (ne_aw_8_ac_8 : aw_8 ≠ ac_8) (ne_aw_8_an_8 : aw_8 ≠ an_8) (ne_aw_8_ap_8 : aw_8 ≠ ap_8) (ne_af_8_al_8 : af_8 ≠ al_8) (ne_af_8_ac_8 : af_8 ≠ ac_8) (ne_af_8_an_8 : af_8 ≠ an_8) (ne_af_8_ap_8 : af_8 ≠ ap_8) (ne_al_8_ac_8 : al_8 ≠ ac_8) (ne_al_8_an_8 : al_8 ≠ an_8) (ne_al_8_ap_8 : al_8 ≠ ap_8) (ne_ac_8_an_8 : ac_8 ≠ an_8) (ne_ac_8_ap_8 : ac_8 ≠ ap_8) (ne_an_8_ap_8 : an_8 ≠ ap_8) (ne_b1_b10 : b1 ≠ b10) (ne_aw_8_b10 : aw_8 ≠ b10) (ne_af_8_b10 : af_8 ≠ b10) (ne_al_8_b10 : al_8 ≠ b10) (ne_ac_8_b10 : ac_8 ≠ b10) (ne_an_8_b10 : an_8 ≠ b10) (ne_ap_8_b10 : ap_8 ≠ b10) (ne_b1_b73 : b1 ≠ b73) (ne_aw_8_b73 : aw_8 ≠ b73) (ne_af_8_b73 : af_8 ≠ b73) (ne_al_8_b73 : al_8 ≠ b73) (ne_ac_8_b73 : ac_8 ≠ b73) (ne_an_8_b73 : an_8 ≠ b73) (ne_ap_8_b73 : ap_8 ≠ b73) (ne_b10_b73 : b10 ≠ b73) (hI : own_I wl fl ll cl nl pl) (hv : vl.length = 3) (ht : tl.length = 3) (hf : RES = lawF_195  x8 x9 x10 t0 wl fl ll cl nl pl vl tl), Go p e below s (Q0 Z p1 p2 p3 p4 p5 RES h0 n0) 32 128 T (mkF m 195 #[.val (.int p1), .val (.int p2), .val (.int p3), .val (.int p4), .val (.int p5), .val (.ref b1), .val (.ref b10), .val (.ref b73), .val (.int x8), .val (.int x9), .val (.int x10)] [(.int t0)]) := by
    intro T locs cells slots X hcl hsl h eT N x8 x9 x10 t0 b1 aw_8 af_8 al_8 ac_8 an_8 ap_8 b10 b73 wl fl ll cl nl pl vl tl K fc0 fc1 fc2 fc3 fc4 fc5 fc6 fc7 fc8 fc9 fc10 fc11 fc12 fc13 fc14 g_b1 g_aw_8 g_af_8 g_al_8 g_ac_8 g_an_8 g_ap_8 g_b10 g_b73 sz_b1 sz_aw_8 sz_af_8 sz_al_8 sz_ac_8 sz_an_8 sz_ap_8 sz_b10 sz_b73 ne_b1_aw_8 ne_b1_af_8 ne_b1_al_8 ne_b1_ac_8 ne_b1_an_8 ne_b1_ap_8 ne_aw_8_af_8 ne_aw_8_al_8 ne_aw_8_ac_8 ne_aw_8_an_8 ne_aw_8_ap_8 ne_af_8_al_8 ne_af_8_ac_8 ne_af_8_an_8 ne_af_8_ap_8 ne_al_8_ac_8 ne_al_8_an_8 ne_al_8_ap_8 ne_ac_8_an_8 ne_ac_8_ap_8 ne_an_8_ap_8 ne_b1_b10 ne_aw_8_b10 ne_af_8_b10 ne_al_8_b10 ne_ac_8_b10 ne_an_8_b10 ne_ap_8_b10 ne_b1_b73 ne_aw_8_b73 ne_af_8_b73 ne_al_8_b73 ne_ac_8_b73 ne_an_8_b73 ne_ap_8_b73 ne_b10_b73 hI hv ht hf
    have Zh : n0 ≤ h.size := Nat.le_trans Z0 K.1
    rw [lawF_195] at hf
    refine Go.step (T' := T) (f' := (mkF m 199 #[.val (.int p1), .val (.int p2), .val (.int p3), .val (.int p4), .val (.int p5), .val (.ref b1), .val (.ref b10), .val (.ref b73), .val (.int t0), .val (.int x9), .val (.int x10)] [(.int x9)])) (fun t kt => ?_) ?_
    · show Steps p.tables e below (T.setTop (mkF m 195 #[.val (.int p1), .val (.int p2), .val (.int p3), .val (.int p4), .val (.int p5), .val (.ref b1), .val (.ref b10), .val (.ref b73), .val (.int x8), .val (.int x9), .val (.int x10)] [(.int t0)])) _
      refine XS.istore X.here hx rfl (hb hby at_195) rfl (l' := #[.val (.int p1), .val (.int p2), .val (.int p3), .val (.int p4), .val (.int p5), .val (.ref b1), .val (.ref b10), .val (.ref b73), .val (.int t0), .val (.int x9), .val (.int x10)]) rfl ?_
      show Steps p.tables e below (T.setTop (mkF m 197 #[.val (.int p1), .val (.int p2), .val (.int p3), .val (.int p4), .val (.int p5), .val (.ref b1), .val (.ref b10), .val (.ref b73), .val (.int t0), .val (.int x9), .val (.int x10)] [])) _
      refine XS.iload X.here hx rfl (hb hby at_197) rfl ?_
      exact kt
    by_cases hc6 : (0 : Int32) < x9
    · rw [if_pos hc6] at hf
      refine Go.step (T' := T) (f' := (mkF m 202 #[.val (.int p1), .val (.int p2), .val (.int p3), .val (.int p4), .val (.int p5), .val (.ref b1), .val (.ref b10), .val (.ref b73), .val (.int t0), .val (.int x9), .val (.int x10)] [])) (fun t kt => ?_) ?_
      · show Steps p.tables e below (T.setTop (mkF m 199 #[.val (.int p1), .val (.int p2), .val (.int p3), .val (.int p4), .val (.int p5), .val (.ref b1), .val (.ref b10), .val (.ref b73), .val (.int t0), .val (.int x9), .val (.int x10)] [(.int x9)])) _
        refine XS.ifNo X.here hx rfl (hb hby at_199) rfl ((if0 _ _).trans (tlt hc6).2.2.2) ?_
        exact kt
      refine Go.step (T' := T) (f' := (mkF m 204 #[.val (.int p1), .val (.int p2), .val (.int p3), .val (.int p4), .val (.int p5), .val (.ref b1), .val (.ref b10), .val (.ref b73), .val (.int t0), .val (.int x9), .val (.int x10)] [(.int t0)])) (fun t kt => ?_) ?_
      · show Steps p.tables e below (T.setTop (mkF m 202 #[.val (.int p1), .val (.int p2), .val (.int p3), .val (.int p4), .val (.int p5), .val (.ref b1), .val (.ref b10), .val (.ref b73), .val (.int t0), .val (.int x9), .val (.int x10)] [])) _
        refine XS.iload X.here hx rfl (hb hby at_202) rfl ?_
        exact kt
      by_cases hc7 : t0 = (0 : Int32)
      · rw [if_pos hc7] at hf
        refine Go.step (T' := T) (f' := (mkF m 228 #[.val (.int p1), .val (.int p2), .val (.int p3), .val (.int p4), .val (.int p5), .val (.ref b1), .val (.ref b10), .val (.ref b73), .val (.int t0), .val (.int x9), .val (.int x10)] [])) (fun t kt => ?_) ?_
        · show Steps p.tables e below (T.setTop (mkF m 204 #[.val (.int p1), .val (.int p2), .val (.int p3), .val (.int p4), .val (.int p5), .val (.ref b1), .val (.ref b10), .val (.ref b73), .val (.int t0), .val (.int x9), .val (.int x10)] [(.int t0)])) _
          refine XS.ifYes X.here hx rfl (pc0 := 204) (pc' := 228) rfl (hb hby at_204) rfl ((if0 _ _).trans (teq hc7).1) (by decide) (by decide) ?_
          exact kt
        refine Go.step (T' := T) (f' := (mkF m 229 #[.val (.int p1), .val (.int p2), .val (.int p3), .val (.int p4), .val (.int p5), .val (.ref b1), .val (.ref b10), .val (.ref b73), .val (.int t0), .val (.int x9), .val (.int x10)] [(.int (0 : Int32))])) (fun t kt => ?_) ?_
        · show Steps p.tables e below (T.setTop (mkF m 228 #[.val (.int p1), .val (.int p2), .val (.int p3), .val (.int p4), .val (.int p5), .val (.ref b1), .val (.ref b10), .val (.ref b73), .val (.int t0), .val (.int x9), .val (.int x10)] [])) _
          refine XS.iconst X.here hx rfl (hb hby at_228) ?_
          exact kt
        exact S229 _ _ _ _ X (Nat.le_trans hcl (by decide)) (Nat.le_trans hsl (by decide)) h eT N t0 x9 x10 (0 : Int32) b1 aw_8 af_8 al_8 ac_8 an_8 ap_8 b10 b73 wl fl ll cl nl pl vl tl K fc0 fc1 fc2 fc3 fc4 fc5 fc6 fc7 fc8 fc9 fc10 fc11 fc12 fc13 fc14 g_b1 g_aw_8 g_af_8 g_al_8 g_ac_8 g_an_8 g_ap_8 g_b10 g_b73 sz_b1 sz_aw_8 sz_af_8 sz_al_8 sz_ac_8 sz_an_8 sz_ap_8 sz_b10 sz_b73 ne_b1_aw_8 ne_b1_af_8 ne_b1_al_8 ne_b1_ac_8 ne_b1_an_8 ne_b1_ap_8 ne_aw_8_af_8 ne_aw_8_al_8 ne_aw_8_ac_8 ne_aw_8_an_8 ne_aw_8_ap_8 ne_af_8_al_8 ne_af_8_ac_8 ne_af_8_an_8 ne_af_8_ap_8 ne_al_8_ac_8 ne_al_8_an_8 ne_al_8_ap_8 ne_ac_8_an_8 ne_ac_8_ap_8 ne_an_8_ap_8 ne_b1_b10 ne_aw_8_b10 ne_af_8_b10 ne_al_8_b10 ne_ac_8_b10 ne_an_8_b10 ne_ap_8_b10 ne_b1_b73 ne_aw_8_b73 ne_af_8_b73 ne_al_8_b73 ne_ac_8_b73 ne_an_8_b73 ne_ap_8_b73 ne_b10_b73 hI hv ht hf
      · rw [if_neg hc7] at hf
        refine Go.step (T' := T) (f' := (mkF m 207 #[.val (.int p1), .val (.int p2), .val (.int p3), .val (.int p4), .val (.int p5), .val (.ref b1), .val (.ref b10), .val (.ref b73), .val (.int t0), .val (.int x9), .val (.int x10)] [])) (fun t kt => ?_) ?_
        · show Steps p.tables e below (T.setTop (mkF m 204 #[.val (.int p1), .val (.int p2), .val (.int p3), .val (.int p4), .val (.int p5), .val (.ref b1), .val (.ref b10), .val (.ref b73), .val (.int t0), .val (.int x9), .val (.int x10)] [(.int t0)])) _
          refine XS.ifNo X.here hx rfl (hb hby at_204) rfl ((if0 _ _).trans (feq hc7).1) ?_
          exact kt
        obtain ⟨cq8, kq8, q8a, q8b, q8c⟩ := isOf hZ eT (fc0 : Exa Z h b1 "com/example/knotwise/knotwise/Placement")
        obtain ⟨_, _, ⟨T8, L8, k8, n8⟩, -, X8, ⟨Lc8, hQ8, l8, y8, z8⟩, st8⟩ := X.virtualBack hx (y := (⟨"com/example/knotwise/knotwise/Placement", "last", "(I)I"⟩ : MethodName)) (z := (⟨"com/example/knotwise/knotwise/Placement", "last", "(I)I"⟩ : MethodName)) hown (mvT hZ (hw _ (List.mem_of_getElem? (i := 54) rfl))) (mvT hZ (hw _ (List.mem_of_getElem? (i := 55) rfl))) (notFace_of_selects (args := #[]) (mvT hZ (hw _ (List.mem_of_getElem? (i := 57) rfl)))) (mvT hZ (hw _ (List.mem_of_getElem? (i := 57) rfl))) (mvT hZ (hw _ (List.mem_of_getElem? (i := 56) rfl))) (by decide) (backOf (W := 0) (rm_lasF l Z a0 hw [] b1 (0 : Int32) al_8 ll h n0 Zh fc3 fc9 (by decide) hI.2.2.1) hZ (hw _ (List.mem_of_getElem? (i := 58) rfl)) (hw _ (List.mem_of_getElem? (i := 2) rfl)) (by decide) (by decide)) q8a q8c (g := (mkF m 210 #[.val (.int p1), .val (.int p2), .val (.int p3), .val (.int p4), .val (.int p5), .val (.ref b1), .val (.ref b10), .val (.ref b73), .val (.int t0), .val (.int x9), .val (.int x10)] [(.int (0 : Int32)), (.ref b1)])) rfl (by rw [hml]; rfl) (Steps.refl _) (argsL := [(.int (0 : Int32))]) (rest := []) (lenOf pd_4 rfl) rfl (by show 2 * 0 + _ ≤ _; exact Nat.le_of_eq rfl) (hb hby at_210) (fun _ _ => ⟨rfl, eT, (Nat.le_trans (Nat.add_le_add_right hcl 0) (by decide)), (Nat.le_trans (Nat.add_le_add_right hsl 0) (by decide))⟩)
        dsimp only [Pt.U, Pt.locs, Pt.cells, Pt.slots] at X8 l8 y8 z8 st8 hQ8
        subst l8 y8 z8
        obtain ⟨rfl, N8q, e8⟩ := hQ8
        have N8 := Fr.app N N8q
        obtain ⟨_, _, ⟨T9, L9, k9, n9⟩, -, X9, ⟨Lc9, hQ9, l9, y9, z9⟩, st9⟩ := Jvm.LawKit.callS X8 hx (y := (⟨"com/example/knotwise/knotwise/PlacementPlacePinLaw", "lastRef", "([I[II)I"⟩ : MethodName)) hown (mvT hZ (hw _ (List.mem_of_getElem? (i := 59) rfl))) (mvT hZ (hw _ (List.mem_of_getElem? (i := 60) rfl))) (mvT hZ (hw _ (List.mem_of_getElem? (i := 28) rfl))) (mvT hZ (hw _ (List.mem_of_getElem? (i := 61) rfl))) (by decide) (backOf (W := 1) (rm_lrfF l Z a0 hw [] b10 b73 (0 : Int32) vl tl h n0 Zh fc13 fc14 hv ht) hZ (hw _ (List.mem_of_getElem? (i := 61) rfl)) (hw _ (List.mem_of_getElem? (i := 28) rfl)) (by decide) (by decide)) (g := (mkF m 218 #[.val (.int p1), .val (.int p2), .val (.int p3), .val (.int p4), .val (.int p5), .val (.ref b1), .val (.ref b10), .val (.ref b73), .val (.int t0), .val (.int x9), .val (.int x10)] [(.int (0 : Int32)), (.ref b73), (.ref b10), (.int (lasF (0 : Int32) ll))])) rfl (by rw [hml]; rfl) (argsL := [(.ref b10), (.ref b73), (.int (0 : Int32))]) (rest := [(.int (lasF (0 : Int32) ll))]) (lenOf pd_6 rfl) rfl (by show 2 * 0 + _ ≤ _; exact Nat.le_of_eq rfl) (hb hby at_218) (fun _ _ => ⟨rfl, e8, (Nat.le_trans (Nat.add_le_add_right (Nat.add_le_add_right hcl 0) 0) (by decide)), (Nat.le_trans (Nat.add_le_add_right (Nat.add_le_add_right hsl 0) 0) (by decide))⟩)
        dsimp only [Pt.U, Pt.locs, Pt.cells, Pt.slots] at X9 l9 y9 z9 st9 hQ9
        subst l9 y9 z9
        obtain ⟨rfl, N9q, e9⟩ := hQ9
        have N9 := Fr.app N8 N9q
        refine Go.step (T' := T9) (f' := (mkF m 221 #[.val (.int p1), .val (.int p2), .val (.int p3), .val (.int p4), .val (.int p5), .val (.ref b1), .val (.ref b10), .val (.ref b73), .val (.int t0), .val (.int x9), .val (.int x10)] [(.int (lrfF (0 : Int32) vl tl)), (.int (lasF (0 : Int32) ll))])) (fun t kt => ?_) ?_
        · show Steps p.tables e below (T.setTop (mkF m 207 #[.val (.int p1), .val (.int p2), .val (.int p3), .val (.int p4), .val (.int p5), .val (.ref b1), .val (.ref b10), .val (.ref b73), .val (.int t0), .val (.int x9), .val (.int x10)] [])) _
          refine XS.aload X.here hx rfl (hb hby at_207) rfl rfl ?_
          show Steps p.tables e below (T.setTop (mkF m 209 #[.val (.int p1), .val (.int p2), .val (.int p3), .val (.int p4), .val (.int p5), .val (.ref b1), .val (.ref b10), .val (.ref b73), .val (.int t0), .val (.int x9), .val (.int x10)] [(.ref b1)])) _
          refine XS.iconst X.here hx rfl (hb hby at_209) ?_
          show Steps p.tables e below (T.setTop (mkF m 210 #[.val (.int p1), .val (.int p2), .val (.int p3), .val (.int p4), .val (.int p5), .val (.ref b1), .val (.ref b10), .val (.ref b73), .val (.int t0), .val (.int x9), .val (.int x10)] [(.int (0 : Int32)), (.ref b1)])) _
          refine st8.trans ?_
          show Steps p.tables e below (T8.setTop (mkF m 213 #[.val (.int p1), .val (.int p2), .val (.int p3), .val (.int p4), .val (.int p5), .val (.ref b1), .val (.ref b10), .val (.ref b73), .val (.int t0), .val (.int x9), .val (.int x10)] [(.int (lasF (0 : Int32) ll))])) _
          refine XS.aload X8.here hx rfl (hb hby at_213) rfl rfl ?_
          show Steps p.tables e below (T8.setTop (mkF m 215 #[.val (.int p1), .val (.int p2), .val (.int p3), .val (.int p4), .val (.int p5), .val (.ref b1), .val (.ref b10), .val (.ref b73), .val (.int t0), .val (.int x9), .val (.int x10)] [(.ref b10), (.int (lasF (0 : Int32) ll))])) _
          refine XS.aload X8.here hx rfl (hb hby at_215) rfl rfl ?_
          show Steps p.tables e below (T8.setTop (mkF m 217 #[.val (.int p1), .val (.int p2), .val (.int p3), .val (.int p4), .val (.int p5), .val (.ref b1), .val (.ref b10), .val (.ref b73), .val (.int t0), .val (.int x9), .val (.int x10)] [(.ref b73), (.ref b10), (.int (lasF (0 : Int32) ll))])) _
          refine XS.iconst X8.here hx rfl (hb hby at_217) ?_
          show Steps p.tables e below (T8.setTop (mkF m 218 #[.val (.int p1), .val (.int p2), .val (.int p3), .val (.int p4), .val (.int p5), .val (.ref b1), .val (.ref b10), .val (.ref b73), .val (.int t0), .val (.int x9), .val (.int x10)] [(.int (0 : Int32)), (.ref b73), (.ref b10), (.int (lasF (0 : Int32) ll))])) _
          refine st9 _ ?_
          exact kt
        by_cases hc10 : (lasF (0 : Int32) ll) = (lrfF (0 : Int32) vl tl)
        · rw [if_pos hc10] at hf
          refine Go.step (T' := T9) (f' := (mkF m 224 #[.val (.int p1), .val (.int p2), .val (.int p3), .val (.int p4), .val (.int p5), .val (.ref b1), .val (.ref b10), .val (.ref b73), .val (.int t0), .val (.int x9), .val (.int x10)] [])) (fun t kt => ?_) ?_
          · show Steps p.tables e below (T9.setTop (mkF m 221 #[.val (.int p1), .val (.int p2), .val (.int p3), .val (.int p4), .val (.int p5), .val (.ref b1), .val (.ref b10), .val (.ref b73), .val (.int t0), .val (.int x9), .val (.int x10)] [(.int (lrfF (0 : Int32) vl tl)), (.int (lasF (0 : Int32) ll))])) _
            refine XS.icmpNo X9.here hx rfl (hb hby at_221) rfl (teq hc10).2 ?_
            exact kt
          refine Go.step (T' := T9) (f' := (mkF m 229 #[.val (.int p1), .val (.int p2), .val (.int p3), .val (.int p4), .val (.int p5), .val (.ref b1), .val (.ref b10), .val (.ref b73), .val (.int t0), .val (.int x9), .val (.int x10)] [(.int (1 : Int32))])) (fun t kt => ?_) ?_
          · show Steps p.tables e below (T9.setTop (mkF m 224 #[.val (.int p1), .val (.int p2), .val (.int p3), .val (.int p4), .val (.int p5), .val (.ref b1), .val (.ref b10), .val (.ref b73), .val (.int t0), .val (.int x9), .val (.int x10)] [])) _
            refine XS.iconst X9.here hx rfl (hb hby at_224) ?_
            show Steps p.tables e below (T9.setTop (mkF m 225 #[.val (.int p1), .val (.int p2), .val (.int p3), .val (.int p4), .val (.int p5), .val (.ref b1), .val (.ref b10), .val (.ref b73), .val (.int t0), .val (.int x9), .val (.int x10)] [(.int (1 : Int32))])) _
            refine XS.goto X9.here hx rfl (pc0 := 225) (pc' := 229) rfl (hb hby at_225) (by decide) (by decide) ?_
            exact kt
          exact S229 _ _ _ _ X9 (Nat.le_trans (Nat.add_le_add_right (Nat.add_le_add_right hcl 0) 0) (by decide)) (Nat.le_trans (Nat.add_le_add_right (Nat.add_le_add_right hsl 0) 0) (by decide)) h e9 N9 t0 x9 x10 (1 : Int32) b1 aw_8 af_8 al_8 ac_8 an_8 ap_8 b10 b73 wl fl ll cl nl pl vl tl K fc0 fc1 fc2 fc3 fc4 fc5 fc6 fc7 fc8 fc9 fc10 fc11 fc12 fc13 fc14 g_b1 g_aw_8 g_af_8 g_al_8 g_ac_8 g_an_8 g_ap_8 g_b10 g_b73 sz_b1 sz_aw_8 sz_af_8 sz_al_8 sz_ac_8 sz_an_8 sz_ap_8 sz_b10 sz_b73 ne_b1_aw_8 ne_b1_af_8 ne_b1_al_8 ne_b1_ac_8 ne_b1_an_8 ne_b1_ap_8 ne_aw_8_af_8 ne_aw_8_al_8 ne_aw_8_ac_8 ne_aw_8_an_8 ne_aw_8_ap_8 ne_af_8_al_8 ne_af_8_ac_8 ne_af_8_an_8 ne_af_8_ap_8 ne_al_8_ac_8 ne_al_8_an_8 ne_al_8_ap_8 ne_ac_8_an_8 ne_ac_8_ap_8 ne_an_8_ap_8 ne_b1_b10 ne_aw_8_b10 ne_af_8_b10 ne_al_8_b10 ne_ac_8_b10 ne_an_8_b10 ne_ap_8_b10 ne_b1_b73 ne_aw_8_b73 ne_af_8_b73 ne_al_8_b73 ne_ac_8_b73 ne_an_8_b73 ne_ap_8_b73 ne_b10_b73 hI hv ht hf
        · rw [if_neg hc10] at hf
          refine Go.step (T' := T9) (f' := (mkF m 228 #[.val (.int p1), .val (.int p2), .val (.int p3), .val (.int p4), .val (.int p5), .val (.ref b1), .val (.ref b10), .val (.ref b73), .val (.int t0), .val (.int x9), .val (.int x10)] [])) (fun t kt => ?_) ?_
          · show Steps p.tables e below (T9.setTop (mkF m 221 #[.val (.int p1), .val (.int p2), .val (.int p3), .val (.int p4), .val (.int p5), .val (.ref b1), .val (.ref b10), .val (.ref b73), .val (.int t0), .val (.int x9), .val (.int x10)] [(.int (lrfF (0 : Int32) vl tl)), (.int (lasF (0 : Int32) ll))])) _
            refine XS.icmpYes X9.here hx rfl (pc0 := 221) (pc' := 228) rfl (hb hby at_221) rfl (feq hc10).2 (by decide) (by decide) ?_
            exact kt
          refine Go.step (T' := T9) (f' := (mkF m 229 #[.val (.int p1), .val (.int p2), .val (.int p3), .val (.int p4), .val (.int p5), .val (.ref b1), .val (.ref b10), .val (.ref b73), .val (.int t0), .val (.int x9), .val (.int x10)] [(.int (0 : Int32))])) (fun t kt => ?_) ?_
          · show Steps p.tables e below (T9.setTop (mkF m 228 #[.val (.int p1), .val (.int p2), .val (.int p3), .val (.int p4), .val (.int p5), .val (.ref b1), .val (.ref b10), .val (.ref b73), .val (.int t0), .val (.int x9), .val (.int x10)] [])) _
            refine XS.iconst X9.here hx rfl (hb hby at_228) ?_
            exact kt
          exact S229 _ _ _ _ X9 (Nat.le_trans (Nat.add_le_add_right (Nat.add_le_add_right hcl 0) 0) (by decide)) (Nat.le_trans (Nat.add_le_add_right (Nat.add_le_add_right hsl 0) 0) (by decide)) h e9 N9 t0 x9 x10 (0 : Int32) b1 aw_8 af_8 al_8 ac_8 an_8 ap_8 b10 b73 wl fl ll cl nl pl vl tl K fc0 fc1 fc2 fc3 fc4 fc5 fc6 fc7 fc8 fc9 fc10 fc11 fc12 fc13 fc14 g_b1 g_aw_8 g_af_8 g_al_8 g_ac_8 g_an_8 g_ap_8 g_b10 g_b73 sz_b1 sz_aw_8 sz_af_8 sz_al_8 sz_ac_8 sz_an_8 sz_ap_8 sz_b10 sz_b73 ne_b1_aw_8 ne_b1_af_8 ne_b1_al_8 ne_b1_ac_8 ne_b1_an_8 ne_b1_ap_8 ne_aw_8_af_8 ne_aw_8_al_8 ne_aw_8_ac_8 ne_aw_8_an_8 ne_aw_8_ap_8 ne_af_8_al_8 ne_af_8_ac_8 ne_af_8_an_8 ne_af_8_ap_8 ne_al_8_ac_8 ne_al_8_an_8 ne_al_8_ap_8 ne_ac_8_an_8 ne_ac_8_ap_8 ne_an_8_ap_8 ne_b1_b10 ne_aw_8_b10 ne_af_8_b10 ne_al_8_b10 ne_ac_8_b10 ne_an_8_b10 ne_ap_8_b10 ne_b1_b73 ne_aw_8_b73 ne_af_8_b73 ne_al_8_b73 ne_ac_8_b73 ne_an_8_b73 ne_ap_8_b73 ne_b10_b73 hI hv ht hf
    · rw [if_neg hc6] at hf
      refine Go.step (T' := T) (f' := (mkF m 231 #[.val (.int p1), .val (.int p2), .val (.int p3), .val (.int p4), .val (.int p5), .val (.ref b1), .val (.ref b10), .val (.ref b73), .val (.int t0), .val (.int x9), .val (.int x10)] [])) (fun t kt => ?_) ?_
      · show Steps p.tables e below (T.setTop (mkF m 199 #[.val (.int p1), .val (.int p2), .val (.int p3), .val (.int p4), .val (.int p5), .val (.ref b1), .val (.ref b10), .val (.ref b73), .val (.int t0), .val (.int x9), .val (.int x10)] [(.int x9)])) _
        refine XS.ifYes X.here hx rfl (pc0 := 199) (pc' := 231) rfl (hb hby at_199) rfl ((if0 _ _).trans (flt hc6).2.2.2) (by decide) (by decide) ?_
        exact kt
      exact S231 _ _ _ _ X (Nat.le_trans hcl (by decide)) (Nat.le_trans hsl (by decide)) h eT N t0 x9 x10 b1 aw_8 af_8 al_8 ac_8 an_8 ap_8 b10 b73 wl fl ll cl nl pl vl tl K fc0 fc1 fc2 fc3 fc4 fc5 fc6 fc7 fc8 fc9 fc10 fc11 fc12 fc13 fc14 g_b1 g_aw_8 g_af_8 g_al_8 g_ac_8 g_an_8 g_ap_8 g_b10 g_b73 sz_b1 sz_aw_8 sz_af_8 sz_al_8 sz_ac_8 sz_an_8 sz_ap_8 sz_b10 sz_b73 ne_b1_aw_8 ne_b1_af_8 ne_b1_al_8 ne_b1_ac_8 ne_b1_an_8 ne_b1_ap_8 ne_aw_8_af_8 ne_aw_8_al_8 ne_aw_8_ac_8 ne_aw_8_an_8 ne_aw_8_ap_8 ne_af_8_al_8 ne_af_8_ac_8 ne_af_8_an_8 ne_af_8_ap_8 ne_al_8_ac_8 ne_al_8_an_8 ne_al_8_ap_8 ne_ac_8_an_8 ne_ac_8_ap_8 ne_an_8_ap_8 ne_b1_b10 ne_aw_8_b10 ne_af_8_b10 ne_al_8_b10 ne_ac_8_b10 ne_an_8_b10 ne_ap_8_b10 ne_b1_b73 ne_aw_8_b73 ne_af_8_b73 ne_al_8_b73 ne_ac_8_b73 ne_an_8_b73 ne_ap_8_b73 ne_b10_b73 hI hv ht hf
  have S145 : ∀ (T : State) (locs : List Loc) (cells slots : Nat) (X : Stand p l e room_1 s m #[(.int p1), (.int p2), (.int p3), (.int p4), (.int p5)] below meth c T locs cells slots) (hcl : cells ≤ 9) (hsl : slots ≤ 27) (h : Heap) (eT : T.heap = h) (N : Fr n0 locs) (t0 : Int32)  (b1 : Addr) (aw_8 : Addr) (af_8 : Addr) (al_8 : Addr) (ac_8 : Addr) (an_8 : Addr) (ap_8 : Addr) (b10 : Addr) (b73 : Addr) (wl : List Int32) (fl : List Int32) (ll : List Int32) (cl : List Int32) (nl : List Int32) (pl : List Int32) (vl : List Int32) (tl : List Int32) (K : Keep h0 h []) (fc0 : Exa Z h b1 "com/example/knotwise/knotwise/Placement") (fc1 : Fld Z h b1 "com/example/knotwise/knotwise/Placement" "wives" "[I" (.ref aw_8)) (fc2 : Fld Z h b1 "com/example/knotwise/knotwise/Placement" "first" "[I" (.ref af_8)) (fc3 : Fld Z h b1 "com/example/knotwise/knotwise/Placement" "last" "[I" (.ref al_8)) (fc4 : Fld Z h b1 "com/example/knotwise/knotwise/Placement" "count" "[I" (.ref ac_8)) (fc5 : Fld Z h b1 "com/example/knotwise/knotwise/Placement" "next" "[I" (.ref an_8)) (fc6 : Fld Z h b1 "com/example/knotwise/knotwise/Placement" "previous" "[I" (.ref ap_8)) (fc7 : VA Z h aw_8 .int (wl.map Value.int)) (fc8 : VA Z h af_8 .int (fl.map Value.int)) (fc9 : VA Z h al_8 .int (ll.map Value.int)) (fc10 : VA Z h ac_8 .int (cl.map Value.int)) (fc11 : VA Z h an_8 .int (nl.map Value.int)) (fc12 : VA Z h ap_8 .int (pl.map Value.int)) (fc13 : VA Z h b10 .int (vl.map Value.int)) (fc14 : VA Z h b73 .int (tl.map Value.int)) (g_b1 : n0 ≤ b1) (g_aw_8 : n0 ≤ aw_8) (g_af_8 : n0 ≤ af_8) (g_al_8 : n0 ≤ al_8) (g_ac_8 : n0 ≤ ac_8) (g_an_8 : n0 ≤ an_8) (g_ap_8 : n0 ≤ ap_8) (g_b10 : n0 ≤ b10) (g_b73 : n0 ≤ b73) (sz_b1 : h0.size ≤ b1) (sz_aw_8 : h0.size ≤ aw_8) (sz_af_8 : h0.size ≤ af_8) (sz_al_8 : h0.size ≤ al_8) (sz_ac_8 : h0.size ≤ ac_8) (sz_an_8 : h0.size ≤ an_8) (sz_ap_8 : h0.size ≤ ap_8) (sz_b10 : h0.size ≤ b10) (sz_b73 : h0.size ≤ b73) (ne_b1_aw_8 : b1 ≠ aw_8) (ne_b1_af_8 : b1 ≠ af_8) (ne_b1_al_8 : b1 ≠ al_8) (ne_b1_ac_8 : b1 ≠ ac_8) (ne_b1_an_8 : b1 ≠ an_8) (ne_b1_ap_8 : b1 ≠ ap_8) (ne_aw_8_af_8 : aw_8 ≠ af_8) (ne_aw_8_al_8 : aw_8 ≠ al_8) (ne_aw_8_ac_8 : aw_8 ≠ ac_8) (ne_aw_8_an_8 : aw_8 ≠ an_8) (ne_aw_8_ap_8 : aw_8 ≠ ap_8) (ne_af_8_al_8 : af_8 ≠ al_8) (ne_af_8_ac_8 : af_8 ≠ ac_8) (ne_af_8_an_8 : af_8 ≠ an_8) (ne_af_8_ap_8 : af_8 ≠ ap_8) (ne_al_8_ac_8 : al_8 ≠ ac_8) (ne_al_8_an_8 : al_8 ≠ an_8) (ne_al_8_ap_8 : al_8 ≠ ap_8) (ne_ac_8_an_8 : ac_8 ≠ an_8) (ne_ac_8_ap_8 : ac_8 ≠ ap_8) (ne_an_8_ap_8 : an_8 ≠ ap_8) (ne_b1_b10 : b1 ≠ b10) (ne_aw_8_b10 : aw_8 ≠ b10) (ne_af_8_b10 : af_8 ≠ b10) (ne_al_8_b10 : al_8 ≠ b10) (ne_ac_8_b10 : ac_8 ≠ b10) (ne_an_8_b10 : an_8 ≠ b10) (ne_ap_8_b10 : ap_8 ≠ b10) (ne_b1_b73 : b1 ≠ b73) (ne_aw_8_b73 : aw_8 ≠ b73) (ne_af_8_b73 : af_8 ≠ b73) (ne_al_8_b73 : al_8 ≠ b73) (ne_ac_8_b73 : ac_8 ≠ b73) (ne_an_8_b73 : an_8 ≠ b73) (ne_ap_8_b73 : ap_8 ≠ b73) (ne_b10_b73 : b10 ≠ b73) (hI : own_I wl fl ll cl nl pl) (hv : vl.length = 3) (ht : tl.length = 3) (hf : RES = lawF_145  t0 wl fl ll cl nl pl vl tl), Go p e below s (Q0 Z p1 p2 p3 p4 p5 RES h0 n0) 32 128 T (mkF m 145 #[.val (.int p1), .val (.int p2), .val (.int p3), .val (.int p4), .val (.int p5), .val (.ref b1), .val (.ref b10), .val (.ref b73), .unset, .unset, .unset] [(.int t0)]) := by
    intro T locs cells slots X hcl hsl h eT N t0 b1 aw_8 af_8 al_8 ac_8 an_8 ap_8 b10 b73 wl fl ll cl nl pl vl tl K fc0 fc1 fc2 fc3 fc4 fc5 fc6 fc7 fc8 fc9 fc10 fc11 fc12 fc13 fc14 g_b1 g_aw_8 g_af_8 g_al_8 g_ac_8 g_an_8 g_ap_8 g_b10 g_b73 sz_b1 sz_aw_8 sz_af_8 sz_al_8 sz_ac_8 sz_an_8 sz_ap_8 sz_b10 sz_b73 ne_b1_aw_8 ne_b1_af_8 ne_b1_al_8 ne_b1_ac_8 ne_b1_an_8 ne_b1_ap_8 ne_aw_8_af_8 ne_aw_8_al_8 ne_aw_8_ac_8 ne_aw_8_an_8 ne_aw_8_ap_8 ne_af_8_al_8 ne_af_8_ac_8 ne_af_8_an_8 ne_af_8_ap_8 ne_al_8_ac_8 ne_al_8_an_8 ne_al_8_ap_8 ne_ac_8_an_8 ne_ac_8_ap_8 ne_an_8_ap_8 ne_b1_b10 ne_aw_8_b10 ne_af_8_b10 ne_al_8_b10 ne_ac_8_b10 ne_an_8_b10 ne_ap_8_b10 ne_b1_b73 ne_aw_8_b73 ne_af_8_b73 ne_al_8_b73 ne_ac_8_b73 ne_an_8_b73 ne_ap_8_b73 ne_b10_b73 hI hv ht hf
    have Zh : n0 ≤ h.size := Nat.le_trans Z0 K.1
    rw [lawF_145] at hf
    obtain ⟨_, _, ⟨T11, L11, k11, n11⟩, -, X11, ⟨Lc11, hQ11, l11, y11, z11⟩, st11⟩ := Jvm.LawKit.callS X hx (y := (⟨"com/example/knotwise/knotwise/PlacementPlacePinLaw", "countRef", "([II)I"⟩ : MethodName)) hown (mvT hZ (hw _ (List.mem_of_getElem? (i := 46) rfl))) (mvT hZ (hw _ (List.mem_of_getElem? (i := 47) rfl))) (mvT hZ (hw _ (List.mem_of_getElem? (i := 28) rfl))) (mvT hZ (hw _ (List.mem_of_getElem? (i := 48) rfl))) (by decide) (backOf (W := 0) (rm_crfF l Z a0 hw [] b10 (0 : Int32) vl h n0 Zh fc13 hv) hZ (hw _ (List.mem_of_getElem? (i := 48) rfl)) (hw _ (List.mem_of_getElem? (i := 28) rfl)) (by decide) (by decide)) (g := (mkF m 150 #[.val (.int p1), .val (.int p2), .val (.int p3), .val (.int p4), .val (.int p5), .val (.ref b1), .val (.ref b10), .val (.ref b73), .val (.int t0), .unset, .unset] [(.int (0 : Int32)), (.ref b10)])) rfl (by rw [hml]; rfl) (argsL := [(.ref b10), (.int (0 : Int32))]) (rest := []) (lenOf pd_5 rfl) rfl (by show 2 * 0 + _ ≤ _; exact Nat.le_of_eq rfl) (hb hby at_150) (fun _ _ => ⟨rfl, eT, (Nat.le_trans (Nat.add_le_add_right hcl 0) (by decide)), (Nat.le_trans (Nat.add_le_add_right hsl 0) (by decide))⟩)
    dsimp only [Pt.U, Pt.locs, Pt.cells, Pt.slots] at X11 l11 y11 z11 st11 hQ11
    subst l11 y11 z11
    obtain ⟨rfl, N11q, e11⟩ := hQ11
    have N11 := Fr.app N N11q
    obtain ⟨_, _, ⟨T12, L12, k12, n12⟩, -, X12, ⟨Lc12, hQ12, l12, y12, z12⟩, st12⟩ := Jvm.LawKit.callS X11 hx (y := (⟨"com/example/knotwise/knotwise/PlacementPlacePinLaw", "countRef", "([II)I"⟩ : MethodName)) hown (mvT hZ (hw _ (List.mem_of_getElem? (i := 46) rfl))) (mvT hZ (hw _ (List.mem_of_getElem? (i := 47) rfl))) (mvT hZ (hw _ (List.mem_of_getElem? (i := 28) rfl))) (mvT hZ (hw _ (List.mem_of_getElem? (i := 48) rfl))) (by decide) (backOf (W := 0) (rm_crfF l Z a0 hw [] b10 (1 : Int32) vl h n0 Zh fc13 hv) hZ (hw _ (List.mem_of_getElem? (i := 48) rfl)) (hw _ (List.mem_of_getElem? (i := 28) rfl)) (by decide) (by decide)) (g := (mkF m 158 #[.val (.int p1), .val (.int p2), .val (.int p3), .val (.int p4), .val (.int p5), .val (.ref b1), .val (.ref b10), .val (.ref b73), .val (.int t0), .val (.int (crfF (0 : Int32) vl)), .unset] [(.int (1 : Int32)), (.ref b10)])) rfl (by rw [hml]; rfl) (argsL := [(.ref b10), (.int (1 : Int32))]) (rest := []) (lenOf pd_5 rfl) rfl (by show 2 * 0 + _ ≤ _; exact Nat.le_of_eq rfl) (hb hby at_158) (fun _ _ => ⟨rfl, e11, (Nat.le_trans (Nat.add_le_add_right (Nat.add_le_add_right hcl 0) 0) (by decide)), (Nat.le_trans (Nat.add_le_add_right (Nat.add_le_add_right hsl 0) 0) (by decide))⟩)
    dsimp only [Pt.U, Pt.locs, Pt.cells, Pt.slots] at X12 l12 y12 z12 st12 hQ12
    subst l12 y12 z12
    obtain ⟨rfl, N12q, e12⟩ := hQ12
    have N12 := Fr.app N11 N12q
    refine Go.step (T' := T12) (f' := (mkF m 165 #[.val (.int p1), .val (.int p2), .val (.int p3), .val (.int p4), .val (.int p5), .val (.ref b1), .val (.ref b10), .val (.ref b73), .val (.int t0), .val (.int (crfF (0 : Int32) vl)), .val (.int (crfF (1 : Int32) vl))] [(.int t0)])) (fun t kt => ?_) ?_
    · show Steps p.tables e below (T.setTop (mkF m 145 #[.val (.int p1), .val (.int p2), .val (.int p3), .val (.int p4), .val (.int p5), .val (.ref b1), .val (.ref b10), .val (.ref b73), .unset, .unset, .unset] [(.int t0)])) _
      refine XS.istore X.here hx rfl (hb hby at_145) rfl (l' := #[.val (.int p1), .val (.int p2), .val (.int p3), .val (.int p4), .val (.int p5), .val (.ref b1), .val (.ref b10), .val (.ref b73), .val (.int t0), .unset, .unset]) rfl ?_
      show Steps p.tables e below (T.setTop (mkF m 147 #[.val (.int p1), .val (.int p2), .val (.int p3), .val (.int p4), .val (.int p5), .val (.ref b1), .val (.ref b10), .val (.ref b73), .val (.int t0), .unset, .unset] [])) _
      refine XS.aload X.here hx rfl (hb hby at_147) rfl rfl ?_
      show Steps p.tables e below (T.setTop (mkF m 149 #[.val (.int p1), .val (.int p2), .val (.int p3), .val (.int p4), .val (.int p5), .val (.ref b1), .val (.ref b10), .val (.ref b73), .val (.int t0), .unset, .unset] [(.ref b10)])) _
      refine XS.iconst X.here hx rfl (hb hby at_149) ?_
      show Steps p.tables e below (T.setTop (mkF m 150 #[.val (.int p1), .val (.int p2), .val (.int p3), .val (.int p4), .val (.int p5), .val (.ref b1), .val (.ref b10), .val (.ref b73), .val (.int t0), .unset, .unset] [(.int (0 : Int32)), (.ref b10)])) _
      refine st11 _ ?_
      show Steps p.tables e below (T11.setTop (mkF m 153 #[.val (.int p1), .val (.int p2), .val (.int p3), .val (.int p4), .val (.int p5), .val (.ref b1), .val (.ref b10), .val (.ref b73), .val (.int t0), .unset, .unset] [(.int (crfF (0 : Int32) vl))])) _
      refine XS.istore X11.here hx rfl (hb hby at_153) rfl (l' := #[.val (.int p1), .val (.int p2), .val (.int p3), .val (.int p4), .val (.int p5), .val (.ref b1), .val (.ref b10), .val (.ref b73), .val (.int t0), .val (.int (crfF (0 : Int32) vl)), .unset]) rfl ?_
      show Steps p.tables e below (T11.setTop (mkF m 155 #[.val (.int p1), .val (.int p2), .val (.int p3), .val (.int p4), .val (.int p5), .val (.ref b1), .val (.ref b10), .val (.ref b73), .val (.int t0), .val (.int (crfF (0 : Int32) vl)), .unset] [])) _
      refine XS.aload X11.here hx rfl (hb hby at_155) rfl rfl ?_
      show Steps p.tables e below (T11.setTop (mkF m 157 #[.val (.int p1), .val (.int p2), .val (.int p3), .val (.int p4), .val (.int p5), .val (.ref b1), .val (.ref b10), .val (.ref b73), .val (.int t0), .val (.int (crfF (0 : Int32) vl)), .unset] [(.ref b10)])) _
      refine XS.iconst X11.here hx rfl (hb hby at_157) ?_
      show Steps p.tables e below (T11.setTop (mkF m 158 #[.val (.int p1), .val (.int p2), .val (.int p3), .val (.int p4), .val (.int p5), .val (.ref b1), .val (.ref b10), .val (.ref b73), .val (.int t0), .val (.int (crfF (0 : Int32) vl)), .unset] [(.int (1 : Int32)), (.ref b10)])) _
      refine st12 _ ?_
      show Steps p.tables e below (T12.setTop (mkF m 161 #[.val (.int p1), .val (.int p2), .val (.int p3), .val (.int p4), .val (.int p5), .val (.ref b1), .val (.ref b10), .val (.ref b73), .val (.int t0), .val (.int (crfF (0 : Int32) vl)), .unset] [(.int (crfF (1 : Int32) vl))])) _
      refine XS.istore X12.here hx rfl (hb hby at_161) rfl (l' := #[.val (.int p1), .val (.int p2), .val (.int p3), .val (.int p4), .val (.int p5), .val (.ref b1), .val (.ref b10), .val (.ref b73), .val (.int t0), .val (.int (crfF (0 : Int32) vl)), .val (.int (crfF (1 : Int32) vl))]) rfl ?_
      show Steps p.tables e below (T12.setTop (mkF m 163 #[.val (.int p1), .val (.int p2), .val (.int p3), .val (.int p4), .val (.int p5), .val (.ref b1), .val (.ref b10), .val (.ref b73), .val (.int t0), .val (.int (crfF (0 : Int32) vl)), .val (.int (crfF (1 : Int32) vl))] [])) _
      refine XS.iload X12.here hx rfl (hb hby at_163) rfl ?_
      exact kt
    by_cases hc13 : t0 = (0 : Int32)
    · rw [if_pos hc13] at hf
      refine Go.step (T' := T12) (f' := (mkF m 194 #[.val (.int p1), .val (.int p2), .val (.int p3), .val (.int p4), .val (.int p5), .val (.ref b1), .val (.ref b10), .val (.ref b73), .val (.int t0), .val (.int (crfF (0 : Int32) vl)), .val (.int (crfF (1 : Int32) vl))] [])) (fun t kt => ?_) ?_
      · show Steps p.tables e below (T12.setTop (mkF m 165 #[.val (.int p1), .val (.int p2), .val (.int p3), .val (.int p4), .val (.int p5), .val (.ref b1), .val (.ref b10), .val (.ref b73), .val (.int t0), .val (.int (crfF (0 : Int32) vl)), .val (.int (crfF (1 : Int32) vl))] [(.int t0)])) _
        refine XS.ifYes X12.here hx rfl (pc0 := 165) (pc' := 194) rfl (hb hby at_165) rfl ((if0 _ _).trans (teq hc13).1) (by decide) (by decide) ?_
        exact kt
      refine Go.step (T' := T12) (f' := (mkF m 195 #[.val (.int p1), .val (.int p2), .val (.int p3), .val (.int p4), .val (.int p5), .val (.ref b1), .val (.ref b10), .val (.ref b73), .val (.int t0), .val (.int (crfF (0 : Int32) vl)), .val (.int (crfF (1 : Int32) vl))] [(.int (0 : Int32))])) (fun t kt => ?_) ?_
      · show Steps p.tables e below (T12.setTop (mkF m 194 #[.val (.int p1), .val (.int p2), .val (.int p3), .val (.int p4), .val (.int p5), .val (.ref b1), .val (.ref b10), .val (.ref b73), .val (.int t0), .val (.int (crfF (0 : Int32) vl)), .val (.int (crfF (1 : Int32) vl))] [])) _
        refine XS.iconst X12.here hx rfl (hb hby at_194) ?_
        exact kt
      exact S195 _ _ _ _ X12 (Nat.le_trans (Nat.add_le_add_right (Nat.add_le_add_right hcl 0) 0) (by decide)) (Nat.le_trans (Nat.add_le_add_right (Nat.add_le_add_right hsl 0) 0) (by decide)) h e12 N12 t0 (crfF (0 : Int32) vl) (crfF (1 : Int32) vl) (0 : Int32) b1 aw_8 af_8 al_8 ac_8 an_8 ap_8 b10 b73 wl fl ll cl nl pl vl tl K fc0 fc1 fc2 fc3 fc4 fc5 fc6 fc7 fc8 fc9 fc10 fc11 fc12 fc13 fc14 g_b1 g_aw_8 g_af_8 g_al_8 g_ac_8 g_an_8 g_ap_8 g_b10 g_b73 sz_b1 sz_aw_8 sz_af_8 sz_al_8 sz_ac_8 sz_an_8 sz_ap_8 sz_b10 sz_b73 ne_b1_aw_8 ne_b1_af_8 ne_b1_al_8 ne_b1_ac_8 ne_b1_an_8 ne_b1_ap_8 ne_aw_8_af_8 ne_aw_8_al_8 ne_aw_8_ac_8 ne_aw_8_an_8 ne_aw_8_ap_8 ne_af_8_al_8 ne_af_8_ac_8 ne_af_8_an_8 ne_af_8_ap_8 ne_al_8_ac_8 ne_al_8_an_8 ne_al_8_ap_8 ne_ac_8_an_8 ne_ac_8_ap_8 ne_an_8_ap_8 ne_b1_b10 ne_aw_8_b10 ne_af_8_b10 ne_al_8_b10 ne_ac_8_b10 ne_an_8_b10 ne_ap_8_b10 ne_b1_b73 ne_aw_8_b73 ne_af_8_b73 ne_al_8_b73 ne_ac_8_b73 ne_an_8_b73 ne_ap_8_b73 ne_b10_b73 hI hv ht hf
    · rw [if_neg hc13] at hf
      refine Go.step (T' := T12) (f' := (mkF m 168 #[.val (.int p1), .val (.int p2), .val (.int p3), .val (.int p4), .val (.int p5), .val (.ref b1), .val (.ref b10), .val (.ref b73), .val (.int t0), .val (.int (crfF (0 : Int32) vl)), .val (.int (crfF (1 : Int32) vl))] [])) (fun t kt => ?_) ?_
      · show Steps p.tables e below (T12.setTop (mkF m 165 #[.val (.int p1), .val (.int p2), .val (.int p3), .val (.int p4), .val (.int p5), .val (.ref b1), .val (.ref b10), .val (.ref b73), .val (.int t0), .val (.int (crfF (0 : Int32) vl)), .val (.int (crfF (1 : Int32) vl))] [(.int t0)])) _
        refine XS.ifNo X12.here hx rfl (hb hby at_165) rfl ((if0 _ _).trans (feq hc13).1) ?_
        exact kt
      obtain ⟨cq14, kq14, q14a, q14b, q14c⟩ := isOf hZ e12 (fc0 : Exa Z h b1 "com/example/knotwise/knotwise/Placement")
      obtain ⟨_, _, ⟨T14, L14, k14, n14⟩, -, X14, ⟨Lc14, hQ14, l14, y14, z14⟩, st14⟩ := X12.virtualBack hx (y := (⟨"com/example/knotwise/knotwise/Placement", "count", "(I)I"⟩ : MethodName)) (z := (⟨"com/example/knotwise/knotwise/Placement", "count", "(I)I"⟩ : MethodName)) hown (mvT hZ (hw _ (List.mem_of_getElem? (i := 49) rfl))) (mvT hZ (hw _ (List.mem_of_getElem? (i := 50) rfl))) (notFace_of_selects (args := #[]) (mvT hZ (hw _ (List.mem_of_getElem? (i := 52) rfl)))) (mvT hZ (hw _ (List.mem_of_getElem? (i := 52) rfl))) (mvT hZ (hw _ (List.mem_of_getElem? (i := 51) rfl))) (by decide) (backOf (W := 0) (rm_couF l Z a0 hw [] b1 (0 : Int32) ac_8 cl h n0 Zh fc4 fc10 (by decide) hI.2.2.2.1) hZ (hw _ (List.mem_of_getElem? (i := 53) rfl)) (hw _ (List.mem_of_getElem? (i := 2) rfl)) (by decide) (by decide)) q14a q14c (g := (mkF m 171 #[.val (.int p1), .val (.int p2), .val (.int p3), .val (.int p4), .val (.int p5), .val (.ref b1), .val (.ref b10), .val (.ref b73), .val (.int t0), .val (.int (crfF (0 : Int32) vl)), .val (.int (crfF (1 : Int32) vl))] [(.int (0 : Int32)), (.ref b1)])) rfl (by rw [hml]; rfl) (Steps.refl _) (argsL := [(.int (0 : Int32))]) (rest := []) (lenOf pd_4 rfl) rfl (by show 2 * 0 + _ ≤ _; exact Nat.le_of_eq rfl) (hb hby at_171) (fun _ _ => ⟨rfl, e12, (Nat.le_trans (Nat.add_le_add_right (Nat.add_le_add_right (Nat.add_le_add_right hcl 0) 0) 0) (by decide)), (Nat.le_trans (Nat.add_le_add_right (Nat.add_le_add_right (Nat.add_le_add_right hsl 0) 0) 0) (by decide))⟩)
      dsimp only [Pt.U, Pt.locs, Pt.cells, Pt.slots] at X14 l14 y14 z14 st14 hQ14
      subst l14 y14 z14
      obtain ⟨rfl, N14q, e14⟩ := hQ14
      have N14 := Fr.app N12 N14q
      refine Go.step (T' := T14) (f' := (mkF m 176 #[.val (.int p1), .val (.int p2), .val (.int p3), .val (.int p4), .val (.int p5), .val (.ref b1), .val (.ref b10), .val (.ref b73), .val (.int t0), .val (.int (crfF (0 : Int32) vl)), .val (.int (crfF (1 : Int32) vl))] [(.int (crfF (0 : Int32) vl)), (.int (couF (0 : Int32) cl))])) (fun t kt => ?_) ?_
      · show Steps p.tables e below (T12.setTop (mkF m 168 #[.val (.int p1), .val (.int p2), .val (.int p3), .val (.int p4), .val (.int p5), .val (.ref b1), .val (.ref b10), .val (.ref b73), .val (.int t0), .val (.int (crfF (0 : Int32) vl)), .val (.int (crfF (1 : Int32) vl))] [])) _
        refine XS.aload X12.here hx rfl (hb hby at_168) rfl rfl ?_
        show Steps p.tables e below (T12.setTop (mkF m 170 #[.val (.int p1), .val (.int p2), .val (.int p3), .val (.int p4), .val (.int p5), .val (.ref b1), .val (.ref b10), .val (.ref b73), .val (.int t0), .val (.int (crfF (0 : Int32) vl)), .val (.int (crfF (1 : Int32) vl))] [(.ref b1)])) _
        refine XS.iconst X12.here hx rfl (hb hby at_170) ?_
        show Steps p.tables e below (T12.setTop (mkF m 171 #[.val (.int p1), .val (.int p2), .val (.int p3), .val (.int p4), .val (.int p5), .val (.ref b1), .val (.ref b10), .val (.ref b73), .val (.int t0), .val (.int (crfF (0 : Int32) vl)), .val (.int (crfF (1 : Int32) vl))] [(.int (0 : Int32)), (.ref b1)])) _
        refine st14.trans ?_
        show Steps p.tables e below (T14.setTop (mkF m 174 #[.val (.int p1), .val (.int p2), .val (.int p3), .val (.int p4), .val (.int p5), .val (.ref b1), .val (.ref b10), .val (.ref b73), .val (.int t0), .val (.int (crfF (0 : Int32) vl)), .val (.int (crfF (1 : Int32) vl))] [(.int (couF (0 : Int32) cl))])) _
        refine XS.iload X14.here hx rfl (hb hby at_174) rfl ?_
        exact kt
      by_cases hc15 : (couF (0 : Int32) cl) = (crfF (0 : Int32) vl)
      · rw [if_pos hc15] at hf
        refine Go.step (T' := T14) (f' := (mkF m 179 #[.val (.int p1), .val (.int p2), .val (.int p3), .val (.int p4), .val (.int p5), .val (.ref b1), .val (.ref b10), .val (.ref b73), .val (.int t0), .val (.int (crfF (0 : Int32) vl)), .val (.int (crfF (1 : Int32) vl))] [])) (fun t kt => ?_) ?_
        · show Steps p.tables e below (T14.setTop (mkF m 176 #[.val (.int p1), .val (.int p2), .val (.int p3), .val (.int p4), .val (.int p5), .val (.ref b1), .val (.ref b10), .val (.ref b73), .val (.int t0), .val (.int (crfF (0 : Int32) vl)), .val (.int (crfF (1 : Int32) vl))] [(.int (crfF (0 : Int32) vl)), (.int (couF (0 : Int32) cl))])) _
          refine XS.icmpNo X14.here hx rfl (hb hby at_176) rfl (teq hc15).2 ?_
          exact kt
        obtain ⟨cq16, kq16, q16a, q16b, q16c⟩ := isOf hZ e14 (fc0 : Exa Z h b1 "com/example/knotwise/knotwise/Placement")
        obtain ⟨_, _, ⟨T16, L16, k16, n16⟩, -, X16, ⟨Lc16, hQ16, l16, y16, z16⟩, st16⟩ := X14.virtualBack hx (y := (⟨"com/example/knotwise/knotwise/Placement", "count", "(I)I"⟩ : MethodName)) (z := (⟨"com/example/knotwise/knotwise/Placement", "count", "(I)I"⟩ : MethodName)) hown (mvT hZ (hw _ (List.mem_of_getElem? (i := 49) rfl))) (mvT hZ (hw _ (List.mem_of_getElem? (i := 50) rfl))) (notFace_of_selects (args := #[]) (mvT hZ (hw _ (List.mem_of_getElem? (i := 52) rfl)))) (mvT hZ (hw _ (List.mem_of_getElem? (i := 52) rfl))) (mvT hZ (hw _ (List.mem_of_getElem? (i := 51) rfl))) (by decide) (backOf (W := 0) (rm_couF l Z a0 hw [] b1 (1 : Int32) ac_8 cl h n0 Zh fc4 fc10 (by decide) hI.2.2.2.1) hZ (hw _ (List.mem_of_getElem? (i := 53) rfl)) (hw _ (List.mem_of_getElem? (i := 2) rfl)) (by decide) (by decide)) q16a q16c (g := (mkF m 182 #[.val (.int p1), .val (.int p2), .val (.int p3), .val (.int p4), .val (.int p5), .val (.ref b1), .val (.ref b10), .val (.ref b73), .val (.int t0), .val (.int (crfF (0 : Int32) vl)), .val (.int (crfF (1 : Int32) vl))] [(.int (1 : Int32)), (.ref b1)])) rfl (by rw [hml]; rfl) (Steps.refl _) (argsL := [(.int (1 : Int32))]) (rest := []) (lenOf pd_4 rfl) rfl (by show 2 * 0 + _ ≤ _; exact Nat.le_of_eq rfl) (hb hby at_182) (fun _ _ => ⟨rfl, e14, (Nat.le_trans (Nat.add_le_add_right (Nat.add_le_add_right (Nat.add_le_add_right (Nat.add_le_add_right hcl 0) 0) 0) 0) (by decide)), (Nat.le_trans (Nat.add_le_add_right (Nat.add_le_add_right (Nat.add_le_add_right (Nat.add_le_add_right hsl 0) 0) 0) 0) (by decide))⟩)
        dsimp only [Pt.U, Pt.locs, Pt.cells, Pt.slots] at X16 l16 y16 z16 st16 hQ16
        subst l16 y16 z16
        obtain ⟨rfl, N16q, e16⟩ := hQ16
        have N16 := Fr.app N14 N16q
        refine Go.step (T' := T16) (f' := (mkF m 187 #[.val (.int p1), .val (.int p2), .val (.int p3), .val (.int p4), .val (.int p5), .val (.ref b1), .val (.ref b10), .val (.ref b73), .val (.int t0), .val (.int (crfF (0 : Int32) vl)), .val (.int (crfF (1 : Int32) vl))] [(.int (crfF (1 : Int32) vl)), (.int (couF (1 : Int32) cl))])) (fun t kt => ?_) ?_
        · show Steps p.tables e below (T14.setTop (mkF m 179 #[.val (.int p1), .val (.int p2), .val (.int p3), .val (.int p4), .val (.int p5), .val (.ref b1), .val (.ref b10), .val (.ref b73), .val (.int t0), .val (.int (crfF (0 : Int32) vl)), .val (.int (crfF (1 : Int32) vl))] [])) _
          refine XS.aload X14.here hx rfl (hb hby at_179) rfl rfl ?_
          show Steps p.tables e below (T14.setTop (mkF m 181 #[.val (.int p1), .val (.int p2), .val (.int p3), .val (.int p4), .val (.int p5), .val (.ref b1), .val (.ref b10), .val (.ref b73), .val (.int t0), .val (.int (crfF (0 : Int32) vl)), .val (.int (crfF (1 : Int32) vl))] [(.ref b1)])) _
          refine XS.iconst X14.here hx rfl (hb hby at_181) ?_
          show Steps p.tables e below (T14.setTop (mkF m 182 #[.val (.int p1), .val (.int p2), .val (.int p3), .val (.int p4), .val (.int p5), .val (.ref b1), .val (.ref b10), .val (.ref b73), .val (.int t0), .val (.int (crfF (0 : Int32) vl)), .val (.int (crfF (1 : Int32) vl))] [(.int (1 : Int32)), (.ref b1)])) _
          refine st16.trans ?_
          show Steps p.tables e below (T16.setTop (mkF m 185 #[.val (.int p1), .val (.int p2), .val (.int p3), .val (.int p4), .val (.int p5), .val (.ref b1), .val (.ref b10), .val (.ref b73), .val (.int t0), .val (.int (crfF (0 : Int32) vl)), .val (.int (crfF (1 : Int32) vl))] [(.int (couF (1 : Int32) cl))])) _
          refine XS.iload X16.here hx rfl (hb hby at_185) rfl ?_
          exact kt
        by_cases hc17 : (couF (1 : Int32) cl) = (crfF (1 : Int32) vl)
        · rw [if_pos hc17] at hf
          refine Go.step (T' := T16) (f' := (mkF m 190 #[.val (.int p1), .val (.int p2), .val (.int p3), .val (.int p4), .val (.int p5), .val (.ref b1), .val (.ref b10), .val (.ref b73), .val (.int t0), .val (.int (crfF (0 : Int32) vl)), .val (.int (crfF (1 : Int32) vl))] [])) (fun t kt => ?_) ?_
          · show Steps p.tables e below (T16.setTop (mkF m 187 #[.val (.int p1), .val (.int p2), .val (.int p3), .val (.int p4), .val (.int p5), .val (.ref b1), .val (.ref b10), .val (.ref b73), .val (.int t0), .val (.int (crfF (0 : Int32) vl)), .val (.int (crfF (1 : Int32) vl))] [(.int (crfF (1 : Int32) vl)), (.int (couF (1 : Int32) cl))])) _
            refine XS.icmpNo X16.here hx rfl (hb hby at_187) rfl (teq hc17).2 ?_
            exact kt
          refine Go.step (T' := T16) (f' := (mkF m 195 #[.val (.int p1), .val (.int p2), .val (.int p3), .val (.int p4), .val (.int p5), .val (.ref b1), .val (.ref b10), .val (.ref b73), .val (.int t0), .val (.int (crfF (0 : Int32) vl)), .val (.int (crfF (1 : Int32) vl))] [(.int (1 : Int32))])) (fun t kt => ?_) ?_
          · show Steps p.tables e below (T16.setTop (mkF m 190 #[.val (.int p1), .val (.int p2), .val (.int p3), .val (.int p4), .val (.int p5), .val (.ref b1), .val (.ref b10), .val (.ref b73), .val (.int t0), .val (.int (crfF (0 : Int32) vl)), .val (.int (crfF (1 : Int32) vl))] [])) _
            refine XS.iconst X16.here hx rfl (hb hby at_190) ?_
            show Steps p.tables e below (T16.setTop (mkF m 191 #[.val (.int p1), .val (.int p2), .val (.int p3), .val (.int p4), .val (.int p5), .val (.ref b1), .val (.ref b10), .val (.ref b73), .val (.int t0), .val (.int (crfF (0 : Int32) vl)), .val (.int (crfF (1 : Int32) vl))] [(.int (1 : Int32))])) _
            refine XS.goto X16.here hx rfl (pc0 := 191) (pc' := 195) rfl (hb hby at_191) (by decide) (by decide) ?_
            exact kt
          exact S195 _ _ _ _ X16 (Nat.le_trans (Nat.add_le_add_right (Nat.add_le_add_right (Nat.add_le_add_right (Nat.add_le_add_right hcl 0) 0) 0) 0) (by decide)) (Nat.le_trans (Nat.add_le_add_right (Nat.add_le_add_right (Nat.add_le_add_right (Nat.add_le_add_right hsl 0) 0) 0) 0) (by decide)) h e16 N16 t0 (crfF (0 : Int32) vl) (crfF (1 : Int32) vl) (1 : Int32) b1 aw_8 af_8 al_8 ac_8 an_8 ap_8 b10 b73 wl fl ll cl nl pl vl tl K fc0 fc1 fc2 fc3 fc4 fc5 fc6 fc7 fc8 fc9 fc10 fc11 fc12 fc13 fc14 g_b1 g_aw_8 g_af_8 g_al_8 g_ac_8 g_an_8 g_ap_8 g_b10 g_b73 sz_b1 sz_aw_8 sz_af_8 sz_al_8 sz_ac_8 sz_an_8 sz_ap_8 sz_b10 sz_b73 ne_b1_aw_8 ne_b1_af_8 ne_b1_al_8 ne_b1_ac_8 ne_b1_an_8 ne_b1_ap_8 ne_aw_8_af_8 ne_aw_8_al_8 ne_aw_8_ac_8 ne_aw_8_an_8 ne_aw_8_ap_8 ne_af_8_al_8 ne_af_8_ac_8 ne_af_8_an_8 ne_af_8_ap_8 ne_al_8_ac_8 ne_al_8_an_8 ne_al_8_ap_8 ne_ac_8_an_8 ne_ac_8_ap_8 ne_an_8_ap_8 ne_b1_b10 ne_aw_8_b10 ne_af_8_b10 ne_al_8_b10 ne_ac_8_b10 ne_an_8_b10 ne_ap_8_b10 ne_b1_b73 ne_aw_8_b73 ne_af_8_b73 ne_al_8_b73 ne_ac_8_b73 ne_an_8_b73 ne_ap_8_b73 ne_b10_b73 hI hv ht hf
        · rw [if_neg hc17] at hf
          refine Go.step (T' := T16) (f' := (mkF m 194 #[.val (.int p1), .val (.int p2), .val (.int p3), .val (.int p4), .val (.int p5), .val (.ref b1), .val (.ref b10), .val (.ref b73), .val (.int t0), .val (.int (crfF (0 : Int32) vl)), .val (.int (crfF (1 : Int32) vl))] [])) (fun t kt => ?_) ?_
          · show Steps p.tables e below (T16.setTop (mkF m 187 #[.val (.int p1), .val (.int p2), .val (.int p3), .val (.int p4), .val (.int p5), .val (.ref b1), .val (.ref b10), .val (.ref b73), .val (.int t0), .val (.int (crfF (0 : Int32) vl)), .val (.int (crfF (1 : Int32) vl))] [(.int (crfF (1 : Int32) vl)), (.int (couF (1 : Int32) cl))])) _
            refine XS.icmpYes X16.here hx rfl (pc0 := 187) (pc' := 194) rfl (hb hby at_187) rfl (feq hc17).2 (by decide) (by decide) ?_
            exact kt
          refine Go.step (T' := T16) (f' := (mkF m 195 #[.val (.int p1), .val (.int p2), .val (.int p3), .val (.int p4), .val (.int p5), .val (.ref b1), .val (.ref b10), .val (.ref b73), .val (.int t0), .val (.int (crfF (0 : Int32) vl)), .val (.int (crfF (1 : Int32) vl))] [(.int (0 : Int32))])) (fun t kt => ?_) ?_
          · show Steps p.tables e below (T16.setTop (mkF m 194 #[.val (.int p1), .val (.int p2), .val (.int p3), .val (.int p4), .val (.int p5), .val (.ref b1), .val (.ref b10), .val (.ref b73), .val (.int t0), .val (.int (crfF (0 : Int32) vl)), .val (.int (crfF (1 : Int32) vl))] [])) _
            refine XS.iconst X16.here hx rfl (hb hby at_194) ?_
            exact kt
          exact S195 _ _ _ _ X16 (Nat.le_trans (Nat.add_le_add_right (Nat.add_le_add_right (Nat.add_le_add_right (Nat.add_le_add_right hcl 0) 0) 0) 0) (by decide)) (Nat.le_trans (Nat.add_le_add_right (Nat.add_le_add_right (Nat.add_le_add_right (Nat.add_le_add_right hsl 0) 0) 0) 0) (by decide)) h e16 N16 t0 (crfF (0 : Int32) vl) (crfF (1 : Int32) vl) (0 : Int32) b1 aw_8 af_8 al_8 ac_8 an_8 ap_8 b10 b73 wl fl ll cl nl pl vl tl K fc0 fc1 fc2 fc3 fc4 fc5 fc6 fc7 fc8 fc9 fc10 fc11 fc12 fc13 fc14 g_b1 g_aw_8 g_af_8 g_al_8 g_ac_8 g_an_8 g_ap_8 g_b10 g_b73 sz_b1 sz_aw_8 sz_af_8 sz_al_8 sz_ac_8 sz_an_8 sz_ap_8 sz_b10 sz_b73 ne_b1_aw_8 ne_b1_af_8 ne_b1_al_8 ne_b1_ac_8 ne_b1_an_8 ne_b1_ap_8 ne_aw_8_af_8 ne_aw_8_al_8 ne_aw_8_ac_8 ne_aw_8_an_8 ne_aw_8_ap_8 ne_af_8_al_8 ne_af_8_ac_8 ne_af_8_an_8 ne_af_8_ap_8 ne_al_8_ac_8 ne_al_8_an_8 ne_al_8_ap_8 ne_ac_8_an_8 ne_ac_8_ap_8 ne_an_8_ap_8 ne_b1_b10 ne_aw_8_b10 ne_af_8_b10 ne_al_8_b10 ne_ac_8_b10 ne_an_8_b10 ne_ap_8_b10 ne_b1_b73 ne_aw_8_b73 ne_af_8_b73 ne_al_8_b73 ne_ac_8_b73 ne_an_8_b73 ne_ap_8_b73 ne_b10_b73 hI hv ht hf
      · rw [if_neg hc15] at hf
        refine Go.step (T' := T14) (f' := (mkF m 194 #[.val (.int p1), .val (.int p2), .val (.int p3), .val (.int p4), .val (.int p5), .val (.ref b1), .val (.ref b10), .val (.ref b73), .val (.int t0), .val (.int (crfF (0 : Int32) vl)), .val (.int (crfF (1 : Int32) vl))] [])) (fun t kt => ?_) ?_
        · show Steps p.tables e below (T14.setTop (mkF m 176 #[.val (.int p1), .val (.int p2), .val (.int p3), .val (.int p4), .val (.int p5), .val (.ref b1), .val (.ref b10), .val (.ref b73), .val (.int t0), .val (.int (crfF (0 : Int32) vl)), .val (.int (crfF (1 : Int32) vl))] [(.int (crfF (0 : Int32) vl)), (.int (couF (0 : Int32) cl))])) _
          refine XS.icmpYes X14.here hx rfl (pc0 := 176) (pc' := 194) rfl (hb hby at_176) rfl (feq hc15).2 (by decide) (by decide) ?_
          exact kt
        refine Go.step (T' := T14) (f' := (mkF m 195 #[.val (.int p1), .val (.int p2), .val (.int p3), .val (.int p4), .val (.int p5), .val (.ref b1), .val (.ref b10), .val (.ref b73), .val (.int t0), .val (.int (crfF (0 : Int32) vl)), .val (.int (crfF (1 : Int32) vl))] [(.int (0 : Int32))])) (fun t kt => ?_) ?_
        · show Steps p.tables e below (T14.setTop (mkF m 194 #[.val (.int p1), .val (.int p2), .val (.int p3), .val (.int p4), .val (.int p5), .val (.ref b1), .val (.ref b10), .val (.ref b73), .val (.int t0), .val (.int (crfF (0 : Int32) vl)), .val (.int (crfF (1 : Int32) vl))] [])) _
          refine XS.iconst X14.here hx rfl (hb hby at_194) ?_
          exact kt
        exact S195 _ _ _ _ X14 (Nat.le_trans (Nat.add_le_add_right (Nat.add_le_add_right (Nat.add_le_add_right hcl 0) 0) 0) (by decide)) (Nat.le_trans (Nat.add_le_add_right (Nat.add_le_add_right (Nat.add_le_add_right hsl 0) 0) 0) (by decide)) h e14 N14 t0 (crfF (0 : Int32) vl) (crfF (1 : Int32) vl) (0 : Int32) b1 aw_8 af_8 al_8 ac_8 an_8 ap_8 b10 b73 wl fl ll cl nl pl vl tl K fc0 fc1 fc2 fc3 fc4 fc5 fc6 fc7 fc8 fc9 fc10 fc11 fc12 fc13 fc14 g_b1 g_aw_8 g_af_8 g_al_8 g_ac_8 g_an_8 g_ap_8 g_b10 g_b73 sz_b1 sz_aw_8 sz_af_8 sz_al_8 sz_ac_8 sz_an_8 sz_ap_8 sz_b10 sz_b73 ne_b1_aw_8 ne_b1_af_8 ne_b1_al_8 ne_b1_ac_8 ne_b1_an_8 ne_b1_ap_8 ne_aw_8_af_8 ne_aw_8_al_8 ne_aw_8_ac_8 ne_aw_8_an_8 ne_aw_8_ap_8 ne_af_8_al_8 ne_af_8_ac_8 ne_af_8_an_8 ne_af_8_ap_8 ne_al_8_ac_8 ne_al_8_an_8 ne_al_8_ap_8 ne_ac_8_an_8 ne_ac_8_ap_8 ne_an_8_ap_8 ne_b1_b10 ne_aw_8_b10 ne_af_8_b10 ne_al_8_b10 ne_ac_8_b10 ne_an_8_b10 ne_ap_8_b10 ne_b1_b73 ne_aw_8_b73 ne_af_8_b73 ne_al_8_b73 ne_ac_8_b73 ne_an_8_b73 ne_ap_8_b73 ne_b10_b73 hI hv ht hf
  have S101 : ∀ (T : State) (locs : List Loc) (cells slots : Nat) (X : Stand p l e room_1 s m #[(.int p1), (.int p2), (.int p3), (.int p4), (.int p5)] below meth c T locs cells slots) (hcl : cells ≤ 9) (hsl : slots ≤ 27) (h : Heap) (eT : T.heap = h) (N : Fr n0 locs)   (b1 : Addr) (aw_8 : Addr) (af_8 : Addr) (al_8 : Addr) (ac_8 : Addr) (an_8 : Addr) (ap_8 : Addr) (b10 : Addr) (b73 : Addr) (wl : List Int32) (fl : List Int32) (ll : List Int32) (cl : List Int32) (nl : List Int32) (pl : List Int32) (vl : List Int32) (tl : List Int32) (K : Keep h0 h []) (fc0 : Exa Z h b1 "com/example/knotwise/knotwise/Placement") (fc1 : Fld Z h b1 "com/example/knotwise/knotwise/Placement" "wives" "[I" (.ref aw_8)) (fc2 : Fld Z h b1 "com/example/knotwise/knotwise/Placement" "first" "[I" (.ref af_8)) (fc3 : Fld Z h b1 "com/example/knotwise/knotwise/Placement" "last" "[I" (.ref al_8)) (fc4 : Fld Z h b1 "com/example/knotwise/knotwise/Placement" "count" "[I" (.ref ac_8)) (fc5 : Fld Z h b1 "com/example/knotwise/knotwise/Placement" "next" "[I" (.ref an_8)) (fc6 : Fld Z h b1 "com/example/knotwise/knotwise/Placement" "previous" "[I" (.ref ap_8)) (fc7 : VA Z h aw_8 .int (wl.map Value.int)) (fc8 : VA Z h af_8 .int (fl.map Value.int)) (fc9 : VA Z h al_8 .int (ll.map Value.int)) (fc10 : VA Z h ac_8 .int (cl.map Value.int)) (fc11 : VA Z h an_8 .int (nl.map Value.int)) (fc12 : VA Z h ap_8 .int (pl.map Value.int)) (fc13 : VA Z h b10 .int (vl.map Value.int)) (fc14 : VA Z h b73 .int (tl.map Value.int)) (g_b1 : n0 ≤ b1) (g_aw_8 : n0 ≤ aw_8) (g_af_8 : n0 ≤ af_8) (g_al_8 : n0 ≤ al_8) (g_ac_8 : n0 ≤ ac_8) (g_an_8 : n0 ≤ an_8) (g_ap_8 : n0 ≤ ap_8) (g_b10 : n0 ≤ b10) (g_b73 : n0 ≤ b73) (sz_b1 : h0.size ≤ b1) (sz_aw_8 : h0.size ≤ aw_8) (sz_af_8 : h0.size ≤ af_8) (sz_al_8 : h0.size ≤ al_8) (sz_ac_8 : h0.size ≤ ac_8) (sz_an_8 : h0.size ≤ an_8) (sz_ap_8 : h0.size ≤ ap_8) (sz_b10 : h0.size ≤ b10) (sz_b73 : h0.size ≤ b73) (ne_b1_aw_8 : b1 ≠ aw_8) (ne_b1_af_8 : b1 ≠ af_8) (ne_b1_al_8 : b1 ≠ al_8) (ne_b1_ac_8 : b1 ≠ ac_8) (ne_b1_an_8 : b1 ≠ an_8) (ne_b1_ap_8 : b1 ≠ ap_8) (ne_aw_8_af_8 : aw_8 ≠ af_8) (ne_aw_8_al_8 : aw_8 ≠ al_8) (ne_aw_8_ac_8 : aw_8 ≠ ac_8) (ne_aw_8_an_8 : aw_8 ≠ an_8) (ne_aw_8_ap_8 : aw_8 ≠ ap_8) (ne_af_8_al_8 : af_8 ≠ al_8) (ne_af_8_ac_8 : af_8 ≠ ac_8) (ne_af_8_an_8 : af_8 ≠ an_8) (ne_af_8_ap_8 : af_8 ≠ ap_8) (ne_al_8_ac_8 : al_8 ≠ ac_8) (ne_al_8_an_8 : al_8 ≠ an_8) (ne_al_8_ap_8 : al_8 ≠ ap_8) (ne_ac_8_an_8 : ac_8 ≠ an_8) (ne_ac_8_ap_8 : ac_8 ≠ ap_8) (ne_an_8_ap_8 : an_8 ≠ ap_8) (ne_b1_b10 : b1 ≠ b10) (ne_aw_8_b10 : aw_8 ≠ b10) (ne_af_8_b10 : af_8 ≠ b10) (ne_al_8_b10 : al_8 ≠ b10) (ne_ac_8_b10 : ac_8 ≠ b10) (ne_an_8_b10 : an_8 ≠ b10) (ne_ap_8_b10 : ap_8 ≠ b10) (ne_b1_b73 : b1 ≠ b73) (ne_aw_8_b73 : aw_8 ≠ b73) (ne_af_8_b73 : af_8 ≠ b73) (ne_al_8_b73 : al_8 ≠ b73) (ne_ac_8_b73 : ac_8 ≠ b73) (ne_an_8_b73 : an_8 ≠ b73) (ne_ap_8_b73 : ap_8 ≠ b73) (ne_b10_b73 : b10 ≠ b73) (hI : own_I wl fl ll cl nl pl) (hv : vl.length = 3) (ht : tl.length = 3) (hf : RES = lawF_101  wl fl ll cl nl pl vl tl), Go p e below s (Q0 Z p1 p2 p3 p4 p5 RES h0 n0) 32 128 T (mkF m 101 #[.val (.int p1), .val (.int p2), .val (.int p3), .val (.int p4), .val (.int p5), .val (.ref b1), .val (.ref b10), .val (.ref b73), .unset, .unset, .unset] []) := by
    intro T locs cells slots X hcl hsl h eT N b1 aw_8 af_8 al_8 ac_8 an_8 ap_8 b10 b73 wl fl ll cl nl pl vl tl K fc0 fc1 fc2 fc3 fc4 fc5 fc6 fc7 fc8 fc9 fc10 fc11 fc12 fc13 fc14 g_b1 g_aw_8 g_af_8 g_al_8 g_ac_8 g_an_8 g_ap_8 g_b10 g_b73 sz_b1 sz_aw_8 sz_af_8 sz_al_8 sz_ac_8 sz_an_8 sz_ap_8 sz_b10 sz_b73 ne_b1_aw_8 ne_b1_af_8 ne_b1_al_8 ne_b1_ac_8 ne_b1_an_8 ne_b1_ap_8 ne_aw_8_af_8 ne_aw_8_al_8 ne_aw_8_ac_8 ne_aw_8_an_8 ne_aw_8_ap_8 ne_af_8_al_8 ne_af_8_ac_8 ne_af_8_an_8 ne_af_8_ap_8 ne_al_8_ac_8 ne_al_8_an_8 ne_al_8_ap_8 ne_ac_8_an_8 ne_ac_8_ap_8 ne_an_8_ap_8 ne_b1_b10 ne_aw_8_b10 ne_af_8_b10 ne_al_8_b10 ne_ac_8_b10 ne_an_8_b10 ne_ap_8_b10 ne_b1_b73 ne_aw_8_b73 ne_af_8_b73 ne_al_8_b73 ne_ac_8_b73 ne_an_8_b73 ne_ap_8_b73 ne_b10_b73 hI hv ht hf
    have Zh : n0 ≤ h.size := Nat.le_trans Z0 K.1
    rw [lawF_101] at hf
    obtain ⟨cq18, kq18, q18a, q18b, q18c⟩ := isOf hZ eT (fc0 : Exa Z h b1 "com/example/knotwise/knotwise/Placement")
    obtain ⟨_, _, ⟨T18, L18, k18, n18⟩, -, X18, ⟨Lc18, hQ18, l18, y18, z18⟩, st18⟩ := X.virtualBack hx (y := (⟨"com/example/knotwise/knotwise/Placement", "wife", "(I)I"⟩ : MethodName)) (z := (⟨"com/example/knotwise/knotwise/Placement", "wife", "(I)I"⟩ : MethodName)) hown (mvT hZ (hw _ (List.mem_of_getElem? (i := 41) rfl))) (mvT hZ (hw _ (List.mem_of_getElem? (i := 42) rfl))) (notFace_of_selects (args := #[]) (mvT hZ (hw _ (List.mem_of_getElem? (i := 44) rfl)))) (mvT hZ (hw _ (List.mem_of_getElem? (i := 44) rfl))) (mvT hZ (hw _ (List.mem_of_getElem? (i := 43) rfl))) (by decide) (backOf (W := 0) (rm_wifF l Z a0 hw [] b1 (0 : Int32) aw_8 wl h n0 Zh fc1 fc7 (by decide) hI.1) hZ (hw _ (List.mem_of_getElem? (i := 45) rfl)) (hw _ (List.mem_of_getElem? (i := 2) rfl)) (by decide) (by decide)) q18a q18c (g := (mkF m 104 #[.val (.int p1), .val (.int p2), .val (.int p3), .val (.int p4), .val (.int p5), .val (.ref b1), .val (.ref b10), .val (.ref b73), .unset, .unset, .unset] [(.int (0 : Int32)), (.ref b1)])) rfl (by rw [hml]; rfl) (Steps.refl _) (argsL := [(.int (0 : Int32))]) (rest := []) (lenOf pd_4 rfl) rfl (by show 2 * 0 + _ ≤ _; exact Nat.le_of_eq rfl) (hb hby at_104) (fun _ _ => ⟨rfl, eT, (Nat.le_trans (Nat.add_le_add_right hcl 0) (by decide)), (Nat.le_trans (Nat.add_le_add_right hsl 0) (by decide))⟩)
    dsimp only [Pt.U, Pt.locs, Pt.cells, Pt.slots] at X18 l18 y18 z18 st18 hQ18
    subst l18 y18 z18
    obtain ⟨rfl, N18q, e18⟩ := hQ18
    have N18 := Fr.app N N18q
    have ix19 : 0 ≤ ((0 : Int32)).toInt ∧ ((0 : Int32)).toInt < ((vl).length : Int) := by constructor <;> first | decide | (rw [hv]; decide)
    refine Go.step (T' := T18) (f' := (mkF m 111 #[.val (.int p1), .val (.int p2), .val (.int p3), .val (.int p4), .val (.int p5), .val (.ref b1), .val (.ref b10), .val (.ref b73), .unset, .unset, .unset] [(.int (vl.getD 0 (0 : Int32))), (.int (wifF (0 : Int32) wl))])) (fun t kt => ?_) ?_
    · show Steps p.tables e below (T.setTop (mkF m 101 #[.val (.int p1), .val (.int p2), .val (.int p3), .val (.int p4), .val (.int p5), .val (.ref b1), .val (.ref b10), .val (.ref b73), .unset, .unset, .unset] [])) _
      refine XS.aload X.here hx rfl (hb hby at_101) rfl rfl ?_
      show Steps p.tables e below (T.setTop (mkF m 103 #[.val (.int p1), .val (.int p2), .val (.int p3), .val (.int p4), .val (.int p5), .val (.ref b1), .val (.ref b10), .val (.ref b73), .unset, .unset, .unset] [(.ref b1)])) _
      refine XS.iconst X.here hx rfl (hb hby at_103) ?_
      show Steps p.tables e below (T.setTop (mkF m 104 #[.val (.int p1), .val (.int p2), .val (.int p3), .val (.int p4), .val (.int p5), .val (.ref b1), .val (.ref b10), .val (.ref b73), .unset, .unset, .unset] [(.int (0 : Int32)), (.ref b1)])) _
      refine st18.trans ?_
      show Steps p.tables e below (T18.setTop (mkF m 107 #[.val (.int p1), .val (.int p2), .val (.int p3), .val (.int p4), .val (.int p5), .val (.ref b1), .val (.ref b10), .val (.ref b73), .unset, .unset, .unset] [(.int (wifF (0 : Int32) wl))])) _
      refine XS.aload X18.here hx rfl (hb hby at_107) rfl rfl ?_
      show Steps p.tables e below (T18.setTop (mkF m 109 #[.val (.int p1), .val (.int p2), .val (.int p3), .val (.int p4), .val (.int p5), .val (.ref b1), .val (.ref b10), .val (.ref b73), .unset, .unset, .unset] [(.ref b10), (.int (wifF (0 : Int32) wl))])) _
      refine XS.iconst X18.here hx rfl (hb hby at_109) ?_
      show Steps p.tables e below (T18.setTop (mkF m 110 #[.val (.int p1), .val (.int p2), .val (.int p3), .val (.int p4), .val (.int p5), .val (.ref b1), .val (.ref b10), .val (.ref b73), .unset, .unset, .unset] [(.int (0 : Int32)), (.ref b10), (.int (wifF (0 : Int32) wl))])) _
      refine ldI X18 hx hZ e18 fc13 ix19.1 ix19.2 (g := (mkF m 110 #[.val (.int p1), .val (.int p2), .val (.int p3), .val (.int p4), .val (.int p5), .val (.ref b1), .val (.ref b10), .val (.ref b73), .unset, .unset, .unset] [(.int (0 : Int32)), (.ref b10), (.int (wifF (0 : Int32) wl))])) rfl rfl (hb hby at_110) _ ?_
      exact kt
    by_cases hc20 : (wifF (0 : Int32) wl) = (vl.getD 0 (0 : Int32))
    · rw [if_pos hc20] at hf
      refine Go.step (T' := T18) (f' := (mkF m 114 #[.val (.int p1), .val (.int p2), .val (.int p3), .val (.int p4), .val (.int p5), .val (.ref b1), .val (.ref b10), .val (.ref b73), .unset, .unset, .unset] [])) (fun t kt => ?_) ?_
      · show Steps p.tables e below (T18.setTop (mkF m 111 #[.val (.int p1), .val (.int p2), .val (.int p3), .val (.int p4), .val (.int p5), .val (.ref b1), .val (.ref b10), .val (.ref b73), .unset, .unset, .unset] [(.int (vl.getD 0 (0 : Int32))), (.int (wifF (0 : Int32) wl))])) _
        refine XS.icmpNo X18.here hx rfl (hb hby at_111) rfl (teq hc20).2 ?_
        exact kt
      obtain ⟨cq21, kq21, q21a, q21b, q21c⟩ := isOf hZ e18 (fc0 : Exa Z h b1 "com/example/knotwise/knotwise/Placement")
      obtain ⟨_, _, ⟨T21, L21, k21, n21⟩, -, X21, ⟨Lc21, hQ21, l21, y21, z21⟩, st21⟩ := X18.virtualBack hx (y := (⟨"com/example/knotwise/knotwise/Placement", "wife", "(I)I"⟩ : MethodName)) (z := (⟨"com/example/knotwise/knotwise/Placement", "wife", "(I)I"⟩ : MethodName)) hown (mvT hZ (hw _ (List.mem_of_getElem? (i := 41) rfl))) (mvT hZ (hw _ (List.mem_of_getElem? (i := 42) rfl))) (notFace_of_selects (args := #[]) (mvT hZ (hw _ (List.mem_of_getElem? (i := 44) rfl)))) (mvT hZ (hw _ (List.mem_of_getElem? (i := 44) rfl))) (mvT hZ (hw _ (List.mem_of_getElem? (i := 43) rfl))) (by decide) (backOf (W := 0) (rm_wifF l Z a0 hw [] b1 (1 : Int32) aw_8 wl h n0 Zh fc1 fc7 (by decide) hI.1) hZ (hw _ (List.mem_of_getElem? (i := 45) rfl)) (hw _ (List.mem_of_getElem? (i := 2) rfl)) (by decide) (by decide)) q21a q21c (g := (mkF m 117 #[.val (.int p1), .val (.int p2), .val (.int p3), .val (.int p4), .val (.int p5), .val (.ref b1), .val (.ref b10), .val (.ref b73), .unset, .unset, .unset] [(.int (1 : Int32)), (.ref b1)])) rfl (by rw [hml]; rfl) (Steps.refl _) (argsL := [(.int (1 : Int32))]) (rest := []) (lenOf pd_4 rfl) rfl (by show 2 * 0 + _ ≤ _; exact Nat.le_of_eq rfl) (hb hby at_117) (fun _ _ => ⟨rfl, e18, (Nat.le_trans (Nat.add_le_add_right (Nat.add_le_add_right hcl 0) 0) (by decide)), (Nat.le_trans (Nat.add_le_add_right (Nat.add_le_add_right hsl 0) 0) (by decide))⟩)
      dsimp only [Pt.U, Pt.locs, Pt.cells, Pt.slots] at X21 l21 y21 z21 st21 hQ21
      subst l21 y21 z21
      obtain ⟨rfl, N21q, e21⟩ := hQ21
      have N21 := Fr.app N18 N21q
      have ix22 : 0 ≤ ((1 : Int32)).toInt ∧ ((1 : Int32)).toInt < ((vl).length : Int) := by constructor <;> first | decide | (rw [hv]; decide)
      refine Go.step (T' := T21) (f' := (mkF m 124 #[.val (.int p1), .val (.int p2), .val (.int p3), .val (.int p4), .val (.int p5), .val (.ref b1), .val (.ref b10), .val (.ref b73), .unset, .unset, .unset] [(.int (vl.getD 1 (0 : Int32))), (.int (wifF (1 : Int32) wl))])) (fun t kt => ?_) ?_
      · show Steps p.tables e below (T18.setTop (mkF m 114 #[.val (.int p1), .val (.int p2), .val (.int p3), .val (.int p4), .val (.int p5), .val (.ref b1), .val (.ref b10), .val (.ref b73), .unset, .unset, .unset] [])) _
        refine XS.aload X18.here hx rfl (hb hby at_114) rfl rfl ?_
        show Steps p.tables e below (T18.setTop (mkF m 116 #[.val (.int p1), .val (.int p2), .val (.int p3), .val (.int p4), .val (.int p5), .val (.ref b1), .val (.ref b10), .val (.ref b73), .unset, .unset, .unset] [(.ref b1)])) _
        refine XS.iconst X18.here hx rfl (hb hby at_116) ?_
        show Steps p.tables e below (T18.setTop (mkF m 117 #[.val (.int p1), .val (.int p2), .val (.int p3), .val (.int p4), .val (.int p5), .val (.ref b1), .val (.ref b10), .val (.ref b73), .unset, .unset, .unset] [(.int (1 : Int32)), (.ref b1)])) _
        refine st21.trans ?_
        show Steps p.tables e below (T21.setTop (mkF m 120 #[.val (.int p1), .val (.int p2), .val (.int p3), .val (.int p4), .val (.int p5), .val (.ref b1), .val (.ref b10), .val (.ref b73), .unset, .unset, .unset] [(.int (wifF (1 : Int32) wl))])) _
        refine XS.aload X21.here hx rfl (hb hby at_120) rfl rfl ?_
        show Steps p.tables e below (T21.setTop (mkF m 122 #[.val (.int p1), .val (.int p2), .val (.int p3), .val (.int p4), .val (.int p5), .val (.ref b1), .val (.ref b10), .val (.ref b73), .unset, .unset, .unset] [(.ref b10), (.int (wifF (1 : Int32) wl))])) _
        refine XS.iconst X21.here hx rfl (hb hby at_122) ?_
        show Steps p.tables e below (T21.setTop (mkF m 123 #[.val (.int p1), .val (.int p2), .val (.int p3), .val (.int p4), .val (.int p5), .val (.ref b1), .val (.ref b10), .val (.ref b73), .unset, .unset, .unset] [(.int (1 : Int32)), (.ref b10), (.int (wifF (1 : Int32) wl))])) _
        refine ldI X21 hx hZ e21 fc13 ix22.1 ix22.2 (g := (mkF m 123 #[.val (.int p1), .val (.int p2), .val (.int p3), .val (.int p4), .val (.int p5), .val (.ref b1), .val (.ref b10), .val (.ref b73), .unset, .unset, .unset] [(.int (1 : Int32)), (.ref b10), (.int (wifF (1 : Int32) wl))])) rfl rfl (hb hby at_123) _ ?_
        exact kt
      by_cases hc23 : (wifF (1 : Int32) wl) = (vl.getD 1 (0 : Int32))
      · rw [if_pos hc23] at hf
        refine Go.step (T' := T21) (f' := (mkF m 127 #[.val (.int p1), .val (.int p2), .val (.int p3), .val (.int p4), .val (.int p5), .val (.ref b1), .val (.ref b10), .val (.ref b73), .unset, .unset, .unset] [])) (fun t kt => ?_) ?_
        · show Steps p.tables e below (T21.setTop (mkF m 124 #[.val (.int p1), .val (.int p2), .val (.int p3), .val (.int p4), .val (.int p5), .val (.ref b1), .val (.ref b10), .val (.ref b73), .unset, .unset, .unset] [(.int (vl.getD 1 (0 : Int32))), (.int (wifF (1 : Int32) wl))])) _
          refine XS.icmpNo X21.here hx rfl (hb hby at_124) rfl (teq hc23).2 ?_
          exact kt
        obtain ⟨cq24, kq24, q24a, q24b, q24c⟩ := isOf hZ e21 (fc0 : Exa Z h b1 "com/example/knotwise/knotwise/Placement")
        obtain ⟨_, _, ⟨T24, L24, k24, n24⟩, -, X24, ⟨Lc24, hQ24, l24, y24, z24⟩, st24⟩ := X21.virtualBack hx (y := (⟨"com/example/knotwise/knotwise/Placement", "wife", "(I)I"⟩ : MethodName)) (z := (⟨"com/example/knotwise/knotwise/Placement", "wife", "(I)I"⟩ : MethodName)) hown (mvT hZ (hw _ (List.mem_of_getElem? (i := 41) rfl))) (mvT hZ (hw _ (List.mem_of_getElem? (i := 42) rfl))) (notFace_of_selects (args := #[]) (mvT hZ (hw _ (List.mem_of_getElem? (i := 44) rfl)))) (mvT hZ (hw _ (List.mem_of_getElem? (i := 44) rfl))) (mvT hZ (hw _ (List.mem_of_getElem? (i := 43) rfl))) (by decide) (backOf (W := 0) (rm_wifF l Z a0 hw [] b1 (2 : Int32) aw_8 wl h n0 Zh fc1 fc7 (by decide) hI.1) hZ (hw _ (List.mem_of_getElem? (i := 45) rfl)) (hw _ (List.mem_of_getElem? (i := 2) rfl)) (by decide) (by decide)) q24a q24c (g := (mkF m 130 #[.val (.int p1), .val (.int p2), .val (.int p3), .val (.int p4), .val (.int p5), .val (.ref b1), .val (.ref b10), .val (.ref b73), .unset, .unset, .unset] [(.int (2 : Int32)), (.ref b1)])) rfl (by rw [hml]; rfl) (Steps.refl _) (argsL := [(.int (2 : Int32))]) (rest := []) (lenOf pd_4 rfl) rfl (by show 2 * 0 + _ ≤ _; exact Nat.le_of_eq rfl) (hb hby at_130) (fun _ _ => ⟨rfl, e21, (Nat.le_trans (Nat.add_le_add_right (Nat.add_le_add_right (Nat.add_le_add_right hcl 0) 0) 0) (by decide)), (Nat.le_trans (Nat.add_le_add_right (Nat.add_le_add_right (Nat.add_le_add_right hsl 0) 0) 0) (by decide))⟩)
        dsimp only [Pt.U, Pt.locs, Pt.cells, Pt.slots] at X24 l24 y24 z24 st24 hQ24
        subst l24 y24 z24
        obtain ⟨rfl, N24q, e24⟩ := hQ24
        have N24 := Fr.app N21 N24q
        have ix25 : 0 ≤ ((2 : Int32)).toInt ∧ ((2 : Int32)).toInt < ((vl).length : Int) := by constructor <;> first | decide | (rw [hv]; decide)
        refine Go.step (T' := T24) (f' := (mkF m 137 #[.val (.int p1), .val (.int p2), .val (.int p3), .val (.int p4), .val (.int p5), .val (.ref b1), .val (.ref b10), .val (.ref b73), .unset, .unset, .unset] [(.int (vl.getD 2 (0 : Int32))), (.int (wifF (2 : Int32) wl))])) (fun t kt => ?_) ?_
        · show Steps p.tables e below (T21.setTop (mkF m 127 #[.val (.int p1), .val (.int p2), .val (.int p3), .val (.int p4), .val (.int p5), .val (.ref b1), .val (.ref b10), .val (.ref b73), .unset, .unset, .unset] [])) _
          refine XS.aload X21.here hx rfl (hb hby at_127) rfl rfl ?_
          show Steps p.tables e below (T21.setTop (mkF m 129 #[.val (.int p1), .val (.int p2), .val (.int p3), .val (.int p4), .val (.int p5), .val (.ref b1), .val (.ref b10), .val (.ref b73), .unset, .unset, .unset] [(.ref b1)])) _
          refine XS.iconst X21.here hx rfl (hb hby at_129) ?_
          show Steps p.tables e below (T21.setTop (mkF m 130 #[.val (.int p1), .val (.int p2), .val (.int p3), .val (.int p4), .val (.int p5), .val (.ref b1), .val (.ref b10), .val (.ref b73), .unset, .unset, .unset] [(.int (2 : Int32)), (.ref b1)])) _
          refine st24.trans ?_
          show Steps p.tables e below (T24.setTop (mkF m 133 #[.val (.int p1), .val (.int p2), .val (.int p3), .val (.int p4), .val (.int p5), .val (.ref b1), .val (.ref b10), .val (.ref b73), .unset, .unset, .unset] [(.int (wifF (2 : Int32) wl))])) _
          refine XS.aload X24.here hx rfl (hb hby at_133) rfl rfl ?_
          show Steps p.tables e below (T24.setTop (mkF m 135 #[.val (.int p1), .val (.int p2), .val (.int p3), .val (.int p4), .val (.int p5), .val (.ref b1), .val (.ref b10), .val (.ref b73), .unset, .unset, .unset] [(.ref b10), (.int (wifF (2 : Int32) wl))])) _
          refine XS.iconst X24.here hx rfl (hb hby at_135) ?_
          show Steps p.tables e below (T24.setTop (mkF m 136 #[.val (.int p1), .val (.int p2), .val (.int p3), .val (.int p4), .val (.int p5), .val (.ref b1), .val (.ref b10), .val (.ref b73), .unset, .unset, .unset] [(.int (2 : Int32)), (.ref b10), (.int (wifF (2 : Int32) wl))])) _
          refine ldI X24 hx hZ e24 fc13 ix25.1 ix25.2 (g := (mkF m 136 #[.val (.int p1), .val (.int p2), .val (.int p3), .val (.int p4), .val (.int p5), .val (.ref b1), .val (.ref b10), .val (.ref b73), .unset, .unset, .unset] [(.int (2 : Int32)), (.ref b10), (.int (wifF (2 : Int32) wl))])) rfl rfl (hb hby at_136) _ ?_
          exact kt
        by_cases hc26 : (wifF (2 : Int32) wl) = (vl.getD 2 (0 : Int32))
        · rw [if_pos hc26] at hf
          refine Go.step (T' := T24) (f' := (mkF m 140 #[.val (.int p1), .val (.int p2), .val (.int p3), .val (.int p4), .val (.int p5), .val (.ref b1), .val (.ref b10), .val (.ref b73), .unset, .unset, .unset] [])) (fun t kt => ?_) ?_
          · show Steps p.tables e below (T24.setTop (mkF m 137 #[.val (.int p1), .val (.int p2), .val (.int p3), .val (.int p4), .val (.int p5), .val (.ref b1), .val (.ref b10), .val (.ref b73), .unset, .unset, .unset] [(.int (vl.getD 2 (0 : Int32))), (.int (wifF (2 : Int32) wl))])) _
            refine XS.icmpNo X24.here hx rfl (hb hby at_137) rfl (teq hc26).2 ?_
            exact kt
          refine Go.step (T' := T24) (f' := (mkF m 145 #[.val (.int p1), .val (.int p2), .val (.int p3), .val (.int p4), .val (.int p5), .val (.ref b1), .val (.ref b10), .val (.ref b73), .unset, .unset, .unset] [(.int (1 : Int32))])) (fun t kt => ?_) ?_
          · show Steps p.tables e below (T24.setTop (mkF m 140 #[.val (.int p1), .val (.int p2), .val (.int p3), .val (.int p4), .val (.int p5), .val (.ref b1), .val (.ref b10), .val (.ref b73), .unset, .unset, .unset] [])) _
            refine XS.iconst X24.here hx rfl (hb hby at_140) ?_
            show Steps p.tables e below (T24.setTop (mkF m 141 #[.val (.int p1), .val (.int p2), .val (.int p3), .val (.int p4), .val (.int p5), .val (.ref b1), .val (.ref b10), .val (.ref b73), .unset, .unset, .unset] [(.int (1 : Int32))])) _
            refine XS.goto X24.here hx rfl (pc0 := 141) (pc' := 145) rfl (hb hby at_141) (by decide) (by decide) ?_
            exact kt
          exact S145 _ _ _ _ X24 (Nat.le_trans (Nat.add_le_add_right (Nat.add_le_add_right (Nat.add_le_add_right hcl 0) 0) 0) (by decide)) (Nat.le_trans (Nat.add_le_add_right (Nat.add_le_add_right (Nat.add_le_add_right hsl 0) 0) 0) (by decide)) h e24 N24 (1 : Int32) b1 aw_8 af_8 al_8 ac_8 an_8 ap_8 b10 b73 wl fl ll cl nl pl vl tl K fc0 fc1 fc2 fc3 fc4 fc5 fc6 fc7 fc8 fc9 fc10 fc11 fc12 fc13 fc14 g_b1 g_aw_8 g_af_8 g_al_8 g_ac_8 g_an_8 g_ap_8 g_b10 g_b73 sz_b1 sz_aw_8 sz_af_8 sz_al_8 sz_ac_8 sz_an_8 sz_ap_8 sz_b10 sz_b73 ne_b1_aw_8 ne_b1_af_8 ne_b1_al_8 ne_b1_ac_8 ne_b1_an_8 ne_b1_ap_8 ne_aw_8_af_8 ne_aw_8_al_8 ne_aw_8_ac_8 ne_aw_8_an_8 ne_aw_8_ap_8 ne_af_8_al_8 ne_af_8_ac_8 ne_af_8_an_8 ne_af_8_ap_8 ne_al_8_ac_8 ne_al_8_an_8 ne_al_8_ap_8 ne_ac_8_an_8 ne_ac_8_ap_8 ne_an_8_ap_8 ne_b1_b10 ne_aw_8_b10 ne_af_8_b10 ne_al_8_b10 ne_ac_8_b10 ne_an_8_b10 ne_ap_8_b10 ne_b1_b73 ne_aw_8_b73 ne_af_8_b73 ne_al_8_b73 ne_ac_8_b73 ne_an_8_b73 ne_ap_8_b73 ne_b10_b73 hI hv ht hf
        · rw [if_neg hc26] at hf
          refine Go.step (T' := T24) (f' := (mkF m 144 #[.val (.int p1), .val (.int p2), .val (.int p3), .val (.int p4), .val (.int p5), .val (.ref b1), .val (.ref b10), .val (.ref b73), .unset, .unset, .unset] [])) (fun t kt => ?_) ?_
          · show Steps p.tables e below (T24.setTop (mkF m 137 #[.val (.int p1), .val (.int p2), .val (.int p3), .val (.int p4), .val (.int p5), .val (.ref b1), .val (.ref b10), .val (.ref b73), .unset, .unset, .unset] [(.int (vl.getD 2 (0 : Int32))), (.int (wifF (2 : Int32) wl))])) _
            refine XS.icmpYes X24.here hx rfl (pc0 := 137) (pc' := 144) rfl (hb hby at_137) rfl (feq hc26).2 (by decide) (by decide) ?_
            exact kt
          refine Go.step (T' := T24) (f' := (mkF m 145 #[.val (.int p1), .val (.int p2), .val (.int p3), .val (.int p4), .val (.int p5), .val (.ref b1), .val (.ref b10), .val (.ref b73), .unset, .unset, .unset] [(.int (0 : Int32))])) (fun t kt => ?_) ?_
          · show Steps p.tables e below (T24.setTop (mkF m 144 #[.val (.int p1), .val (.int p2), .val (.int p3), .val (.int p4), .val (.int p5), .val (.ref b1), .val (.ref b10), .val (.ref b73), .unset, .unset, .unset] [])) _
            refine XS.iconst X24.here hx rfl (hb hby at_144) ?_
            exact kt
          exact S145 _ _ _ _ X24 (Nat.le_trans (Nat.add_le_add_right (Nat.add_le_add_right (Nat.add_le_add_right hcl 0) 0) 0) (by decide)) (Nat.le_trans (Nat.add_le_add_right (Nat.add_le_add_right (Nat.add_le_add_right hsl 0) 0) 0) (by decide)) h e24 N24 (0 : Int32) b1 aw_8 af_8 al_8 ac_8 an_8 ap_8 b10 b73 wl fl ll cl nl pl vl tl K fc0 fc1 fc2 fc3 fc4 fc5 fc6 fc7 fc8 fc9 fc10 fc11 fc12 fc13 fc14 g_b1 g_aw_8 g_af_8 g_al_8 g_ac_8 g_an_8 g_ap_8 g_b10 g_b73 sz_b1 sz_aw_8 sz_af_8 sz_al_8 sz_ac_8 sz_an_8 sz_ap_8 sz_b10 sz_b73 ne_b1_aw_8 ne_b1_af_8 ne_b1_al_8 ne_b1_ac_8 ne_b1_an_8 ne_b1_ap_8 ne_aw_8_af_8 ne_aw_8_al_8 ne_aw_8_ac_8 ne_aw_8_an_8 ne_aw_8_ap_8 ne_af_8_al_8 ne_af_8_ac_8 ne_af_8_an_8 ne_af_8_ap_8 ne_al_8_ac_8 ne_al_8_an_8 ne_al_8_ap_8 ne_ac_8_an_8 ne_ac_8_ap_8 ne_an_8_ap_8 ne_b1_b10 ne_aw_8_b10 ne_af_8_b10 ne_al_8_b10 ne_ac_8_b10 ne_an_8_b10 ne_ap_8_b10 ne_b1_b73 ne_aw_8_b73 ne_af_8_b73 ne_al_8_b73 ne_ac_8_b73 ne_an_8_b73 ne_ap_8_b73 ne_b10_b73 hI hv ht hf
      · rw [if_neg hc23] at hf
        refine Go.step (T' := T21) (f' := (mkF m 144 #[.val (.int p1), .val (.int p2), .val (.int p3), .val (.int p4), .val (.int p5), .val (.ref b1), .val (.ref b10), .val (.ref b73), .unset, .unset, .unset] [])) (fun t kt => ?_) ?_
        · show Steps p.tables e below (T21.setTop (mkF m 124 #[.val (.int p1), .val (.int p2), .val (.int p3), .val (.int p4), .val (.int p5), .val (.ref b1), .val (.ref b10), .val (.ref b73), .unset, .unset, .unset] [(.int (vl.getD 1 (0 : Int32))), (.int (wifF (1 : Int32) wl))])) _
          refine XS.icmpYes X21.here hx rfl (pc0 := 124) (pc' := 144) rfl (hb hby at_124) rfl (feq hc23).2 (by decide) (by decide) ?_
          exact kt
        refine Go.step (T' := T21) (f' := (mkF m 145 #[.val (.int p1), .val (.int p2), .val (.int p3), .val (.int p4), .val (.int p5), .val (.ref b1), .val (.ref b10), .val (.ref b73), .unset, .unset, .unset] [(.int (0 : Int32))])) (fun t kt => ?_) ?_
        · show Steps p.tables e below (T21.setTop (mkF m 144 #[.val (.int p1), .val (.int p2), .val (.int p3), .val (.int p4), .val (.int p5), .val (.ref b1), .val (.ref b10), .val (.ref b73), .unset, .unset, .unset] [])) _
          refine XS.iconst X21.here hx rfl (hb hby at_144) ?_
          exact kt
        exact S145 _ _ _ _ X21 (Nat.le_trans (Nat.add_le_add_right (Nat.add_le_add_right hcl 0) 0) (by decide)) (Nat.le_trans (Nat.add_le_add_right (Nat.add_le_add_right hsl 0) 0) (by decide)) h e21 N21 (0 : Int32) b1 aw_8 af_8 al_8 ac_8 an_8 ap_8 b10 b73 wl fl ll cl nl pl vl tl K fc0 fc1 fc2 fc3 fc4 fc5 fc6 fc7 fc8 fc9 fc10 fc11 fc12 fc13 fc14 g_b1 g_aw_8 g_af_8 g_al_8 g_ac_8 g_an_8 g_ap_8 g_b10 g_b73 sz_b1 sz_aw_8 sz_af_8 sz_al_8 sz_ac_8 sz_an_8 sz_ap_8 sz_b10 sz_b73 ne_b1_aw_8 ne_b1_af_8 ne_b1_al_8 ne_b1_ac_8 ne_b1_an_8 ne_b1_ap_8 ne_aw_8_af_8 ne_aw_8_al_8 ne_aw_8_ac_8 ne_aw_8_an_8 ne_aw_8_ap_8 ne_af_8_al_8 ne_af_8_ac_8 ne_af_8_an_8 ne_af_8_ap_8 ne_al_8_ac_8 ne_al_8_an_8 ne_al_8_ap_8 ne_ac_8_an_8 ne_ac_8_ap_8 ne_an_8_ap_8 ne_b1_b10 ne_aw_8_b10 ne_af_8_b10 ne_al_8_b10 ne_ac_8_b10 ne_an_8_b10 ne_ap_8_b10 ne_b1_b73 ne_aw_8_b73 ne_af_8_b73 ne_al_8_b73 ne_ac_8_b73 ne_an_8_b73 ne_ap_8_b73 ne_b10_b73 hI hv ht hf
    · rw [if_neg hc20] at hf
      refine Go.step (T' := T18) (f' := (mkF m 144 #[.val (.int p1), .val (.int p2), .val (.int p3), .val (.int p4), .val (.int p5), .val (.ref b1), .val (.ref b10), .val (.ref b73), .unset, .unset, .unset] [])) (fun t kt => ?_) ?_
      · show Steps p.tables e below (T18.setTop (mkF m 111 #[.val (.int p1), .val (.int p2), .val (.int p3), .val (.int p4), .val (.int p5), .val (.ref b1), .val (.ref b10), .val (.ref b73), .unset, .unset, .unset] [(.int (vl.getD 0 (0 : Int32))), (.int (wifF (0 : Int32) wl))])) _
        refine XS.icmpYes X18.here hx rfl (pc0 := 111) (pc' := 144) rfl (hb hby at_111) rfl (feq hc20).2 (by decide) (by decide) ?_
        exact kt
      refine Go.step (T' := T18) (f' := (mkF m 145 #[.val (.int p1), .val (.int p2), .val (.int p3), .val (.int p4), .val (.int p5), .val (.ref b1), .val (.ref b10), .val (.ref b73), .unset, .unset, .unset] [(.int (0 : Int32))])) (fun t kt => ?_) ?_
      · show Steps p.tables e below (T18.setTop (mkF m 144 #[.val (.int p1), .val (.int p2), .val (.int p3), .val (.int p4), .val (.int p5), .val (.ref b1), .val (.ref b10), .val (.ref b73), .unset, .unset, .unset] [])) _
        refine XS.iconst X18.here hx rfl (hb hby at_144) ?_
        exact kt
      exact S145 _ _ _ _ X18 (Nat.le_trans (Nat.add_le_add_right hcl 0) (by decide)) (Nat.le_trans (Nat.add_le_add_right hsl 0) (by decide)) h e18 N18 (0 : Int32) b1 aw_8 af_8 al_8 ac_8 an_8 ap_8 b10 b73 wl fl ll cl nl pl vl tl K fc0 fc1 fc2 fc3 fc4 fc5 fc6 fc7 fc8 fc9 fc10 fc11 fc12 fc13 fc14 g_b1 g_aw_8 g_af_8 g_al_8 g_ac_8 g_an_8 g_ap_8 g_b10 g_b73 sz_b1 sz_aw_8 sz_af_8 sz_al_8 sz_ac_8 sz_an_8 sz_ap_8 sz_b10 sz_b73 ne_b1_aw_8 ne_b1_af_8 ne_b1_al_8 ne_b1_ac_8 ne_b1_an_8 ne_b1_ap_8 ne_aw_8_af_8 ne_aw_8_al_8 ne_aw_8_ac_8 ne_aw_8_an_8 ne_aw_8_ap_8 ne_af_8_al_8 ne_af_8_ac_8 ne_af_8_an_8 ne_af_8_ap_8 ne_al_8_ac_8 ne_al_8_an_8 ne_al_8_ap_8 ne_ac_8_an_8 ne_ac_8_ap_8 ne_an_8_ap_8 ne_b1_b10 ne_aw_8_b10 ne_af_8_b10 ne_al_8_b10 ne_ac_8_b10 ne_an_8_b10 ne_ap_8_b10 ne_b1_b73 ne_aw_8_b73 ne_af_8_b73 ne_al_8_b73 ne_ac_8_b73 ne_an_8_b73 ne_ap_8_b73 ne_b10_b73 hI hv ht hf
  have S89 : ∀ (T : State) (locs : List Loc) (cells slots : Nat) (X : Stand p l e room_1 s m #[(.int p1), (.int p2), (.int p3), (.int p4), (.int p5)] below meth c T locs cells slots) (hcl : cells ≤ 9) (hsl : slots ≤ 27) (h : Heap) (eT : T.heap = h) (N : Fr n0 locs)   (b1 : Addr) (aw_8 : Addr) (af_8 : Addr) (al_8 : Addr) (ac_8 : Addr) (an_8 : Addr) (ap_8 : Addr) (b10 : Addr) (b73 : Addr) (wl : List Int32) (fl : List Int32) (ll : List Int32) (cl : List Int32) (nl : List Int32) (pl : List Int32) (vl : List Int32) (tl : List Int32) (K : Keep h0 h []) (fc0 : Exa Z h b1 "com/example/knotwise/knotwise/Placement") (fc1 : Fld Z h b1 "com/example/knotwise/knotwise/Placement" "wives" "[I" (.ref aw_8)) (fc2 : Fld Z h b1 "com/example/knotwise/knotwise/Placement" "first" "[I" (.ref af_8)) (fc3 : Fld Z h b1 "com/example/knotwise/knotwise/Placement" "last" "[I" (.ref al_8)) (fc4 : Fld Z h b1 "com/example/knotwise/knotwise/Placement" "count" "[I" (.ref ac_8)) (fc5 : Fld Z h b1 "com/example/knotwise/knotwise/Placement" "next" "[I" (.ref an_8)) (fc6 : Fld Z h b1 "com/example/knotwise/knotwise/Placement" "previous" "[I" (.ref ap_8)) (fc7 : VA Z h aw_8 .int (wl.map Value.int)) (fc8 : VA Z h af_8 .int (fl.map Value.int)) (fc9 : VA Z h al_8 .int (ll.map Value.int)) (fc10 : VA Z h ac_8 .int (cl.map Value.int)) (fc11 : VA Z h an_8 .int (nl.map Value.int)) (fc12 : VA Z h ap_8 .int (pl.map Value.int)) (fc13 : VA Z h b10 .int (vl.map Value.int)) (fc14 : VA Z h b73 .int (tl.map Value.int)) (g_b1 : n0 ≤ b1) (g_aw_8 : n0 ≤ aw_8) (g_af_8 : n0 ≤ af_8) (g_al_8 : n0 ≤ al_8) (g_ac_8 : n0 ≤ ac_8) (g_an_8 : n0 ≤ an_8) (g_ap_8 : n0 ≤ ap_8) (g_b10 : n0 ≤ b10) (g_b73 : n0 ≤ b73) (sz_b1 : h0.size ≤ b1) (sz_aw_8 : h0.size ≤ aw_8) (sz_af_8 : h0.size ≤ af_8) (sz_al_8 : h0.size ≤ al_8) (sz_ac_8 : h0.size ≤ ac_8) (sz_an_8 : h0.size ≤ an_8) (sz_ap_8 : h0.size ≤ ap_8) (sz_b10 : h0.size ≤ b10) (sz_b73 : h0.size ≤ b73) (ne_b1_aw_8 : b1 ≠ aw_8) (ne_b1_af_8 : b1 ≠ af_8) (ne_b1_al_8 : b1 ≠ al_8) (ne_b1_ac_8 : b1 ≠ ac_8) (ne_b1_an_8 : b1 ≠ an_8) (ne_b1_ap_8 : b1 ≠ ap_8) (ne_aw_8_af_8 : aw_8 ≠ af_8) (ne_aw_8_al_8 : aw_8 ≠ al_8) (ne_aw_8_ac_8 : aw_8 ≠ ac_8) (ne_aw_8_an_8 : aw_8 ≠ an_8) (ne_aw_8_ap_8 : aw_8 ≠ ap_8) (ne_af_8_al_8 : af_8 ≠ al_8) (ne_af_8_ac_8 : af_8 ≠ ac_8) (ne_af_8_an_8 : af_8 ≠ an_8) (ne_af_8_ap_8 : af_8 ≠ ap_8) (ne_al_8_ac_8 : al_8 ≠ ac_8) (ne_al_8_an_8 : al_8 ≠ an_8) (ne_al_8_ap_8 : al_8 ≠ ap_8) (ne_ac_8_an_8 : ac_8 ≠ an_8) (ne_ac_8_ap_8 : ac_8 ≠ ap_8) (ne_an_8_ap_8 : an_8 ≠ ap_8) (ne_b1_b10 : b1 ≠ b10) (ne_aw_8_b10 : aw_8 ≠ b10) (ne_af_8_b10 : af_8 ≠ b10) (ne_al_8_b10 : al_8 ≠ b10) (ne_ac_8_b10 : ac_8 ≠ b10) (ne_an_8_b10 : an_8 ≠ b10) (ne_ap_8_b10 : ap_8 ≠ b10) (ne_b1_b73 : b1 ≠ b73) (ne_aw_8_b73 : aw_8 ≠ b73) (ne_af_8_b73 : af_8 ≠ b73) (ne_al_8_b73 : al_8 ≠ b73) (ne_ac_8_b73 : ac_8 ≠ b73) (ne_an_8_b73 : an_8 ≠ b73) (ne_ap_8_b73 : ap_8 ≠ b73) (ne_b10_b73 : b10 ≠ b73) (hI : own_I wl fl ll cl nl pl) (hv : vl.length = 3) (ht : tl.length = 3) (hf : RES = lawF_89 p5 wl fl ll cl nl pl vl tl), Go p e below s (Q0 Z p1 p2 p3 p4 p5 RES h0 n0) 32 128 T (mkF m 89 #[.val (.int p1), .val (.int p2), .val (.int p3), .val (.int p4), .val (.int p5), .val (.ref b1), .val (.ref b10), .val (.ref b73), .unset, .unset, .unset] []) := by
    intro T locs cells slots X hcl hsl h eT N b1 aw_8 af_8 al_8 ac_8 an_8 ap_8 b10 b73 wl fl ll cl nl pl vl tl K fc0 fc1 fc2 fc3 fc4 fc5 fc6 fc7 fc8 fc9 fc10 fc11 fc12 fc13 fc14 g_b1 g_aw_8 g_af_8 g_al_8 g_ac_8 g_an_8 g_ap_8 g_b10 g_b73 sz_b1 sz_aw_8 sz_af_8 sz_al_8 sz_ac_8 sz_an_8 sz_ap_8 sz_b10 sz_b73 ne_b1_aw_8 ne_b1_af_8 ne_b1_al_8 ne_b1_ac_8 ne_b1_an_8 ne_b1_ap_8 ne_aw_8_af_8 ne_aw_8_al_8 ne_aw_8_ac_8 ne_aw_8_an_8 ne_aw_8_ap_8 ne_af_8_al_8 ne_af_8_ac_8 ne_af_8_an_8 ne_af_8_ap_8 ne_al_8_ac_8 ne_al_8_an_8 ne_al_8_ap_8 ne_ac_8_an_8 ne_ac_8_ap_8 ne_an_8_ap_8 ne_b1_b10 ne_aw_8_b10 ne_af_8_b10 ne_al_8_b10 ne_ac_8_b10 ne_an_8_b10 ne_ap_8_b10 ne_b1_b73 ne_aw_8_b73 ne_af_8_b73 ne_al_8_b73 ne_ac_8_b73 ne_an_8_b73 ne_ap_8_b73 ne_b10_b73 hI hv ht hf
    have Zh : n0 ≤ h.size := Nat.le_trans Z0 K.1
    rw [lawF_89] at hf
    obtain ⟨_, _, ⟨T27, L27, k27, n27⟩, -, X27, ⟨Lc27, hQ27, l27, y27, z27⟩, st27⟩ := Jvm.LawKit.callS X hx (y := (⟨"com/example/knotwise/knotwise/PlacementPlacePinLaw", "step", "(Lcom/example/knotwise/knotwise/Placement;[I[III)V"⟩ : MethodName)) hown (mvT hZ (hw _ (List.mem_of_getElem? (i := 26) rfl))) (mvT hZ (hw _ (List.mem_of_getElem? (i := 27) rfl))) (mvT hZ (hw _ (List.mem_of_getElem? (i := 28) rfl))) (mvT hZ (hw _ (List.mem_of_getElem? (i := 29) rfl))) (by decide) (backOf (W := 0) (rm_stpF l Z a0 hw [] b1 b10 b73 p5 (4 : Int32) aw_8 af_8 al_8 ac_8 an_8 ap_8 wl fl ll cl nl pl vl tl h n0 Zh fc0 fc1 fc2 fc3 fc4 fc5 fc6 fc7 fc8 fc9 fc10 fc11 fc12 fc13 fc14 g_aw_8 g_af_8 g_al_8 g_ac_8 g_an_8 g_ap_8 g_b10 g_b73 ne_b1_aw_8 ne_b1_af_8 ne_b1_al_8 ne_b1_ac_8 ne_b1_an_8 ne_b1_ap_8 ne_aw_8_af_8 ne_aw_8_al_8 ne_aw_8_ac_8 ne_aw_8_an_8 ne_aw_8_ap_8 ne_af_8_al_8 ne_af_8_ac_8 ne_af_8_an_8 ne_af_8_ap_8 ne_al_8_ac_8 ne_al_8_an_8 ne_al_8_ap_8 ne_ac_8_an_8 ne_ac_8_ap_8 ne_an_8_ap_8 ne_b1_b10 ne_b1_b73 ne_aw_8_b10 ne_aw_8_b73 ne_af_8_b10 ne_af_8_b73 ne_al_8_b10 ne_al_8_b73 ne_ac_8_b10 ne_ac_8_b73 ne_an_8_b10 ne_an_8_b73 ne_ap_8_b10 ne_ap_8_b73 ne_b10_b73 hI hv ht) hZ (hw _ (List.mem_of_getElem? (i := 29) rfl)) (hw _ (List.mem_of_getElem? (i := 28) rfl)) (by decide) (by decide)) (g := (mkF m 98 #[.val (.int p1), .val (.int p2), .val (.int p3), .val (.int p4), .val (.int p5), .val (.ref b1), .val (.ref b10), .val (.ref b73), .unset, .unset, .unset] [(.int (4 : Int32)), (.int p5), (.ref b73), (.ref b10), (.ref b1)])) rfl (by rw [hml]; rfl) (argsL := [(.ref b1), (.ref b10), (.ref b73), (.int p5), (.int (4 : Int32))]) (rest := []) (lenOf pd_3 rfl) rfl (by show 2 * 0 + _ ≤ _; exact Nat.le_of_eq rfl) (hb hby at_98) (fun _ _ => ⟨rfl, eT, (Nat.le_trans (Nat.add_le_add_right hcl 0) (by decide)), (Nat.le_trans (Nat.add_le_add_right hsl 0) (by decide))⟩)
    dsimp only [Pt.U, Pt.locs, Pt.cells, Pt.slots] at X27 l27 y27 z27 st27 hQ27
    subst l27 y27 z27
    obtain ⟨rfl, N27q, Kq27, pf27_0, pf27_1, pf27_2, pf27_3, pf27_4, pf27_5, pf27_6, pf27_7⟩ := hQ27
    have G28 : Exa Z T27.heap b1 "com/example/knotwise/knotwise/Placement" := Exa.keep fc0 Kq27
    have G29 : Fld Z T27.heap b1 "com/example/knotwise/knotwise/Placement" "wives" "[I" (.ref aw_8) := fc1.keep Kq27 (ninS ne_b1_aw_8 (ninS ne_b1_af_8 (ninS ne_b1_al_8 (ninS ne_b1_ac_8 (ninS ne_b1_an_8 (ninS ne_b1_ap_8 (ninS ne_b1_b10 (ninS ne_b1_b73 nin0))))))))
    have G30 : Fld Z T27.heap b1 "com/example/knotwise/knotwise/Placement" "first" "[I" (.ref af_8) := fc2.keep Kq27 (ninS ne_b1_aw_8 (ninS ne_b1_af_8 (ninS ne_b1_al_8 (ninS ne_b1_ac_8 (ninS ne_b1_an_8 (ninS ne_b1_ap_8 (ninS ne_b1_b10 (ninS ne_b1_b73 nin0))))))))
    have G31 : Fld Z T27.heap b1 "com/example/knotwise/knotwise/Placement" "last" "[I" (.ref al_8) := fc3.keep Kq27 (ninS ne_b1_aw_8 (ninS ne_b1_af_8 (ninS ne_b1_al_8 (ninS ne_b1_ac_8 (ninS ne_b1_an_8 (ninS ne_b1_ap_8 (ninS ne_b1_b10 (ninS ne_b1_b73 nin0))))))))
    have G32 : Fld Z T27.heap b1 "com/example/knotwise/knotwise/Placement" "count" "[I" (.ref ac_8) := fc4.keep Kq27 (ninS ne_b1_aw_8 (ninS ne_b1_af_8 (ninS ne_b1_al_8 (ninS ne_b1_ac_8 (ninS ne_b1_an_8 (ninS ne_b1_ap_8 (ninS ne_b1_b10 (ninS ne_b1_b73 nin0))))))))
    have G33 : Fld Z T27.heap b1 "com/example/knotwise/knotwise/Placement" "next" "[I" (.ref an_8) := fc5.keep Kq27 (ninS ne_b1_aw_8 (ninS ne_b1_af_8 (ninS ne_b1_al_8 (ninS ne_b1_ac_8 (ninS ne_b1_an_8 (ninS ne_b1_ap_8 (ninS ne_b1_b10 (ninS ne_b1_b73 nin0))))))))
    have G34 : Fld Z T27.heap b1 "com/example/knotwise/knotwise/Placement" "previous" "[I" (.ref ap_8) := fc6.keep Kq27 (ninS ne_b1_aw_8 (ninS ne_b1_af_8 (ninS ne_b1_al_8 (ninS ne_b1_ac_8 (ninS ne_b1_an_8 (ninS ne_b1_ap_8 (ninS ne_b1_b10 (ninS ne_b1_b73 nin0))))))))
    have K27 : Keep h0 T27.heap [] := Keep.trans K Kq27 (allS (Or.inr sz_aw_8) (allS (Or.inr sz_af_8) (allS (Or.inr sz_al_8) (allS (Or.inr sz_ac_8) (allS (Or.inr sz_an_8) (allS (Or.inr sz_ap_8) (allS (Or.inr sz_b10) (allS (Or.inr sz_b73) all0))))))))
    have Z27 : n0 ≤ T27.heap.size := Nat.le_trans Z0 K27.1
    have N27 := Fr.app N N27q
    refine Go.step (T' := T27) (f' := (mkF m 101 #[.val (.int p1), .val (.int p2), .val (.int p3), .val (.int p4), .val (.int p5), .val (.ref b1), .val (.ref b10), .val (.ref b73), .unset, .unset, .unset] [])) (fun t kt => ?_) ?_
    · show Steps p.tables e below (T.setTop (mkF m 89 #[.val (.int p1), .val (.int p2), .val (.int p3), .val (.int p4), .val (.int p5), .val (.ref b1), .val (.ref b10), .val (.ref b73), .unset, .unset, .unset] [])) _
      refine XS.aload X.here hx rfl (hb hby at_89) rfl rfl ?_
      show Steps p.tables e below (T.setTop (mkF m 91 #[.val (.int p1), .val (.int p2), .val (.int p3), .val (.int p4), .val (.int p5), .val (.ref b1), .val (.ref b10), .val (.ref b73), .unset, .unset, .unset] [(.ref b1)])) _
      refine XS.aload X.here hx rfl (hb hby at_91) rfl rfl ?_
      show Steps p.tables e below (T.setTop (mkF m 93 #[.val (.int p1), .val (.int p2), .val (.int p3), .val (.int p4), .val (.int p5), .val (.ref b1), .val (.ref b10), .val (.ref b73), .unset, .unset, .unset] [(.ref b10), (.ref b1)])) _
      refine XS.aload X.here hx rfl (hb hby at_93) rfl rfl ?_
      show Steps p.tables e below (T.setTop (mkF m 95 #[.val (.int p1), .val (.int p2), .val (.int p3), .val (.int p4), .val (.int p5), .val (.ref b1), .val (.ref b10), .val (.ref b73), .unset, .unset, .unset] [(.ref b73), (.ref b10), (.ref b1)])) _
      refine XS.iload X.here hx rfl (hb hby at_95) rfl ?_
      show Steps p.tables e below (T.setTop (mkF m 97 #[.val (.int p1), .val (.int p2), .val (.int p3), .val (.int p4), .val (.int p5), .val (.ref b1), .val (.ref b10), .val (.ref b73), .unset, .unset, .unset] [(.int p5), (.ref b73), (.ref b10), (.ref b1)])) _
      refine XS.iconst X.here hx rfl (hb hby at_97) ?_
      show Steps p.tables e below (T.setTop (mkF m 98 #[.val (.int p1), .val (.int p2), .val (.int p3), .val (.int p4), .val (.int p5), .val (.ref b1), .val (.ref b10), .val (.ref b73), .unset, .unset, .unset] [(.int (4 : Int32)), (.int p5), (.ref b73), (.ref b10), (.ref b1)])) _
      refine st27 _ ?_
      exact kt
    exact S101 _ _ _ _ X27 (Nat.le_trans (Nat.add_le_add_right hcl 0) (by decide)) (Nat.le_trans (Nat.add_le_add_right hsl 0) (by decide)) T27.heap rfl N27 b1 aw_8 af_8 al_8 ac_8 an_8 ap_8 b10 b73 (stpF p5 (4 : Int32) wl fl ll cl nl pl vl tl).1 (stpF p5 (4 : Int32) wl fl ll cl nl pl vl tl).2.1 (stpF p5 (4 : Int32) wl fl ll cl nl pl vl tl).2.2.1 (stpF p5 (4 : Int32) wl fl ll cl nl pl vl tl).2.2.2.1 (stpF p5 (4 : Int32) wl fl ll cl nl pl vl tl).2.2.2.2.1 (stpF p5 (4 : Int32) wl fl ll cl nl pl vl tl).2.2.2.2.2.1 (stpF p5 (4 : Int32) wl fl ll cl nl pl vl tl).2.2.2.2.2.2.1 (stpF p5 (4 : Int32) wl fl ll cl nl pl vl tl).2.2.2.2.2.2.2 K27 G28 G29 G30 G31 G32 G33 G34 pf27_0 pf27_1 pf27_2 pf27_3 pf27_4 pf27_5 pf27_6 pf27_7 g_b1 g_aw_8 g_af_8 g_al_8 g_ac_8 g_an_8 g_ap_8 g_b10 g_b73 sz_b1 sz_aw_8 sz_af_8 sz_al_8 sz_ac_8 sz_an_8 sz_ap_8 sz_b10 sz_b73 ne_b1_aw_8 ne_b1_af_8 ne_b1_al_8 ne_b1_ac_8 ne_b1_an_8 ne_b1_ap_8 ne_aw_8_af_8 ne_aw_8_al_8 ne_aw_8_ac_8 ne_aw_8_an_8 ne_aw_8_ap_8 ne_af_8_al_8 ne_af_8_ac_8 ne_af_8_an_8 ne_af_8_ap_8 ne_al_8_ac_8 ne_al_8_an_8 ne_al_8_ap_8 ne_ac_8_an_8 ne_ac_8_ap_8 ne_an_8_ap_8 ne_b1_b10 ne_aw_8_b10 ne_af_8_b10 ne_al_8_b10 ne_ac_8_b10 ne_an_8_b10 ne_ap_8_b10 ne_b1_b73 ne_aw_8_b73 ne_af_8_b73 ne_al_8_b73 ne_ac_8_b73 ne_an_8_b73 ne_ap_8_b73 ne_b10_b73 (own_sinv p5 _ _ _ _ _ _ _ _ _ hI hv ht).1 (own_sinv p5 _ _ _ _ _ _ _ _ _ hI hv ht).2.1 (own_sinv p5 _ _ _ _ _ _ _ _ _ hI hv ht).2.2 hf
  have S78 : ∀ (T : State) (locs : List Loc) (cells slots : Nat) (X : Stand p l e room_1 s m #[(.int p1), (.int p2), (.int p3), (.int p4), (.int p5)] below meth c T locs cells slots) (hcl : cells ≤ 9) (hsl : slots ≤ 27) (h : Heap) (eT : T.heap = h) (N : Fr n0 locs)   (b1 : Addr) (aw_8 : Addr) (af_8 : Addr) (al_8 : Addr) (ac_8 : Addr) (an_8 : Addr) (ap_8 : Addr) (b10 : Addr) (b73 : Addr) (wl : List Int32) (fl : List Int32) (ll : List Int32) (cl : List Int32) (nl : List Int32) (pl : List Int32) (vl : List Int32) (tl : List Int32) (K : Keep h0 h []) (fc0 : Exa Z h b1 "com/example/knotwise/knotwise/Placement") (fc1 : Fld Z h b1 "com/example/knotwise/knotwise/Placement" "wives" "[I" (.ref aw_8)) (fc2 : Fld Z h b1 "com/example/knotwise/knotwise/Placement" "first" "[I" (.ref af_8)) (fc3 : Fld Z h b1 "com/example/knotwise/knotwise/Placement" "last" "[I" (.ref al_8)) (fc4 : Fld Z h b1 "com/example/knotwise/knotwise/Placement" "count" "[I" (.ref ac_8)) (fc5 : Fld Z h b1 "com/example/knotwise/knotwise/Placement" "next" "[I" (.ref an_8)) (fc6 : Fld Z h b1 "com/example/knotwise/knotwise/Placement" "previous" "[I" (.ref ap_8)) (fc7 : VA Z h aw_8 .int (wl.map Value.int)) (fc8 : VA Z h af_8 .int (fl.map Value.int)) (fc9 : VA Z h al_8 .int (ll.map Value.int)) (fc10 : VA Z h ac_8 .int (cl.map Value.int)) (fc11 : VA Z h an_8 .int (nl.map Value.int)) (fc12 : VA Z h ap_8 .int (pl.map Value.int)) (fc13 : VA Z h b10 .int (vl.map Value.int)) (fc14 : VA Z h b73 .int (tl.map Value.int)) (g_b1 : n0 ≤ b1) (g_aw_8 : n0 ≤ aw_8) (g_af_8 : n0 ≤ af_8) (g_al_8 : n0 ≤ al_8) (g_ac_8 : n0 ≤ ac_8) (g_an_8 : n0 ≤ an_8) (g_ap_8 : n0 ≤ ap_8) (g_b10 : n0 ≤ b10) (g_b73 : n0 ≤ b73) (sz_b1 : h0.size ≤ b1) (sz_aw_8 : h0.size ≤ aw_8) (sz_af_8 : h0.size ≤ af_8) (sz_al_8 : h0.size ≤ al_8) (sz_ac_8 : h0.size ≤ ac_8) (sz_an_8 : h0.size ≤ an_8) (sz_ap_8 : h0.size ≤ ap_8) (sz_b10 : h0.size ≤ b10) (sz_b73 : h0.size ≤ b73) (ne_b1_aw_8 : b1 ≠ aw_8) (ne_b1_af_8 : b1 ≠ af_8) (ne_b1_al_8 : b1 ≠ al_8) (ne_b1_ac_8 : b1 ≠ ac_8) (ne_b1_an_8 : b1 ≠ an_8) (ne_b1_ap_8 : b1 ≠ ap_8) (ne_aw_8_af_8 : aw_8 ≠ af_8) (ne_aw_8_al_8 : aw_8 ≠ al_8) (ne_aw_8_ac_8 : aw_8 ≠ ac_8) (ne_aw_8_an_8 : aw_8 ≠ an_8) (ne_aw_8_ap_8 : aw_8 ≠ ap_8) (ne_af_8_al_8 : af_8 ≠ al_8) (ne_af_8_ac_8 : af_8 ≠ ac_8) (ne_af_8_an_8 : af_8 ≠ an_8) (ne_af_8_ap_8 : af_8 ≠ ap_8) (ne_al_8_ac_8 : al_8 ≠ ac_8) (ne_al_8_an_8 : al_8 ≠ an_8) (ne_al_8_ap_8 : al_8 ≠ ap_8) (ne_ac_8_an_8 : ac_8 ≠ an_8) (ne_ac_8_ap_8 : ac_8 ≠ ap_8) (ne_an_8_ap_8 : an_8 ≠ ap_8) (ne_b1_b10 : b1 ≠ b10) (ne_aw_8_b10 : aw_8 ≠ b10) (ne_af_8_b10 : af_8 ≠ b10) (ne_al_8_b10 : al_8 ≠ b10) (ne_ac_8_b10 : ac_8 ≠ b10) (ne_an_8_b10 : an_8 ≠ b10) (ne_ap_8_b10 : ap_8 ≠ b10) (ne_b1_b73 : b1 ≠ b73) (ne_aw_8_b73 : aw_8 ≠ b73) (ne_af_8_b73 : af_8 ≠ b73) (ne_al_8_b73 : al_8 ≠ b73) (ne_ac_8_b73 : ac_8 ≠ b73) (ne_an_8_b73 : an_8 ≠ b73) (ne_ap_8_b73 : ap_8 ≠ b73) (ne_b10_b73 : b10 ≠ b73) (hI : own_I wl fl ll cl nl pl) (hv : vl.length = 3) (ht : tl.length = 3) (hf : RES = lawF_78 p4 p5 wl fl ll cl nl pl vl tl), Go p e below s (Q0 Z p1 p2 p3 p4 p5 RES h0 n0) 32 128 T (mkF m 78 #[.val (.int p1), .val (.int p2), .val (.int p3), .val (.int p4), .val (.int p5), .val (.ref b1), .val (.ref b10), .val (.ref b73), .unset, .unset, .unset] []) := by
    intro T locs cells slots X hcl hsl h eT N b1 aw_8 af_8 al_8 ac_8 an_8 ap_8 b10 b73 wl fl ll cl nl pl vl tl K fc0 fc1 fc2 fc3 fc4 fc5 fc6 fc7 fc8 fc9 fc10 fc11 fc12 fc13 fc14 g_b1 g_aw_8 g_af_8 g_al_8 g_ac_8 g_an_8 g_ap_8 g_b10 g_b73 sz_b1 sz_aw_8 sz_af_8 sz_al_8 sz_ac_8 sz_an_8 sz_ap_8 sz_b10 sz_b73 ne_b1_aw_8 ne_b1_af_8 ne_b1_al_8 ne_b1_ac_8 ne_b1_an_8 ne_b1_ap_8 ne_aw_8_af_8 ne_aw_8_al_8 ne_aw_8_ac_8 ne_aw_8_an_8 ne_aw_8_ap_8 ne_af_8_al_8 ne_af_8_ac_8 ne_af_8_an_8 ne_af_8_ap_8 ne_al_8_ac_8 ne_al_8_an_8 ne_al_8_ap_8 ne_ac_8_an_8 ne_ac_8_ap_8 ne_an_8_ap_8 ne_b1_b10 ne_aw_8_b10 ne_af_8_b10 ne_al_8_b10 ne_ac_8_b10 ne_an_8_b10 ne_ap_8_b10 ne_b1_b73 ne_aw_8_b73 ne_af_8_b73 ne_al_8_b73 ne_ac_8_b73 ne_an_8_b73 ne_ap_8_b73 ne_b10_b73 hI hv ht hf
    have Zh : n0 ≤ h.size := Nat.le_trans Z0 K.1
    rw [lawF_78] at hf
    obtain ⟨_, _, ⟨T35, L35, k35, n35⟩, -, X35, ⟨Lc35, hQ35, l35, y35, z35⟩, st35⟩ := Jvm.LawKit.callS X hx (y := (⟨"com/example/knotwise/knotwise/PlacementPlacePinLaw", "step", "(Lcom/example/knotwise/knotwise/Placement;[I[III)V"⟩ : MethodName)) hown (mvT hZ (hw _ (List.mem_of_getElem? (i := 26) rfl))) (mvT hZ (hw _ (List.mem_of_getElem? (i := 27) rfl))) (mvT hZ (hw _ (List.mem_of_getElem? (i := 28) rfl))) (mvT hZ (hw _ (List.mem_of_getElem? (i := 29) rfl))) (by decide) (backOf (W := 0) (rm_stpF l Z a0 hw [] b1 b10 b73 p4 (3 : Int32) aw_8 af_8 al_8 ac_8 an_8 ap_8 wl fl ll cl nl pl vl tl h n0 Zh fc0 fc1 fc2 fc3 fc4 fc5 fc6 fc7 fc8 fc9 fc10 fc11 fc12 fc13 fc14 g_aw_8 g_af_8 g_al_8 g_ac_8 g_an_8 g_ap_8 g_b10 g_b73 ne_b1_aw_8 ne_b1_af_8 ne_b1_al_8 ne_b1_ac_8 ne_b1_an_8 ne_b1_ap_8 ne_aw_8_af_8 ne_aw_8_al_8 ne_aw_8_ac_8 ne_aw_8_an_8 ne_aw_8_ap_8 ne_af_8_al_8 ne_af_8_ac_8 ne_af_8_an_8 ne_af_8_ap_8 ne_al_8_ac_8 ne_al_8_an_8 ne_al_8_ap_8 ne_ac_8_an_8 ne_ac_8_ap_8 ne_an_8_ap_8 ne_b1_b10 ne_b1_b73 ne_aw_8_b10 ne_aw_8_b73 ne_af_8_b10 ne_af_8_b73 ne_al_8_b10 ne_al_8_b73 ne_ac_8_b10 ne_ac_8_b73 ne_an_8_b10 ne_an_8_b73 ne_ap_8_b10 ne_ap_8_b73 ne_b10_b73 hI hv ht) hZ (hw _ (List.mem_of_getElem? (i := 29) rfl)) (hw _ (List.mem_of_getElem? (i := 28) rfl)) (by decide) (by decide)) (g := (mkF m 86 #[.val (.int p1), .val (.int p2), .val (.int p3), .val (.int p4), .val (.int p5), .val (.ref b1), .val (.ref b10), .val (.ref b73), .unset, .unset, .unset] [(.int (3 : Int32)), (.int p4), (.ref b73), (.ref b10), (.ref b1)])) rfl (by rw [hml]; rfl) (argsL := [(.ref b1), (.ref b10), (.ref b73), (.int p4), (.int (3 : Int32))]) (rest := []) (lenOf pd_3 rfl) rfl (by show 2 * 0 + _ ≤ _; exact Nat.le_of_eq rfl) (hb hby at_86) (fun _ _ => ⟨rfl, eT, (Nat.le_trans (Nat.add_le_add_right hcl 0) (by decide)), (Nat.le_trans (Nat.add_le_add_right hsl 0) (by decide))⟩)
    dsimp only [Pt.U, Pt.locs, Pt.cells, Pt.slots] at X35 l35 y35 z35 st35 hQ35
    subst l35 y35 z35
    obtain ⟨rfl, N35q, Kq35, pf35_0, pf35_1, pf35_2, pf35_3, pf35_4, pf35_5, pf35_6, pf35_7⟩ := hQ35
    have G36 : Exa Z T35.heap b1 "com/example/knotwise/knotwise/Placement" := Exa.keep fc0 Kq35
    have G37 : Fld Z T35.heap b1 "com/example/knotwise/knotwise/Placement" "wives" "[I" (.ref aw_8) := fc1.keep Kq35 (ninS ne_b1_aw_8 (ninS ne_b1_af_8 (ninS ne_b1_al_8 (ninS ne_b1_ac_8 (ninS ne_b1_an_8 (ninS ne_b1_ap_8 (ninS ne_b1_b10 (ninS ne_b1_b73 nin0))))))))
    have G38 : Fld Z T35.heap b1 "com/example/knotwise/knotwise/Placement" "first" "[I" (.ref af_8) := fc2.keep Kq35 (ninS ne_b1_aw_8 (ninS ne_b1_af_8 (ninS ne_b1_al_8 (ninS ne_b1_ac_8 (ninS ne_b1_an_8 (ninS ne_b1_ap_8 (ninS ne_b1_b10 (ninS ne_b1_b73 nin0))))))))
    have G39 : Fld Z T35.heap b1 "com/example/knotwise/knotwise/Placement" "last" "[I" (.ref al_8) := fc3.keep Kq35 (ninS ne_b1_aw_8 (ninS ne_b1_af_8 (ninS ne_b1_al_8 (ninS ne_b1_ac_8 (ninS ne_b1_an_8 (ninS ne_b1_ap_8 (ninS ne_b1_b10 (ninS ne_b1_b73 nin0))))))))
    have G40 : Fld Z T35.heap b1 "com/example/knotwise/knotwise/Placement" "count" "[I" (.ref ac_8) := fc4.keep Kq35 (ninS ne_b1_aw_8 (ninS ne_b1_af_8 (ninS ne_b1_al_8 (ninS ne_b1_ac_8 (ninS ne_b1_an_8 (ninS ne_b1_ap_8 (ninS ne_b1_b10 (ninS ne_b1_b73 nin0))))))))
    have G41 : Fld Z T35.heap b1 "com/example/knotwise/knotwise/Placement" "next" "[I" (.ref an_8) := fc5.keep Kq35 (ninS ne_b1_aw_8 (ninS ne_b1_af_8 (ninS ne_b1_al_8 (ninS ne_b1_ac_8 (ninS ne_b1_an_8 (ninS ne_b1_ap_8 (ninS ne_b1_b10 (ninS ne_b1_b73 nin0))))))))
    have G42 : Fld Z T35.heap b1 "com/example/knotwise/knotwise/Placement" "previous" "[I" (.ref ap_8) := fc6.keep Kq35 (ninS ne_b1_aw_8 (ninS ne_b1_af_8 (ninS ne_b1_al_8 (ninS ne_b1_ac_8 (ninS ne_b1_an_8 (ninS ne_b1_ap_8 (ninS ne_b1_b10 (ninS ne_b1_b73 nin0))))))))
    have K35 : Keep h0 T35.heap [] := Keep.trans K Kq35 (allS (Or.inr sz_aw_8) (allS (Or.inr sz_af_8) (allS (Or.inr sz_al_8) (allS (Or.inr sz_ac_8) (allS (Or.inr sz_an_8) (allS (Or.inr sz_ap_8) (allS (Or.inr sz_b10) (allS (Or.inr sz_b73) all0))))))))
    have Z35 : n0 ≤ T35.heap.size := Nat.le_trans Z0 K35.1
    have N35 := Fr.app N N35q
    refine Go.step (T' := T35) (f' := (mkF m 89 #[.val (.int p1), .val (.int p2), .val (.int p3), .val (.int p4), .val (.int p5), .val (.ref b1), .val (.ref b10), .val (.ref b73), .unset, .unset, .unset] [])) (fun t kt => ?_) ?_
    · show Steps p.tables e below (T.setTop (mkF m 78 #[.val (.int p1), .val (.int p2), .val (.int p3), .val (.int p4), .val (.int p5), .val (.ref b1), .val (.ref b10), .val (.ref b73), .unset, .unset, .unset] [])) _
      refine XS.aload X.here hx rfl (hb hby at_78) rfl rfl ?_
      show Steps p.tables e below (T.setTop (mkF m 80 #[.val (.int p1), .val (.int p2), .val (.int p3), .val (.int p4), .val (.int p5), .val (.ref b1), .val (.ref b10), .val (.ref b73), .unset, .unset, .unset] [(.ref b1)])) _
      refine XS.aload X.here hx rfl (hb hby at_80) rfl rfl ?_
      show Steps p.tables e below (T.setTop (mkF m 82 #[.val (.int p1), .val (.int p2), .val (.int p3), .val (.int p4), .val (.int p5), .val (.ref b1), .val (.ref b10), .val (.ref b73), .unset, .unset, .unset] [(.ref b10), (.ref b1)])) _
      refine XS.aload X.here hx rfl (hb hby at_82) rfl rfl ?_
      show Steps p.tables e below (T.setTop (mkF m 84 #[.val (.int p1), .val (.int p2), .val (.int p3), .val (.int p4), .val (.int p5), .val (.ref b1), .val (.ref b10), .val (.ref b73), .unset, .unset, .unset] [(.ref b73), (.ref b10), (.ref b1)])) _
      refine XS.iloadN X.here hx rfl (hb hby at_84) rfl ?_
      show Steps p.tables e below (T.setTop (mkF m 85 #[.val (.int p1), .val (.int p2), .val (.int p3), .val (.int p4), .val (.int p5), .val (.ref b1), .val (.ref b10), .val (.ref b73), .unset, .unset, .unset] [(.int p4), (.ref b73), (.ref b10), (.ref b1)])) _
      refine XS.iconst X.here hx rfl (hb hby at_85) ?_
      show Steps p.tables e below (T.setTop (mkF m 86 #[.val (.int p1), .val (.int p2), .val (.int p3), .val (.int p4), .val (.int p5), .val (.ref b1), .val (.ref b10), .val (.ref b73), .unset, .unset, .unset] [(.int (3 : Int32)), (.int p4), (.ref b73), (.ref b10), (.ref b1)])) _
      refine st35 _ ?_
      exact kt
    exact S89 _ _ _ _ X35 (Nat.le_trans (Nat.add_le_add_right hcl 0) (by decide)) (Nat.le_trans (Nat.add_le_add_right hsl 0) (by decide)) T35.heap rfl N35 b1 aw_8 af_8 al_8 ac_8 an_8 ap_8 b10 b73 (stpF p4 (3 : Int32) wl fl ll cl nl pl vl tl).1 (stpF p4 (3 : Int32) wl fl ll cl nl pl vl tl).2.1 (stpF p4 (3 : Int32) wl fl ll cl nl pl vl tl).2.2.1 (stpF p4 (3 : Int32) wl fl ll cl nl pl vl tl).2.2.2.1 (stpF p4 (3 : Int32) wl fl ll cl nl pl vl tl).2.2.2.2.1 (stpF p4 (3 : Int32) wl fl ll cl nl pl vl tl).2.2.2.2.2.1 (stpF p4 (3 : Int32) wl fl ll cl nl pl vl tl).2.2.2.2.2.2.1 (stpF p4 (3 : Int32) wl fl ll cl nl pl vl tl).2.2.2.2.2.2.2 K35 G36 G37 G38 G39 G40 G41 G42 pf35_0 pf35_1 pf35_2 pf35_3 pf35_4 pf35_5 pf35_6 pf35_7 g_b1 g_aw_8 g_af_8 g_al_8 g_ac_8 g_an_8 g_ap_8 g_b10 g_b73 sz_b1 sz_aw_8 sz_af_8 sz_al_8 sz_ac_8 sz_an_8 sz_ap_8 sz_b10 sz_b73 ne_b1_aw_8 ne_b1_af_8 ne_b1_al_8 ne_b1_ac_8 ne_b1_an_8 ne_b1_ap_8 ne_aw_8_af_8 ne_aw_8_al_8 ne_aw_8_ac_8 ne_aw_8_an_8 ne_aw_8_ap_8 ne_af_8_al_8 ne_af_8_ac_8 ne_af_8_an_8 ne_af_8_ap_8 ne_al_8_ac_8 ne_al_8_an_8 ne_al_8_ap_8 ne_ac_8_an_8 ne_ac_8_ap_8 ne_an_8_ap_8 ne_b1_b10 ne_aw_8_b10 ne_af_8_b10 ne_al_8_b10 ne_ac_8_b10 ne_an_8_b10 ne_ap_8_b10 ne_b1_b73 ne_aw_8_b73 ne_af_8_b73 ne_al_8_b73 ne_ac_8_b73 ne_an_8_b73 ne_ap_8_b73 ne_b10_b73 (own_sinv p4 _ _ _ _ _ _ _ _ _ hI hv ht).1 (own_sinv p4 _ _ _ _ _ _ _ _ _ hI hv ht).2.1 (own_sinv p4 _ _ _ _ _ _ _ _ _ hI hv ht).2.2 hf
  have S67 : ∀ (T : State) (locs : List Loc) (cells slots : Nat) (X : Stand p l e room_1 s m #[(.int p1), (.int p2), (.int p3), (.int p4), (.int p5)] below meth c T locs cells slots) (hcl : cells ≤ 9) (hsl : slots ≤ 27) (h : Heap) (eT : T.heap = h) (N : Fr n0 locs)   (b1 : Addr) (aw_8 : Addr) (af_8 : Addr) (al_8 : Addr) (ac_8 : Addr) (an_8 : Addr) (ap_8 : Addr) (b10 : Addr) (b73 : Addr) (wl : List Int32) (fl : List Int32) (ll : List Int32) (cl : List Int32) (nl : List Int32) (pl : List Int32) (vl : List Int32) (tl : List Int32) (K : Keep h0 h []) (fc0 : Exa Z h b1 "com/example/knotwise/knotwise/Placement") (fc1 : Fld Z h b1 "com/example/knotwise/knotwise/Placement" "wives" "[I" (.ref aw_8)) (fc2 : Fld Z h b1 "com/example/knotwise/knotwise/Placement" "first" "[I" (.ref af_8)) (fc3 : Fld Z h b1 "com/example/knotwise/knotwise/Placement" "last" "[I" (.ref al_8)) (fc4 : Fld Z h b1 "com/example/knotwise/knotwise/Placement" "count" "[I" (.ref ac_8)) (fc5 : Fld Z h b1 "com/example/knotwise/knotwise/Placement" "next" "[I" (.ref an_8)) (fc6 : Fld Z h b1 "com/example/knotwise/knotwise/Placement" "previous" "[I" (.ref ap_8)) (fc7 : VA Z h aw_8 .int (wl.map Value.int)) (fc8 : VA Z h af_8 .int (fl.map Value.int)) (fc9 : VA Z h al_8 .int (ll.map Value.int)) (fc10 : VA Z h ac_8 .int (cl.map Value.int)) (fc11 : VA Z h an_8 .int (nl.map Value.int)) (fc12 : VA Z h ap_8 .int (pl.map Value.int)) (fc13 : VA Z h b10 .int (vl.map Value.int)) (fc14 : VA Z h b73 .int (tl.map Value.int)) (g_b1 : n0 ≤ b1) (g_aw_8 : n0 ≤ aw_8) (g_af_8 : n0 ≤ af_8) (g_al_8 : n0 ≤ al_8) (g_ac_8 : n0 ≤ ac_8) (g_an_8 : n0 ≤ an_8) (g_ap_8 : n0 ≤ ap_8) (g_b10 : n0 ≤ b10) (g_b73 : n0 ≤ b73) (sz_b1 : h0.size ≤ b1) (sz_aw_8 : h0.size ≤ aw_8) (sz_af_8 : h0.size ≤ af_8) (sz_al_8 : h0.size ≤ al_8) (sz_ac_8 : h0.size ≤ ac_8) (sz_an_8 : h0.size ≤ an_8) (sz_ap_8 : h0.size ≤ ap_8) (sz_b10 : h0.size ≤ b10) (sz_b73 : h0.size ≤ b73) (ne_b1_aw_8 : b1 ≠ aw_8) (ne_b1_af_8 : b1 ≠ af_8) (ne_b1_al_8 : b1 ≠ al_8) (ne_b1_ac_8 : b1 ≠ ac_8) (ne_b1_an_8 : b1 ≠ an_8) (ne_b1_ap_8 : b1 ≠ ap_8) (ne_aw_8_af_8 : aw_8 ≠ af_8) (ne_aw_8_al_8 : aw_8 ≠ al_8) (ne_aw_8_ac_8 : aw_8 ≠ ac_8) (ne_aw_8_an_8 : aw_8 ≠ an_8) (ne_aw_8_ap_8 : aw_8 ≠ ap_8) (ne_af_8_al_8 : af_8 ≠ al_8) (ne_af_8_ac_8 : af_8 ≠ ac_8) (ne_af_8_an_8 : af_8 ≠ an_8) (ne_af_8_ap_8 : af_8 ≠ ap_8) (ne_al_8_ac_8 : al_8 ≠ ac_8) (ne_al_8_an_8 : al_8 ≠ an_8) (ne_al_8_ap_8 : al_8 ≠ ap_8) (ne_ac_8_an_8 : ac_8 ≠ an_8) (ne_ac_8_ap_8 : ac_8 ≠ ap_8) (ne_an_8_ap_8 : an_8 ≠ ap_8) (ne_b1_b10 : b1 ≠ b10) (ne_aw_8_b10 : aw_8 ≠ b10) (ne_af_8_b10 : af_8 ≠ b10) (ne_al_8_b10 : al_8 ≠ b10) (ne_ac_8_b10 : ac_8 ≠ b10) (ne_an_8_b10 : an_8 ≠ b10) (ne_ap_8_b10 : ap_8 ≠ b10) (ne_b1_b73 : b1 ≠ b73) (ne_aw_8_b73 : aw_8 ≠ b73) (ne_af_8_b73 : af_8 ≠ b73) (ne_al_8_b73 : al_8 ≠ b73) (ne_ac_8_b73 : ac_8 ≠ b73) (ne_an_8_b73 : an_8 ≠ b73) (ne_ap_8_b73 : ap_8 ≠ b73) (ne_b10_b73 : b10 ≠ b73) (hI : own_I wl fl ll cl nl pl) (hv : vl.length = 3) (ht : tl.length = 3) (hf : RES = lawF_67 p3 p4 p5 wl fl ll cl nl pl vl tl), Go p e below s (Q0 Z p1 p2 p3 p4 p5 RES h0 n0) 32 128 T (mkF m 67 #[.val (.int p1), .val (.int p2), .val (.int p3), .val (.int p4), .val (.int p5), .val (.ref b1), .val (.ref b10), .val (.ref b73), .unset, .unset, .unset] []) := by
    intro T locs cells slots X hcl hsl h eT N b1 aw_8 af_8 al_8 ac_8 an_8 ap_8 b10 b73 wl fl ll cl nl pl vl tl K fc0 fc1 fc2 fc3 fc4 fc5 fc6 fc7 fc8 fc9 fc10 fc11 fc12 fc13 fc14 g_b1 g_aw_8 g_af_8 g_al_8 g_ac_8 g_an_8 g_ap_8 g_b10 g_b73 sz_b1 sz_aw_8 sz_af_8 sz_al_8 sz_ac_8 sz_an_8 sz_ap_8 sz_b10 sz_b73 ne_b1_aw_8 ne_b1_af_8 ne_b1_al_8 ne_b1_ac_8 ne_b1_an_8 ne_b1_ap_8 ne_aw_8_af_8 ne_aw_8_al_8 ne_aw_8_ac_8 ne_aw_8_an_8 ne_aw_8_ap_8 ne_af_8_al_8 ne_af_8_ac_8 ne_af_8_an_8 ne_af_8_ap_8 ne_al_8_ac_8 ne_al_8_an_8 ne_al_8_ap_8 ne_ac_8_an_8 ne_ac_8_ap_8 ne_an_8_ap_8 ne_b1_b10 ne_aw_8_b10 ne_af_8_b10 ne_al_8_b10 ne_ac_8_b10 ne_an_8_b10 ne_ap_8_b10 ne_b1_b73 ne_aw_8_b73 ne_af_8_b73 ne_al_8_b73 ne_ac_8_b73 ne_an_8_b73 ne_ap_8_b73 ne_b10_b73 hI hv ht hf
    have Zh : n0 ≤ h.size := Nat.le_trans Z0 K.1
    rw [lawF_67] at hf
    obtain ⟨_, _, ⟨T43, L43, k43, n43⟩, -, X43, ⟨Lc43, hQ43, l43, y43, z43⟩, st43⟩ := Jvm.LawKit.callS X hx (y := (⟨"com/example/knotwise/knotwise/PlacementPlacePinLaw", "step", "(Lcom/example/knotwise/knotwise/Placement;[I[III)V"⟩ : MethodName)) hown (mvT hZ (hw _ (List.mem_of_getElem? (i := 26) rfl))) (mvT hZ (hw _ (List.mem_of_getElem? (i := 27) rfl))) (mvT hZ (hw _ (List.mem_of_getElem? (i := 28) rfl))) (mvT hZ (hw _ (List.mem_of_getElem? (i := 29) rfl))) (by decide) (backOf (W := 0) (rm_stpF l Z a0 hw [] b1 b10 b73 p3 (2 : Int32) aw_8 af_8 al_8 ac_8 an_8 ap_8 wl fl ll cl nl pl vl tl h n0 Zh fc0 fc1 fc2 fc3 fc4 fc5 fc6 fc7 fc8 fc9 fc10 fc11 fc12 fc13 fc14 g_aw_8 g_af_8 g_al_8 g_ac_8 g_an_8 g_ap_8 g_b10 g_b73 ne_b1_aw_8 ne_b1_af_8 ne_b1_al_8 ne_b1_ac_8 ne_b1_an_8 ne_b1_ap_8 ne_aw_8_af_8 ne_aw_8_al_8 ne_aw_8_ac_8 ne_aw_8_an_8 ne_aw_8_ap_8 ne_af_8_al_8 ne_af_8_ac_8 ne_af_8_an_8 ne_af_8_ap_8 ne_al_8_ac_8 ne_al_8_an_8 ne_al_8_ap_8 ne_ac_8_an_8 ne_ac_8_ap_8 ne_an_8_ap_8 ne_b1_b10 ne_b1_b73 ne_aw_8_b10 ne_aw_8_b73 ne_af_8_b10 ne_af_8_b73 ne_al_8_b10 ne_al_8_b73 ne_ac_8_b10 ne_ac_8_b73 ne_an_8_b10 ne_an_8_b73 ne_ap_8_b10 ne_ap_8_b73 ne_b10_b73 hI hv ht) hZ (hw _ (List.mem_of_getElem? (i := 29) rfl)) (hw _ (List.mem_of_getElem? (i := 28) rfl)) (by decide) (by decide)) (g := (mkF m 75 #[.val (.int p1), .val (.int p2), .val (.int p3), .val (.int p4), .val (.int p5), .val (.ref b1), .val (.ref b10), .val (.ref b73), .unset, .unset, .unset] [(.int (2 : Int32)), (.int p3), (.ref b73), (.ref b10), (.ref b1)])) rfl (by rw [hml]; rfl) (argsL := [(.ref b1), (.ref b10), (.ref b73), (.int p3), (.int (2 : Int32))]) (rest := []) (lenOf pd_3 rfl) rfl (by show 2 * 0 + _ ≤ _; exact Nat.le_of_eq rfl) (hb hby at_75) (fun _ _ => ⟨rfl, eT, (Nat.le_trans (Nat.add_le_add_right hcl 0) (by decide)), (Nat.le_trans (Nat.add_le_add_right hsl 0) (by decide))⟩)
    dsimp only [Pt.U, Pt.locs, Pt.cells, Pt.slots] at X43 l43 y43 z43 st43 hQ43
    subst l43 y43 z43
    obtain ⟨rfl, N43q, Kq43, pf43_0, pf43_1, pf43_2, pf43_3, pf43_4, pf43_5, pf43_6, pf43_7⟩ := hQ43
    have G44 : Exa Z T43.heap b1 "com/example/knotwise/knotwise/Placement" := Exa.keep fc0 Kq43
    have G45 : Fld Z T43.heap b1 "com/example/knotwise/knotwise/Placement" "wives" "[I" (.ref aw_8) := fc1.keep Kq43 (ninS ne_b1_aw_8 (ninS ne_b1_af_8 (ninS ne_b1_al_8 (ninS ne_b1_ac_8 (ninS ne_b1_an_8 (ninS ne_b1_ap_8 (ninS ne_b1_b10 (ninS ne_b1_b73 nin0))))))))
    have G46 : Fld Z T43.heap b1 "com/example/knotwise/knotwise/Placement" "first" "[I" (.ref af_8) := fc2.keep Kq43 (ninS ne_b1_aw_8 (ninS ne_b1_af_8 (ninS ne_b1_al_8 (ninS ne_b1_ac_8 (ninS ne_b1_an_8 (ninS ne_b1_ap_8 (ninS ne_b1_b10 (ninS ne_b1_b73 nin0))))))))
    have G47 : Fld Z T43.heap b1 "com/example/knotwise/knotwise/Placement" "last" "[I" (.ref al_8) := fc3.keep Kq43 (ninS ne_b1_aw_8 (ninS ne_b1_af_8 (ninS ne_b1_al_8 (ninS ne_b1_ac_8 (ninS ne_b1_an_8 (ninS ne_b1_ap_8 (ninS ne_b1_b10 (ninS ne_b1_b73 nin0))))))))
    have G48 : Fld Z T43.heap b1 "com/example/knotwise/knotwise/Placement" "count" "[I" (.ref ac_8) := fc4.keep Kq43 (ninS ne_b1_aw_8 (ninS ne_b1_af_8 (ninS ne_b1_al_8 (ninS ne_b1_ac_8 (ninS ne_b1_an_8 (ninS ne_b1_ap_8 (ninS ne_b1_b10 (ninS ne_b1_b73 nin0))))))))
    have G49 : Fld Z T43.heap b1 "com/example/knotwise/knotwise/Placement" "next" "[I" (.ref an_8) := fc5.keep Kq43 (ninS ne_b1_aw_8 (ninS ne_b1_af_8 (ninS ne_b1_al_8 (ninS ne_b1_ac_8 (ninS ne_b1_an_8 (ninS ne_b1_ap_8 (ninS ne_b1_b10 (ninS ne_b1_b73 nin0))))))))
    have G50 : Fld Z T43.heap b1 "com/example/knotwise/knotwise/Placement" "previous" "[I" (.ref ap_8) := fc6.keep Kq43 (ninS ne_b1_aw_8 (ninS ne_b1_af_8 (ninS ne_b1_al_8 (ninS ne_b1_ac_8 (ninS ne_b1_an_8 (ninS ne_b1_ap_8 (ninS ne_b1_b10 (ninS ne_b1_b73 nin0))))))))
    have K43 : Keep h0 T43.heap [] := Keep.trans K Kq43 (allS (Or.inr sz_aw_8) (allS (Or.inr sz_af_8) (allS (Or.inr sz_al_8) (allS (Or.inr sz_ac_8) (allS (Or.inr sz_an_8) (allS (Or.inr sz_ap_8) (allS (Or.inr sz_b10) (allS (Or.inr sz_b73) all0))))))))
    have Z43 : n0 ≤ T43.heap.size := Nat.le_trans Z0 K43.1
    have N43 := Fr.app N N43q
    refine Go.step (T' := T43) (f' := (mkF m 78 #[.val (.int p1), .val (.int p2), .val (.int p3), .val (.int p4), .val (.int p5), .val (.ref b1), .val (.ref b10), .val (.ref b73), .unset, .unset, .unset] [])) (fun t kt => ?_) ?_
    · show Steps p.tables e below (T.setTop (mkF m 67 #[.val (.int p1), .val (.int p2), .val (.int p3), .val (.int p4), .val (.int p5), .val (.ref b1), .val (.ref b10), .val (.ref b73), .unset, .unset, .unset] [])) _
      refine XS.aload X.here hx rfl (hb hby at_67) rfl rfl ?_
      show Steps p.tables e below (T.setTop (mkF m 69 #[.val (.int p1), .val (.int p2), .val (.int p3), .val (.int p4), .val (.int p5), .val (.ref b1), .val (.ref b10), .val (.ref b73), .unset, .unset, .unset] [(.ref b1)])) _
      refine XS.aload X.here hx rfl (hb hby at_69) rfl rfl ?_
      show Steps p.tables e below (T.setTop (mkF m 71 #[.val (.int p1), .val (.int p2), .val (.int p3), .val (.int p4), .val (.int p5), .val (.ref b1), .val (.ref b10), .val (.ref b73), .unset, .unset, .unset] [(.ref b10), (.ref b1)])) _
      refine XS.aload X.here hx rfl (hb hby at_71) rfl rfl ?_
      show Steps p.tables e below (T.setTop (mkF m 73 #[.val (.int p1), .val (.int p2), .val (.int p3), .val (.int p4), .val (.int p5), .val (.ref b1), .val (.ref b10), .val (.ref b73), .unset, .unset, .unset] [(.ref b73), (.ref b10), (.ref b1)])) _
      refine XS.iloadN X.here hx rfl (hb hby at_73) rfl ?_
      show Steps p.tables e below (T.setTop (mkF m 74 #[.val (.int p1), .val (.int p2), .val (.int p3), .val (.int p4), .val (.int p5), .val (.ref b1), .val (.ref b10), .val (.ref b73), .unset, .unset, .unset] [(.int p3), (.ref b73), (.ref b10), (.ref b1)])) _
      refine XS.iconst X.here hx rfl (hb hby at_74) ?_
      show Steps p.tables e below (T.setTop (mkF m 75 #[.val (.int p1), .val (.int p2), .val (.int p3), .val (.int p4), .val (.int p5), .val (.ref b1), .val (.ref b10), .val (.ref b73), .unset, .unset, .unset] [(.int (2 : Int32)), (.int p3), (.ref b73), (.ref b10), (.ref b1)])) _
      refine st43 _ ?_
      exact kt
    exact S78 _ _ _ _ X43 (Nat.le_trans (Nat.add_le_add_right hcl 0) (by decide)) (Nat.le_trans (Nat.add_le_add_right hsl 0) (by decide)) T43.heap rfl N43 b1 aw_8 af_8 al_8 ac_8 an_8 ap_8 b10 b73 (stpF p3 (2 : Int32) wl fl ll cl nl pl vl tl).1 (stpF p3 (2 : Int32) wl fl ll cl nl pl vl tl).2.1 (stpF p3 (2 : Int32) wl fl ll cl nl pl vl tl).2.2.1 (stpF p3 (2 : Int32) wl fl ll cl nl pl vl tl).2.2.2.1 (stpF p3 (2 : Int32) wl fl ll cl nl pl vl tl).2.2.2.2.1 (stpF p3 (2 : Int32) wl fl ll cl nl pl vl tl).2.2.2.2.2.1 (stpF p3 (2 : Int32) wl fl ll cl nl pl vl tl).2.2.2.2.2.2.1 (stpF p3 (2 : Int32) wl fl ll cl nl pl vl tl).2.2.2.2.2.2.2 K43 G44 G45 G46 G47 G48 G49 G50 pf43_0 pf43_1 pf43_2 pf43_3 pf43_4 pf43_5 pf43_6 pf43_7 g_b1 g_aw_8 g_af_8 g_al_8 g_ac_8 g_an_8 g_ap_8 g_b10 g_b73 sz_b1 sz_aw_8 sz_af_8 sz_al_8 sz_ac_8 sz_an_8 sz_ap_8 sz_b10 sz_b73 ne_b1_aw_8 ne_b1_af_8 ne_b1_al_8 ne_b1_ac_8 ne_b1_an_8 ne_b1_ap_8 ne_aw_8_af_8 ne_aw_8_al_8 ne_aw_8_ac_8 ne_aw_8_an_8 ne_aw_8_ap_8 ne_af_8_al_8 ne_af_8_ac_8 ne_af_8_an_8 ne_af_8_ap_8 ne_al_8_ac_8 ne_al_8_an_8 ne_al_8_ap_8 ne_ac_8_an_8 ne_ac_8_ap_8 ne_an_8_ap_8 ne_b1_b10 ne_aw_8_b10 ne_af_8_b10 ne_al_8_b10 ne_ac_8_b10 ne_an_8_b10 ne_ap_8_b10 ne_b1_b73 ne_aw_8_b73 ne_af_8_b73 ne_al_8_b73 ne_ac_8_b73 ne_an_8_b73 ne_ap_8_b73 ne_b10_b73 (own_sinv p3 _ _ _ _ _ _ _ _ _ hI hv ht).1 (own_sinv p3 _ _ _ _ _ _ _ _ _ hI hv ht).2.1 (own_sinv p3 _ _ _ _ _ _ _ _ _ hI hv ht).2.2 hf
  have S56 : ∀ (T : State) (locs : List Loc) (cells slots : Nat) (X : Stand p l e room_1 s m #[(.int p1), (.int p2), (.int p3), (.int p4), (.int p5)] below meth c T locs cells slots) (hcl : cells ≤ 9) (hsl : slots ≤ 27) (h : Heap) (eT : T.heap = h) (N : Fr n0 locs)   (b1 : Addr) (aw_8 : Addr) (af_8 : Addr) (al_8 : Addr) (ac_8 : Addr) (an_8 : Addr) (ap_8 : Addr) (b10 : Addr) (b73 : Addr) (wl : List Int32) (fl : List Int32) (ll : List Int32) (cl : List Int32) (nl : List Int32) (pl : List Int32) (vl : List Int32) (tl : List Int32) (K : Keep h0 h []) (fc0 : Exa Z h b1 "com/example/knotwise/knotwise/Placement") (fc1 : Fld Z h b1 "com/example/knotwise/knotwise/Placement" "wives" "[I" (.ref aw_8)) (fc2 : Fld Z h b1 "com/example/knotwise/knotwise/Placement" "first" "[I" (.ref af_8)) (fc3 : Fld Z h b1 "com/example/knotwise/knotwise/Placement" "last" "[I" (.ref al_8)) (fc4 : Fld Z h b1 "com/example/knotwise/knotwise/Placement" "count" "[I" (.ref ac_8)) (fc5 : Fld Z h b1 "com/example/knotwise/knotwise/Placement" "next" "[I" (.ref an_8)) (fc6 : Fld Z h b1 "com/example/knotwise/knotwise/Placement" "previous" "[I" (.ref ap_8)) (fc7 : VA Z h aw_8 .int (wl.map Value.int)) (fc8 : VA Z h af_8 .int (fl.map Value.int)) (fc9 : VA Z h al_8 .int (ll.map Value.int)) (fc10 : VA Z h ac_8 .int (cl.map Value.int)) (fc11 : VA Z h an_8 .int (nl.map Value.int)) (fc12 : VA Z h ap_8 .int (pl.map Value.int)) (fc13 : VA Z h b10 .int (vl.map Value.int)) (fc14 : VA Z h b73 .int (tl.map Value.int)) (g_b1 : n0 ≤ b1) (g_aw_8 : n0 ≤ aw_8) (g_af_8 : n0 ≤ af_8) (g_al_8 : n0 ≤ al_8) (g_ac_8 : n0 ≤ ac_8) (g_an_8 : n0 ≤ an_8) (g_ap_8 : n0 ≤ ap_8) (g_b10 : n0 ≤ b10) (g_b73 : n0 ≤ b73) (sz_b1 : h0.size ≤ b1) (sz_aw_8 : h0.size ≤ aw_8) (sz_af_8 : h0.size ≤ af_8) (sz_al_8 : h0.size ≤ al_8) (sz_ac_8 : h0.size ≤ ac_8) (sz_an_8 : h0.size ≤ an_8) (sz_ap_8 : h0.size ≤ ap_8) (sz_b10 : h0.size ≤ b10) (sz_b73 : h0.size ≤ b73) (ne_b1_aw_8 : b1 ≠ aw_8) (ne_b1_af_8 : b1 ≠ af_8) (ne_b1_al_8 : b1 ≠ al_8) (ne_b1_ac_8 : b1 ≠ ac_8) (ne_b1_an_8 : b1 ≠ an_8) (ne_b1_ap_8 : b1 ≠ ap_8) (ne_aw_8_af_8 : aw_8 ≠ af_8) (ne_aw_8_al_8 : aw_8 ≠ al_8) (ne_aw_8_ac_8 : aw_8 ≠ ac_8) (ne_aw_8_an_8 : aw_8 ≠ an_8) (ne_aw_8_ap_8 : aw_8 ≠ ap_8) (ne_af_8_al_8 : af_8 ≠ al_8) (ne_af_8_ac_8 : af_8 ≠ ac_8) (ne_af_8_an_8 : af_8 ≠ an_8) (ne_af_8_ap_8 : af_8 ≠ ap_8) (ne_al_8_ac_8 : al_8 ≠ ac_8) (ne_al_8_an_8 : al_8 ≠ an_8) (ne_al_8_ap_8 : al_8 ≠ ap_8) (ne_ac_8_an_8 : ac_8 ≠ an_8) (ne_ac_8_ap_8 : ac_8 ≠ ap_8) (ne_an_8_ap_8 : an_8 ≠ ap_8) (ne_b1_b10 : b1 ≠ b10) (ne_aw_8_b10 : aw_8 ≠ b10) (ne_af_8_b10 : af_8 ≠ b10) (ne_al_8_b10 : al_8 ≠ b10) (ne_ac_8_b10 : ac_8 ≠ b10) (ne_an_8_b10 : an_8 ≠ b10) (ne_ap_8_b10 : ap_8 ≠ b10) (ne_b1_b73 : b1 ≠ b73) (ne_aw_8_b73 : aw_8 ≠ b73) (ne_af_8_b73 : af_8 ≠ b73) (ne_al_8_b73 : al_8 ≠ b73) (ne_ac_8_b73 : ac_8 ≠ b73) (ne_an_8_b73 : an_8 ≠ b73) (ne_ap_8_b73 : ap_8 ≠ b73) (ne_b10_b73 : b10 ≠ b73) (hI : own_I wl fl ll cl nl pl) (hv : vl.length = 3) (ht : tl.length = 3) (hf : RES = lawF_56 p2 p3 p4 p5 wl fl ll cl nl pl vl tl), Go p e below s (Q0 Z p1 p2 p3 p4 p5 RES h0 n0) 32 128 T (mkF m 56 #[.val (.int p1), .val (.int p2), .val (.int p3), .val (.int p4), .val (.int p5), .val (.ref b1), .val (.ref b10), .val (.ref b73), .unset, .unset, .unset] []) := by
    intro T locs cells slots X hcl hsl h eT N b1 aw_8 af_8 al_8 ac_8 an_8 ap_8 b10 b73 wl fl ll cl nl pl vl tl K fc0 fc1 fc2 fc3 fc4 fc5 fc6 fc7 fc8 fc9 fc10 fc11 fc12 fc13 fc14 g_b1 g_aw_8 g_af_8 g_al_8 g_ac_8 g_an_8 g_ap_8 g_b10 g_b73 sz_b1 sz_aw_8 sz_af_8 sz_al_8 sz_ac_8 sz_an_8 sz_ap_8 sz_b10 sz_b73 ne_b1_aw_8 ne_b1_af_8 ne_b1_al_8 ne_b1_ac_8 ne_b1_an_8 ne_b1_ap_8 ne_aw_8_af_8 ne_aw_8_al_8 ne_aw_8_ac_8 ne_aw_8_an_8 ne_aw_8_ap_8 ne_af_8_al_8 ne_af_8_ac_8 ne_af_8_an_8 ne_af_8_ap_8 ne_al_8_ac_8 ne_al_8_an_8 ne_al_8_ap_8 ne_ac_8_an_8 ne_ac_8_ap_8 ne_an_8_ap_8 ne_b1_b10 ne_aw_8_b10 ne_af_8_b10 ne_al_8_b10 ne_ac_8_b10 ne_an_8_b10 ne_ap_8_b10 ne_b1_b73 ne_aw_8_b73 ne_af_8_b73 ne_al_8_b73 ne_ac_8_b73 ne_an_8_b73 ne_ap_8_b73 ne_b10_b73 hI hv ht hf
    have Zh : n0 ≤ h.size := Nat.le_trans Z0 K.1
    rw [lawF_56] at hf
    obtain ⟨_, _, ⟨T51, L51, k51, n51⟩, -, X51, ⟨Lc51, hQ51, l51, y51, z51⟩, st51⟩ := Jvm.LawKit.callS X hx (y := (⟨"com/example/knotwise/knotwise/PlacementPlacePinLaw", "step", "(Lcom/example/knotwise/knotwise/Placement;[I[III)V"⟩ : MethodName)) hown (mvT hZ (hw _ (List.mem_of_getElem? (i := 26) rfl))) (mvT hZ (hw _ (List.mem_of_getElem? (i := 27) rfl))) (mvT hZ (hw _ (List.mem_of_getElem? (i := 28) rfl))) (mvT hZ (hw _ (List.mem_of_getElem? (i := 29) rfl))) (by decide) (backOf (W := 0) (rm_stpF l Z a0 hw [] b1 b10 b73 p2 (1 : Int32) aw_8 af_8 al_8 ac_8 an_8 ap_8 wl fl ll cl nl pl vl tl h n0 Zh fc0 fc1 fc2 fc3 fc4 fc5 fc6 fc7 fc8 fc9 fc10 fc11 fc12 fc13 fc14 g_aw_8 g_af_8 g_al_8 g_ac_8 g_an_8 g_ap_8 g_b10 g_b73 ne_b1_aw_8 ne_b1_af_8 ne_b1_al_8 ne_b1_ac_8 ne_b1_an_8 ne_b1_ap_8 ne_aw_8_af_8 ne_aw_8_al_8 ne_aw_8_ac_8 ne_aw_8_an_8 ne_aw_8_ap_8 ne_af_8_al_8 ne_af_8_ac_8 ne_af_8_an_8 ne_af_8_ap_8 ne_al_8_ac_8 ne_al_8_an_8 ne_al_8_ap_8 ne_ac_8_an_8 ne_ac_8_ap_8 ne_an_8_ap_8 ne_b1_b10 ne_b1_b73 ne_aw_8_b10 ne_aw_8_b73 ne_af_8_b10 ne_af_8_b73 ne_al_8_b10 ne_al_8_b73 ne_ac_8_b10 ne_ac_8_b73 ne_an_8_b10 ne_an_8_b73 ne_ap_8_b10 ne_ap_8_b73 ne_b10_b73 hI hv ht) hZ (hw _ (List.mem_of_getElem? (i := 29) rfl)) (hw _ (List.mem_of_getElem? (i := 28) rfl)) (by decide) (by decide)) (g := (mkF m 64 #[.val (.int p1), .val (.int p2), .val (.int p3), .val (.int p4), .val (.int p5), .val (.ref b1), .val (.ref b10), .val (.ref b73), .unset, .unset, .unset] [(.int (1 : Int32)), (.int p2), (.ref b73), (.ref b10), (.ref b1)])) rfl (by rw [hml]; rfl) (argsL := [(.ref b1), (.ref b10), (.ref b73), (.int p2), (.int (1 : Int32))]) (rest := []) (lenOf pd_3 rfl) rfl (by show 2 * 0 + _ ≤ _; exact Nat.le_of_eq rfl) (hb hby at_64) (fun _ _ => ⟨rfl, eT, (Nat.le_trans (Nat.add_le_add_right hcl 0) (by decide)), (Nat.le_trans (Nat.add_le_add_right hsl 0) (by decide))⟩)
    dsimp only [Pt.U, Pt.locs, Pt.cells, Pt.slots] at X51 l51 y51 z51 st51 hQ51
    subst l51 y51 z51
    obtain ⟨rfl, N51q, Kq51, pf51_0, pf51_1, pf51_2, pf51_3, pf51_4, pf51_5, pf51_6, pf51_7⟩ := hQ51
    have G52 : Exa Z T51.heap b1 "com/example/knotwise/knotwise/Placement" := Exa.keep fc0 Kq51
    have G53 : Fld Z T51.heap b1 "com/example/knotwise/knotwise/Placement" "wives" "[I" (.ref aw_8) := fc1.keep Kq51 (ninS ne_b1_aw_8 (ninS ne_b1_af_8 (ninS ne_b1_al_8 (ninS ne_b1_ac_8 (ninS ne_b1_an_8 (ninS ne_b1_ap_8 (ninS ne_b1_b10 (ninS ne_b1_b73 nin0))))))))
    have G54 : Fld Z T51.heap b1 "com/example/knotwise/knotwise/Placement" "first" "[I" (.ref af_8) := fc2.keep Kq51 (ninS ne_b1_aw_8 (ninS ne_b1_af_8 (ninS ne_b1_al_8 (ninS ne_b1_ac_8 (ninS ne_b1_an_8 (ninS ne_b1_ap_8 (ninS ne_b1_b10 (ninS ne_b1_b73 nin0))))))))
    have G55 : Fld Z T51.heap b1 "com/example/knotwise/knotwise/Placement" "last" "[I" (.ref al_8) := fc3.keep Kq51 (ninS ne_b1_aw_8 (ninS ne_b1_af_8 (ninS ne_b1_al_8 (ninS ne_b1_ac_8 (ninS ne_b1_an_8 (ninS ne_b1_ap_8 (ninS ne_b1_b10 (ninS ne_b1_b73 nin0))))))))
    have G56 : Fld Z T51.heap b1 "com/example/knotwise/knotwise/Placement" "count" "[I" (.ref ac_8) := fc4.keep Kq51 (ninS ne_b1_aw_8 (ninS ne_b1_af_8 (ninS ne_b1_al_8 (ninS ne_b1_ac_8 (ninS ne_b1_an_8 (ninS ne_b1_ap_8 (ninS ne_b1_b10 (ninS ne_b1_b73 nin0))))))))
    have G57 : Fld Z T51.heap b1 "com/example/knotwise/knotwise/Placement" "next" "[I" (.ref an_8) := fc5.keep Kq51 (ninS ne_b1_aw_8 (ninS ne_b1_af_8 (ninS ne_b1_al_8 (ninS ne_b1_ac_8 (ninS ne_b1_an_8 (ninS ne_b1_ap_8 (ninS ne_b1_b10 (ninS ne_b1_b73 nin0))))))))
    have G58 : Fld Z T51.heap b1 "com/example/knotwise/knotwise/Placement" "previous" "[I" (.ref ap_8) := fc6.keep Kq51 (ninS ne_b1_aw_8 (ninS ne_b1_af_8 (ninS ne_b1_al_8 (ninS ne_b1_ac_8 (ninS ne_b1_an_8 (ninS ne_b1_ap_8 (ninS ne_b1_b10 (ninS ne_b1_b73 nin0))))))))
    have K51 : Keep h0 T51.heap [] := Keep.trans K Kq51 (allS (Or.inr sz_aw_8) (allS (Or.inr sz_af_8) (allS (Or.inr sz_al_8) (allS (Or.inr sz_ac_8) (allS (Or.inr sz_an_8) (allS (Or.inr sz_ap_8) (allS (Or.inr sz_b10) (allS (Or.inr sz_b73) all0))))))))
    have Z51 : n0 ≤ T51.heap.size := Nat.le_trans Z0 K51.1
    have N51 := Fr.app N N51q
    refine Go.step (T' := T51) (f' := (mkF m 67 #[.val (.int p1), .val (.int p2), .val (.int p3), .val (.int p4), .val (.int p5), .val (.ref b1), .val (.ref b10), .val (.ref b73), .unset, .unset, .unset] [])) (fun t kt => ?_) ?_
    · show Steps p.tables e below (T.setTop (mkF m 56 #[.val (.int p1), .val (.int p2), .val (.int p3), .val (.int p4), .val (.int p5), .val (.ref b1), .val (.ref b10), .val (.ref b73), .unset, .unset, .unset] [])) _
      refine XS.aload X.here hx rfl (hb hby at_56) rfl rfl ?_
      show Steps p.tables e below (T.setTop (mkF m 58 #[.val (.int p1), .val (.int p2), .val (.int p3), .val (.int p4), .val (.int p5), .val (.ref b1), .val (.ref b10), .val (.ref b73), .unset, .unset, .unset] [(.ref b1)])) _
      refine XS.aload X.here hx rfl (hb hby at_58) rfl rfl ?_
      show Steps p.tables e below (T.setTop (mkF m 60 #[.val (.int p1), .val (.int p2), .val (.int p3), .val (.int p4), .val (.int p5), .val (.ref b1), .val (.ref b10), .val (.ref b73), .unset, .unset, .unset] [(.ref b10), (.ref b1)])) _
      refine XS.aload X.here hx rfl (hb hby at_60) rfl rfl ?_
      show Steps p.tables e below (T.setTop (mkF m 62 #[.val (.int p1), .val (.int p2), .val (.int p3), .val (.int p4), .val (.int p5), .val (.ref b1), .val (.ref b10), .val (.ref b73), .unset, .unset, .unset] [(.ref b73), (.ref b10), (.ref b1)])) _
      refine XS.iloadN X.here hx rfl (hb hby at_62) rfl ?_
      show Steps p.tables e below (T.setTop (mkF m 63 #[.val (.int p1), .val (.int p2), .val (.int p3), .val (.int p4), .val (.int p5), .val (.ref b1), .val (.ref b10), .val (.ref b73), .unset, .unset, .unset] [(.int p2), (.ref b73), (.ref b10), (.ref b1)])) _
      refine XS.iconst X.here hx rfl (hb hby at_63) ?_
      show Steps p.tables e below (T.setTop (mkF m 64 #[.val (.int p1), .val (.int p2), .val (.int p3), .val (.int p4), .val (.int p5), .val (.ref b1), .val (.ref b10), .val (.ref b73), .unset, .unset, .unset] [(.int (1 : Int32)), (.int p2), (.ref b73), (.ref b10), (.ref b1)])) _
      refine st51 _ ?_
      exact kt
    exact S67 _ _ _ _ X51 (Nat.le_trans (Nat.add_le_add_right hcl 0) (by decide)) (Nat.le_trans (Nat.add_le_add_right hsl 0) (by decide)) T51.heap rfl N51 b1 aw_8 af_8 al_8 ac_8 an_8 ap_8 b10 b73 (stpF p2 (1 : Int32) wl fl ll cl nl pl vl tl).1 (stpF p2 (1 : Int32) wl fl ll cl nl pl vl tl).2.1 (stpF p2 (1 : Int32) wl fl ll cl nl pl vl tl).2.2.1 (stpF p2 (1 : Int32) wl fl ll cl nl pl vl tl).2.2.2.1 (stpF p2 (1 : Int32) wl fl ll cl nl pl vl tl).2.2.2.2.1 (stpF p2 (1 : Int32) wl fl ll cl nl pl vl tl).2.2.2.2.2.1 (stpF p2 (1 : Int32) wl fl ll cl nl pl vl tl).2.2.2.2.2.2.1 (stpF p2 (1 : Int32) wl fl ll cl nl pl vl tl).2.2.2.2.2.2.2 K51 G52 G53 G54 G55 G56 G57 G58 pf51_0 pf51_1 pf51_2 pf51_3 pf51_4 pf51_5 pf51_6 pf51_7 g_b1 g_aw_8 g_af_8 g_al_8 g_ac_8 g_an_8 g_ap_8 g_b10 g_b73 sz_b1 sz_aw_8 sz_af_8 sz_al_8 sz_ac_8 sz_an_8 sz_ap_8 sz_b10 sz_b73 ne_b1_aw_8 ne_b1_af_8 ne_b1_al_8 ne_b1_ac_8 ne_b1_an_8 ne_b1_ap_8 ne_aw_8_af_8 ne_aw_8_al_8 ne_aw_8_ac_8 ne_aw_8_an_8 ne_aw_8_ap_8 ne_af_8_al_8 ne_af_8_ac_8 ne_af_8_an_8 ne_af_8_ap_8 ne_al_8_ac_8 ne_al_8_an_8 ne_al_8_ap_8 ne_ac_8_an_8 ne_ac_8_ap_8 ne_an_8_ap_8 ne_b1_b10 ne_aw_8_b10 ne_af_8_b10 ne_al_8_b10 ne_ac_8_b10 ne_an_8_b10 ne_ap_8_b10 ne_b1_b73 ne_aw_8_b73 ne_af_8_b73 ne_al_8_b73 ne_ac_8_b73 ne_an_8_b73 ne_ap_8_b73 ne_b10_b73 (own_sinv p2 _ _ _ _ _ _ _ _ _ hI hv ht).1 (own_sinv p2 _ _ _ _ _ _ _ _ _ hI hv ht).2.1 (own_sinv p2 _ _ _ _ _ _ _ _ _ hI hv ht).2.2 hf
  obtain ⟨T59, h59, X59, e59, E59, A59, D59, -, st59⟩ := newO X0 hx hZ hown (hw _ (List.mem_of_getElem? (i := 0) rfl)) (hw _ (List.mem_of_getElem? (i := 1) rfl)) (hw _ (List.mem_of_getElem? (i := 2) rfl)) e0 (g := (mkF m 0 #[.val (.int p1), .val (.int p2), .val (.int p3), .val (.int p4), .val (.int p5), .unset, .unset, .unset, .unset, .unset, .unset] [])) rfl (hb hby at_0) (Nat.le_trans (Nat.add_le_add_right (Nat.le_refl 0) 1) (by decide)) (Nat.le_trans (Nat.add_le_add_right (Nat.le_refl 0) 6) (by decide))
  obtain ⟨b59, g59⟩ : ∃ z, z = h0.size := ⟨_, rfl⟩
  rw [← g59] at A59 D59 st59
  have g_b59 : n0 ≤ b59 := Nat.le_trans Z0 (Nat.le_of_eq g59.symm)
  have sz_b59 : h0.size ≤ b59 := Nat.le_trans (Keep.refl h0 []).1 (Nat.le_of_eq g59.symm)
  have K59 : Keep h0 h59 [] := Keep.ext (Keep.refl h0 []) E59
  have Z59 : n0 ≤ h59.size := Nat.le_trans Z0 K59.1
  have G60 : Fld Z h59 b59 "com/example/knotwise/knotwise/Placement" "wives" "[I" .null := D59 (Or.inr (hw _ (List.mem_of_getElem? (i := 11) rfl))) (ty := (.array .int)) (by decide)
  have G61 : Fld Z h59 b59 "com/example/knotwise/knotwise/Placement" "first" "[I" .null := D59 (Or.inr (hw _ (List.mem_of_getElem? (i := 17) rfl))) (ty := (.array .int)) (by decide)
  have G62 : Fld Z h59 b59 "com/example/knotwise/knotwise/Placement" "last" "[I" .null := D59 (Or.inr (hw _ (List.mem_of_getElem? (i := 19) rfl))) (ty := (.array .int)) (by decide)
  have G63 : Fld Z h59 b59 "com/example/knotwise/knotwise/Placement" "count" "[I" .null := D59 (Or.inr (hw _ (List.mem_of_getElem? (i := 21) rfl))) (ty := (.array .int)) (by decide)
  have G64 : Fld Z h59 b59 "com/example/knotwise/knotwise/Placement" "next" "[I" .null := D59 (Or.inr (hw _ (List.mem_of_getElem? (i := 23) rfl))) (ty := (.array .int)) (by decide)
  have G65 : Fld Z h59 b59 "com/example/knotwise/knotwise/Placement" "previous" "[I" .null := D59 (Or.inr (hw _ (List.mem_of_getElem? (i := 25) rfl))) (ty := (.array .int)) (by decide)
  obtain ⟨_, _, ⟨T66, L66, k66, n66⟩, -, X66, ⟨Lc66, hQ66, l66, y66, z66⟩, st66⟩ := X59.specialBack hx (y := (⟨"com/example/knotwise/knotwise/Placement", "<init>", "(II)V"⟩ : MethodName)) rfl hown (mvT hZ (hw _ (List.mem_of_getElem? (i := 3) rfl))) (mvT hZ (hw _ (List.mem_of_getElem? (i := 4) rfl))) (mvT hZ (hw _ (List.mem_of_getElem? (i := 5) rfl))) (by decide) (backOf (W := 1) (rm_iniP l Z a0 hw [] b59  h59 n0 Z59 A59 G60 G61 G62 G63 G64 G65 g_b59 ) hZ (hw _ (List.mem_of_getElem? (i := 5) rfl)) (hw _ (List.mem_of_getElem? (i := 2) rfl)) (by decide) (by decide)) (g := (mkF m 6 #[.val (.int p1), .val (.int p2), .val (.int p3), .val (.int p4), .val (.int p5), .unset, .unset, .unset, .unset, .unset, .unset] [(.int (2 : Int32)), (.int (3 : Int32)), (.ref b59), (.ref b59)])) rfl (by rw [hml]; rfl) (Steps.refl _) (a := b59) (argsL := [(.int (3 : Int32)), (.int (2 : Int32))]) (rest := [(.ref b59)]) (lenOf pd_2 rfl) rfl (by show 2 * 0 + _ ≤ _; exact Nat.le_of_eq rfl) (hb hby at_6) (fun _ _ => ⟨rfl, e59, (Nat.le_trans (Nat.add_le_add_right (Nat.add_le_add_right (Nat.le_refl 0) 1) 6) (by decide)), (Nat.le_trans (Nat.add_le_add_right (Nat.add_le_add_right (Nat.le_refl 0) 6) 15) (by decide))⟩)
  dsimp only [Pt.U, Pt.locs, Pt.cells, Pt.slots] at X66 l66 y66 z66 st66 hQ66
  subst l66 y66 z66
  obtain ⟨aw_66, af_66, al_66, ac_66, an_66, ap_66, rfl, N66q, Kq66, fz_aw_66, fz_af_66, fz_al_66, fz_ac_66, fz_an_66, fz_ap_66, ne_aw_66_af_66, ne_aw_66_al_66, ne_aw_66_ac_66, ne_aw_66_an_66, ne_aw_66_ap_66, ne_af_66_al_66, ne_af_66_ac_66, ne_af_66_an_66, ne_af_66_ap_66, ne_al_66_ac_66, ne_al_66_an_66, ne_al_66_ap_66, ne_ac_66_an_66, ne_ac_66_ap_66, ne_an_66_ap_66, pf66_0, pf66_1, pf66_2, pf66_3, pf66_4, pf66_5, pf66_6, pf66_7, pf66_8, pf66_9, pf66_10, pf66_11⟩ := hQ66
  have oldlt_66_b59 : b59 < h59.size := A59.lt
  have G67 : Exa Z T66.heap b59 "com/example/knotwise/knotwise/Placement" := Exa.keep A59 Kq66
  have ne_b59_aw_66 : b59 ≠ aw_66 := Nat.ne_of_lt (Nat.lt_of_lt_of_le oldlt_66_b59 fz_aw_66)
  have g_aw_66 : n0 ≤ aw_66 := Nat.le_trans Z59 fz_aw_66
  have sz_aw_66 : h0.size ≤ aw_66 := Nat.le_trans K59.1 fz_aw_66
  have ne_b59_af_66 : b59 ≠ af_66 := Nat.ne_of_lt (Nat.lt_of_lt_of_le oldlt_66_b59 fz_af_66)
  have g_af_66 : n0 ≤ af_66 := Nat.le_trans Z59 fz_af_66
  have sz_af_66 : h0.size ≤ af_66 := Nat.le_trans K59.1 fz_af_66
  have ne_b59_al_66 : b59 ≠ al_66 := Nat.ne_of_lt (Nat.lt_of_lt_of_le oldlt_66_b59 fz_al_66)
  have g_al_66 : n0 ≤ al_66 := Nat.le_trans Z59 fz_al_66
  have sz_al_66 : h0.size ≤ al_66 := Nat.le_trans K59.1 fz_al_66
  have ne_b59_ac_66 : b59 ≠ ac_66 := Nat.ne_of_lt (Nat.lt_of_lt_of_le oldlt_66_b59 fz_ac_66)
  have g_ac_66 : n0 ≤ ac_66 := Nat.le_trans Z59 fz_ac_66
  have sz_ac_66 : h0.size ≤ ac_66 := Nat.le_trans K59.1 fz_ac_66
  have ne_b59_an_66 : b59 ≠ an_66 := Nat.ne_of_lt (Nat.lt_of_lt_of_le oldlt_66_b59 fz_an_66)
  have g_an_66 : n0 ≤ an_66 := Nat.le_trans Z59 fz_an_66
  have sz_an_66 : h0.size ≤ an_66 := Nat.le_trans K59.1 fz_an_66
  have ne_b59_ap_66 : b59 ≠ ap_66 := Nat.ne_of_lt (Nat.lt_of_lt_of_le oldlt_66_b59 fz_ap_66)
  have g_ap_66 : n0 ≤ ap_66 := Nat.le_trans Z59 fz_ap_66
  have sz_ap_66 : h0.size ≤ ap_66 := Nat.le_trans K59.1 fz_ap_66
  have K66 : Keep h0 T66.heap [] := Keep.trans K59 Kq66 (allS (Or.inr sz_b59) all0)
  have Z66 : n0 ≤ T66.heap.size := Nat.le_trans Z0 K66.1
  have N66 := Fr.app N0 N66q
  obtain ⟨T68, h68, X68, e68, E68, A68, st68⟩ := newI X66 hx hZ (hw _ (List.mem_of_getElem? (i := 9) rfl)) rfl (g := (mkF m 12 #[.val (.int p1), .val (.int p2), .val (.int p3), .val (.int p4), .val (.int p5), .val (.ref b59), .unset, .unset, .unset, .unset, .unset] [(.int (3 : Int32))])) rfl (hb hby at_12) rfl (by decide) (cap := 3) (by decide) (by decide) (Nat.le_trans (Nat.add_le_add_right (Nat.add_le_add_right (Nat.add_le_add_right (Nat.le_refl 0) 1) 6) 1) (by decide)) (Nat.le_trans (Nat.add_le_add_right (Nat.add_le_add_right (Nat.add_le_add_right (Nat.le_refl 0) 6) 15) 3) (by decide))
  obtain ⟨b68, g68⟩ : ∃ z, z = T66.heap.size := ⟨_, rfl⟩
  rw [← g68] at A68 st68
  have ne_b59_b68 : b59 ≠ b68 := Nat.ne_of_lt (Nat.lt_of_lt_of_le G67.lt (Nat.le_of_eq g68.symm))
  have ne_aw_66_b68 : aw_66 ≠ b68 := Nat.ne_of_lt (Nat.lt_of_lt_of_le pf66_6.lt (Nat.le_of_eq g68.symm))
  have ne_af_66_b68 : af_66 ≠ b68 := Nat.ne_of_lt (Nat.lt_of_lt_of_le pf66_7.lt (Nat.le_of_eq g68.symm))
  have ne_al_66_b68 : al_66 ≠ b68 := Nat.ne_of_lt (Nat.lt_of_lt_of_le pf66_8.lt (Nat.le_of_eq g68.symm))
  have ne_ac_66_b68 : ac_66 ≠ b68 := Nat.ne_of_lt (Nat.lt_of_lt_of_le pf66_9.lt (Nat.le_of_eq g68.symm))
  have ne_an_66_b68 : an_66 ≠ b68 := Nat.ne_of_lt (Nat.lt_of_lt_of_le pf66_10.lt (Nat.le_of_eq g68.symm))
  have ne_ap_66_b68 : ap_66 ≠ b68 := Nat.ne_of_lt (Nat.lt_of_lt_of_le pf66_11.lt (Nat.le_of_eq g68.symm))
  have G69 : Exa Z h68 b59 "com/example/knotwise/knotwise/Placement" := G67.ext E68
  have G70 : Fld Z h68 b59 "com/example/knotwise/knotwise/Placement" "wives" "[I" (.ref aw_66) := pf66_0.ext E68
  have G71 : Fld Z h68 b59 "com/example/knotwise/knotwise/Placement" "first" "[I" (.ref af_66) := pf66_1.ext E68
  have G72 : Fld Z h68 b59 "com/example/knotwise/knotwise/Placement" "last" "[I" (.ref al_66) := pf66_2.ext E68
  have G73 : Fld Z h68 b59 "com/example/knotwise/knotwise/Placement" "count" "[I" (.ref ac_66) := pf66_3.ext E68
  have G74 : Fld Z h68 b59 "com/example/knotwise/knotwise/Placement" "next" "[I" (.ref an_66) := pf66_4.ext E68
  have G75 : Fld Z h68 b59 "com/example/knotwise/knotwise/Placement" "previous" "[I" (.ref ap_66) := pf66_5.ext E68
  have G76 : VA Z h68 aw_66 .int ([(-1 : Int32), (-1 : Int32), (-1 : Int32)].map Value.int) := pf66_6.ext E68
  have G77 : VA Z h68 af_66 .int ([(-1 : Int32), (-1 : Int32)].map Value.int) := pf66_7.ext E68
  have G78 : VA Z h68 al_66 .int ([(-1 : Int32), (-1 : Int32)].map Value.int) := pf66_8.ext E68
  have G79 : VA Z h68 ac_66 .int ([(0 : Int32), (0 : Int32)].map Value.int) := pf66_9.ext E68
  have G80 : VA Z h68 an_66 .int ([(0 : Int32), (0 : Int32), (0 : Int32)].map Value.int) := pf66_10.ext E68
  have G81 : VA Z h68 ap_66 .int ([(0 : Int32), (0 : Int32), (0 : Int32)].map Value.int) := pf66_11.ext E68
  have g_b68 : n0 ≤ b68 := Nat.le_trans Z66 (Nat.le_of_eq g68.symm)
  have sz_b68 : h0.size ≤ b68 := Nat.le_trans K66.1 (Nat.le_of_eq g68.symm)
  have K68 : Keep h0 h68 [] := Keep.ext K66 E68
  have Z68 : n0 ≤ h68.size := Nat.le_trans Z0 K68.1
  have G82 : VA Z h68 b68 .int ([(0 : Int32), (0 : Int32), (0 : Int32)].map Value.int) := A68
  have ix83 : 0 ≤ ((0 : Int32)).toInt ∧ ((0 : Int32)).toInt < (([(0 : Int32), (0 : Int32), (0 : Int32)]).length : Int) := by constructor <;> first | decide | (simp; done)
  obtain ⟨T84, h84, X84, e84, W84, V84, st84⟩ := putI X68 hx hZ e68 G82 ix83.1 ix83.2 (g := (mkF m 17 #[.val (.int p1), .val (.int p2), .val (.int p3), .val (.int p4), .val (.int p5), .val (.ref b59), .unset, .unset, .unset, .unset, .unset] [(.int (-1 : Int32)), (.int (0 : Int32)), (.ref b68), (.ref b68)])) rfl rfl (hb hby at_17)
  have G85 : Exa Z h84 b59 "com/example/knotwise/knotwise/Placement" := G69.wr W84
  have G86 : Fld Z h84 b59 "com/example/knotwise/knotwise/Placement" "wives" "[I" (.ref aw_66) := G70.other W84 (Or.inl ne_b59_b68)
  have G87 : Fld Z h84 b59 "com/example/knotwise/knotwise/Placement" "first" "[I" (.ref af_66) := G71.other W84 (Or.inl ne_b59_b68)
  have G88 : Fld Z h84 b59 "com/example/knotwise/knotwise/Placement" "last" "[I" (.ref al_66) := G72.other W84 (Or.inl ne_b59_b68)
  have G89 : Fld Z h84 b59 "com/example/knotwise/knotwise/Placement" "count" "[I" (.ref ac_66) := G73.other W84 (Or.inl ne_b59_b68)
  have G90 : Fld Z h84 b59 "com/example/knotwise/knotwise/Placement" "next" "[I" (.ref an_66) := G74.other W84 (Or.inl ne_b59_b68)
  have G91 : Fld Z h84 b59 "com/example/knotwise/knotwise/Placement" "previous" "[I" (.ref ap_66) := G75.other W84 (Or.inl ne_b59_b68)
  have G92 : VA Z h84 aw_66 .int ([(-1 : Int32), (-1 : Int32), (-1 : Int32)].map Value.int) := G76.other W84 ne_aw_66_b68
  have G93 : VA Z h84 af_66 .int ([(-1 : Int32), (-1 : Int32)].map Value.int) := G77.other W84 ne_af_66_b68
  have G94 : VA Z h84 al_66 .int ([(-1 : Int32), (-1 : Int32)].map Value.int) := G78.other W84 ne_al_66_b68
  have G95 : VA Z h84 ac_66 .int ([(0 : Int32), (0 : Int32)].map Value.int) := G79.other W84 ne_ac_66_b68
  have G96 : VA Z h84 an_66 .int ([(0 : Int32), (0 : Int32), (0 : Int32)].map Value.int) := G80.other W84 ne_an_66_b68
  have G97 : VA Z h84 ap_66 .int ([(0 : Int32), (0 : Int32), (0 : Int32)].map Value.int) := G81.other W84 ne_ap_66_b68
  have G98 : VA Z h84 b68 .int ([(-1 : Int32), (0 : Int32), (0 : Int32)].map Value.int) := V84
  have N84 := Fr.snoc X84 N66 g_b68
  have K84 : Keep h0 h84 [] := Keep.wr K68 W84 (Or.inr sz_b68)
  have Z84 : n0 ≤ h84.size := Nat.le_trans Z0 K84.1
  have ix99 : 0 ≤ ((1 : Int32)).toInt ∧ ((1 : Int32)).toInt < (([(-1 : Int32), (0 : Int32), (0 : Int32)]).length : Int) := by constructor <;> first | decide | (simp; done)
  obtain ⟨T100, h100, X100, e100, W100, V100, st100⟩ := putI X84 hx hZ e84 G98 ix99.1 ix99.2 (g := (mkF m 21 #[.val (.int p1), .val (.int p2), .val (.int p3), .val (.int p4), .val (.int p5), .val (.ref b59), .unset, .unset, .unset, .unset, .unset] [(.int (-1 : Int32)), (.int (1 : Int32)), (.ref b68), (.ref b68)])) rfl rfl (hb hby at_21)
  have G101 : Exa Z h100 b59 "com/example/knotwise/knotwise/Placement" := G85.wr W100
  have G102 : Fld Z h100 b59 "com/example/knotwise/knotwise/Placement" "wives" "[I" (.ref aw_66) := G86.other W100 (Or.inl ne_b59_b68)
  have G103 : Fld Z h100 b59 "com/example/knotwise/knotwise/Placement" "first" "[I" (.ref af_66) := G87.other W100 (Or.inl ne_b59_b68)
  have G104 : Fld Z h100 b59 "com/example/knotwise/knotwise/Placement" "last" "[I" (.ref al_66) := G88.other W100 (Or.inl ne_b59_b68)
  have G105 : Fld Z h100 b59 "com/example/knotwise/knotwise/Placement" "count" "[I" (.ref ac_66) := G89.other W100 (Or.inl ne_b59_b68)
  have G106 : Fld Z h100 b59 "com/example/knotwise/knotwise/Placement" "next" "[I" (.ref an_66) := G90.other W100 (Or.inl ne_b59_b68)
  have G107 : Fld Z h100 b59 "com/example/knotwise/knotwise/Placement" "previous" "[I" (.ref ap_66) := G91.other W100 (Or.inl ne_b59_b68)
  have G108 : VA Z h100 aw_66 .int ([(-1 : Int32), (-1 : Int32), (-1 : Int32)].map Value.int) := G92.other W100 ne_aw_66_b68
  have G109 : VA Z h100 af_66 .int ([(-1 : Int32), (-1 : Int32)].map Value.int) := G93.other W100 ne_af_66_b68
  have G110 : VA Z h100 al_66 .int ([(-1 : Int32), (-1 : Int32)].map Value.int) := G94.other W100 ne_al_66_b68
  have G111 : VA Z h100 ac_66 .int ([(0 : Int32), (0 : Int32)].map Value.int) := G95.other W100 ne_ac_66_b68
  have G112 : VA Z h100 an_66 .int ([(0 : Int32), (0 : Int32), (0 : Int32)].map Value.int) := G96.other W100 ne_an_66_b68
  have G113 : VA Z h100 ap_66 .int ([(0 : Int32), (0 : Int32), (0 : Int32)].map Value.int) := G97.other W100 ne_ap_66_b68
  have G114 : VA Z h100 b68 .int ([(-1 : Int32), (-1 : Int32), (0 : Int32)].map Value.int) := V100
  have N100 := Fr.snoc X100 N84 g_b68
  have K100 : Keep h0 h100 [] := Keep.wr K84 W100 (Or.inr sz_b68)
  have Z100 : n0 ≤ h100.size := Nat.le_trans Z0 K100.1
  have ix115 : 0 ≤ ((2 : Int32)).toInt ∧ ((2 : Int32)).toInt < (([(-1 : Int32), (-1 : Int32), (0 : Int32)]).length : Int) := by constructor <;> first | decide | (simp; done)
  obtain ⟨T116, h116, X116, e116, W116, V116, st116⟩ := putI X100 hx hZ e100 G114 ix115.1 ix115.2 (g := (mkF m 25 #[.val (.int p1), .val (.int p2), .val (.int p3), .val (.int p4), .val (.int p5), .val (.ref b59), .unset, .unset, .unset, .unset, .unset] [(.int (-1 : Int32)), (.int (2 : Int32)), (.ref b68), (.ref b68)])) rfl rfl (hb hby at_25)
  have G117 : Exa Z h116 b59 "com/example/knotwise/knotwise/Placement" := G101.wr W116
  have G118 : Fld Z h116 b59 "com/example/knotwise/knotwise/Placement" "wives" "[I" (.ref aw_66) := G102.other W116 (Or.inl ne_b59_b68)
  have G119 : Fld Z h116 b59 "com/example/knotwise/knotwise/Placement" "first" "[I" (.ref af_66) := G103.other W116 (Or.inl ne_b59_b68)
  have G120 : Fld Z h116 b59 "com/example/knotwise/knotwise/Placement" "last" "[I" (.ref al_66) := G104.other W116 (Or.inl ne_b59_b68)
  have G121 : Fld Z h116 b59 "com/example/knotwise/knotwise/Placement" "count" "[I" (.ref ac_66) := G105.other W116 (Or.inl ne_b59_b68)
  have G122 : Fld Z h116 b59 "com/example/knotwise/knotwise/Placement" "next" "[I" (.ref an_66) := G106.other W116 (Or.inl ne_b59_b68)
  have G123 : Fld Z h116 b59 "com/example/knotwise/knotwise/Placement" "previous" "[I" (.ref ap_66) := G107.other W116 (Or.inl ne_b59_b68)
  have G124 : VA Z h116 aw_66 .int ([(-1 : Int32), (-1 : Int32), (-1 : Int32)].map Value.int) := G108.other W116 ne_aw_66_b68
  have G125 : VA Z h116 af_66 .int ([(-1 : Int32), (-1 : Int32)].map Value.int) := G109.other W116 ne_af_66_b68
  have G126 : VA Z h116 al_66 .int ([(-1 : Int32), (-1 : Int32)].map Value.int) := G110.other W116 ne_al_66_b68
  have G127 : VA Z h116 ac_66 .int ([(0 : Int32), (0 : Int32)].map Value.int) := G111.other W116 ne_ac_66_b68
  have G128 : VA Z h116 an_66 .int ([(0 : Int32), (0 : Int32), (0 : Int32)].map Value.int) := G112.other W116 ne_an_66_b68
  have G129 : VA Z h116 ap_66 .int ([(0 : Int32), (0 : Int32), (0 : Int32)].map Value.int) := G113.other W116 ne_ap_66_b68
  have G130 : VA Z h116 b68 .int ([(-1 : Int32), (-1 : Int32), (-1 : Int32)].map Value.int) := V116
  have N116 := Fr.snoc X116 N100 g_b68
  have K116 : Keep h0 h116 [] := Keep.wr K100 W116 (Or.inr sz_b68)
  have Z116 : n0 ≤ h116.size := Nat.le_trans Z0 K116.1
  obtain ⟨T131, h131, X131, e131, E131, A131, st131⟩ := newI X116 hx hZ (hw _ (List.mem_of_getElem? (i := 9) rfl)) e116 (g := (mkF m 29 #[.val (.int p1), .val (.int p2), .val (.int p3), .val (.int p4), .val (.int p5), .val (.ref b59), .val (.ref b68), .unset, .unset, .unset, .unset] [(.int (3 : Int32))])) rfl (hb hby at_29) rfl (by decide) (cap := 3) (by decide) (by decide) (Nat.le_trans (Nat.add_le_add_right (Nat.add_le_add_right (Nat.add_le_add_right (Nat.add_le_add_right (Nat.le_refl 0) 1) 6) 1) 1) (by decide)) (Nat.le_trans (Nat.add_le_add_right (Nat.add_le_add_right (Nat.add_le_add_right (Nat.add_le_add_right (Nat.le_refl 0) 6) 15) 3) 3) (by decide))
  obtain ⟨b131, g131⟩ : ∃ z, z = h116.size := ⟨_, rfl⟩
  rw [← g131] at A131 st131
  have ne_b59_b131 : b59 ≠ b131 := Nat.ne_of_lt (Nat.lt_of_lt_of_le G117.lt (Nat.le_of_eq g131.symm))
  have ne_aw_66_b131 : aw_66 ≠ b131 := Nat.ne_of_lt (Nat.lt_of_lt_of_le G124.lt (Nat.le_of_eq g131.symm))
  have ne_af_66_b131 : af_66 ≠ b131 := Nat.ne_of_lt (Nat.lt_of_lt_of_le G125.lt (Nat.le_of_eq g131.symm))
  have ne_al_66_b131 : al_66 ≠ b131 := Nat.ne_of_lt (Nat.lt_of_lt_of_le G126.lt (Nat.le_of_eq g131.symm))
  have ne_ac_66_b131 : ac_66 ≠ b131 := Nat.ne_of_lt (Nat.lt_of_lt_of_le G127.lt (Nat.le_of_eq g131.symm))
  have ne_an_66_b131 : an_66 ≠ b131 := Nat.ne_of_lt (Nat.lt_of_lt_of_le G128.lt (Nat.le_of_eq g131.symm))
  have ne_ap_66_b131 : ap_66 ≠ b131 := Nat.ne_of_lt (Nat.lt_of_lt_of_le G129.lt (Nat.le_of_eq g131.symm))
  have ne_b68_b131 : b68 ≠ b131 := Nat.ne_of_lt (Nat.lt_of_lt_of_le G130.lt (Nat.le_of_eq g131.symm))
  have G132 : Exa Z h131 b59 "com/example/knotwise/knotwise/Placement" := G117.ext E131
  have G133 : Fld Z h131 b59 "com/example/knotwise/knotwise/Placement" "wives" "[I" (.ref aw_66) := G118.ext E131
  have G134 : Fld Z h131 b59 "com/example/knotwise/knotwise/Placement" "first" "[I" (.ref af_66) := G119.ext E131
  have G135 : Fld Z h131 b59 "com/example/knotwise/knotwise/Placement" "last" "[I" (.ref al_66) := G120.ext E131
  have G136 : Fld Z h131 b59 "com/example/knotwise/knotwise/Placement" "count" "[I" (.ref ac_66) := G121.ext E131
  have G137 : Fld Z h131 b59 "com/example/knotwise/knotwise/Placement" "next" "[I" (.ref an_66) := G122.ext E131
  have G138 : Fld Z h131 b59 "com/example/knotwise/knotwise/Placement" "previous" "[I" (.ref ap_66) := G123.ext E131
  have G139 : VA Z h131 aw_66 .int ([(-1 : Int32), (-1 : Int32), (-1 : Int32)].map Value.int) := G124.ext E131
  have G140 : VA Z h131 af_66 .int ([(-1 : Int32), (-1 : Int32)].map Value.int) := G125.ext E131
  have G141 : VA Z h131 al_66 .int ([(-1 : Int32), (-1 : Int32)].map Value.int) := G126.ext E131
  have G142 : VA Z h131 ac_66 .int ([(0 : Int32), (0 : Int32)].map Value.int) := G127.ext E131
  have G143 : VA Z h131 an_66 .int ([(0 : Int32), (0 : Int32), (0 : Int32)].map Value.int) := G128.ext E131
  have G144 : VA Z h131 ap_66 .int ([(0 : Int32), (0 : Int32), (0 : Int32)].map Value.int) := G129.ext E131
  have G145 : VA Z h131 b68 .int ([(-1 : Int32), (-1 : Int32), (-1 : Int32)].map Value.int) := G130.ext E131
  have g_b131 : n0 ≤ b131 := Nat.le_trans Z116 (Nat.le_of_eq g131.symm)
  have sz_b131 : h0.size ≤ b131 := Nat.le_trans K116.1 (Nat.le_of_eq g131.symm)
  have K131 : Keep h0 h131 [] := Keep.ext K116 E131
  have Z131 : n0 ≤ h131.size := Nat.le_trans Z0 K131.1
  have G146 : VA Z h131 b131 .int ([(0 : Int32), (0 : Int32), (0 : Int32)].map Value.int) := A131
  have ix147 : 0 ≤ ((0 : Int32)).toInt ∧ ((0 : Int32)).toInt < (([(0 : Int32), (0 : Int32), (0 : Int32)]).length : Int) := by constructor <;> first | decide | (simp; done)
  obtain ⟨T148, h148, X148, e148, W148, V148, st148⟩ := putI X131 hx hZ e131 G146 ix147.1 ix147.2 (g := (mkF m 34 #[.val (.int p1), .val (.int p2), .val (.int p3), .val (.int p4), .val (.int p5), .val (.ref b59), .val (.ref b68), .unset, .unset, .unset, .unset] [(.int (-1 : Int32)), (.int (0 : Int32)), (.ref b131), (.ref b131)])) rfl rfl (hb hby at_34)
  have G149 : Exa Z h148 b59 "com/example/knotwise/knotwise/Placement" := G132.wr W148
  have G150 : Fld Z h148 b59 "com/example/knotwise/knotwise/Placement" "wives" "[I" (.ref aw_66) := G133.other W148 (Or.inl ne_b59_b131)
  have G151 : Fld Z h148 b59 "com/example/knotwise/knotwise/Placement" "first" "[I" (.ref af_66) := G134.other W148 (Or.inl ne_b59_b131)
  have G152 : Fld Z h148 b59 "com/example/knotwise/knotwise/Placement" "last" "[I" (.ref al_66) := G135.other W148 (Or.inl ne_b59_b131)
  have G153 : Fld Z h148 b59 "com/example/knotwise/knotwise/Placement" "count" "[I" (.ref ac_66) := G136.other W148 (Or.inl ne_b59_b131)
  have G154 : Fld Z h148 b59 "com/example/knotwise/knotwise/Placement" "next" "[I" (.ref an_66) := G137.other W148 (Or.inl ne_b59_b131)
  have G155 : Fld Z h148 b59 "com/example/knotwise/knotwise/Placement" "previous" "[I" (.ref ap_66) := G138.other W148 (Or.inl ne_b59_b131)
  have G156 : VA Z h148 aw_66 .int ([(-1 : Int32), (-1 : Int32), (-1 : Int32)].map Value.int) := G139.other W148 ne_aw_66_b131
  have G157 : VA Z h148 af_66 .int ([(-1 : Int32), (-1 : Int32)].map Value.int) := G140.other W148 ne_af_66_b131
  have G158 : VA Z h148 al_66 .int ([(-1 : Int32), (-1 : Int32)].map Value.int) := G141.other W148 ne_al_66_b131
  have G159 : VA Z h148 ac_66 .int ([(0 : Int32), (0 : Int32)].map Value.int) := G142.other W148 ne_ac_66_b131
  have G160 : VA Z h148 an_66 .int ([(0 : Int32), (0 : Int32), (0 : Int32)].map Value.int) := G143.other W148 ne_an_66_b131
  have G161 : VA Z h148 ap_66 .int ([(0 : Int32), (0 : Int32), (0 : Int32)].map Value.int) := G144.other W148 ne_ap_66_b131
  have G162 : VA Z h148 b68 .int ([(-1 : Int32), (-1 : Int32), (-1 : Int32)].map Value.int) := G145.other W148 ne_b68_b131
  have G163 : VA Z h148 b131 .int ([(-1 : Int32), (0 : Int32), (0 : Int32)].map Value.int) := V148
  have N148 := Fr.snoc X148 N116 g_b131
  have K148 : Keep h0 h148 [] := Keep.wr K131 W148 (Or.inr sz_b131)
  have Z148 : n0 ≤ h148.size := Nat.le_trans Z0 K148.1
  have ix164 : 0 ≤ ((1 : Int32)).toInt ∧ ((1 : Int32)).toInt < (([(-1 : Int32), (0 : Int32), (0 : Int32)]).length : Int) := by constructor <;> first | decide | (simp; done)
  obtain ⟨T165, h165, X165, e165, W165, V165, st165⟩ := putI X148 hx hZ e148 G163 ix164.1 ix164.2 (g := (mkF m 38 #[.val (.int p1), .val (.int p2), .val (.int p3), .val (.int p4), .val (.int p5), .val (.ref b59), .val (.ref b68), .unset, .unset, .unset, .unset] [(.int (-1 : Int32)), (.int (1 : Int32)), (.ref b131), (.ref b131)])) rfl rfl (hb hby at_38)
  have G166 : Exa Z h165 b59 "com/example/knotwise/knotwise/Placement" := G149.wr W165
  have G167 : Fld Z h165 b59 "com/example/knotwise/knotwise/Placement" "wives" "[I" (.ref aw_66) := G150.other W165 (Or.inl ne_b59_b131)
  have G168 : Fld Z h165 b59 "com/example/knotwise/knotwise/Placement" "first" "[I" (.ref af_66) := G151.other W165 (Or.inl ne_b59_b131)
  have G169 : Fld Z h165 b59 "com/example/knotwise/knotwise/Placement" "last" "[I" (.ref al_66) := G152.other W165 (Or.inl ne_b59_b131)
  have G170 : Fld Z h165 b59 "com/example/knotwise/knotwise/Placement" "count" "[I" (.ref ac_66) := G153.other W165 (Or.inl ne_b59_b131)
  have G171 : Fld Z h165 b59 "com/example/knotwise/knotwise/Placement" "next" "[I" (.ref an_66) := G154.other W165 (Or.inl ne_b59_b131)
  have G172 : Fld Z h165 b59 "com/example/knotwise/knotwise/Placement" "previous" "[I" (.ref ap_66) := G155.other W165 (Or.inl ne_b59_b131)
  have G173 : VA Z h165 aw_66 .int ([(-1 : Int32), (-1 : Int32), (-1 : Int32)].map Value.int) := G156.other W165 ne_aw_66_b131
  have G174 : VA Z h165 af_66 .int ([(-1 : Int32), (-1 : Int32)].map Value.int) := G157.other W165 ne_af_66_b131
  have G175 : VA Z h165 al_66 .int ([(-1 : Int32), (-1 : Int32)].map Value.int) := G158.other W165 ne_al_66_b131
  have G176 : VA Z h165 ac_66 .int ([(0 : Int32), (0 : Int32)].map Value.int) := G159.other W165 ne_ac_66_b131
  have G177 : VA Z h165 an_66 .int ([(0 : Int32), (0 : Int32), (0 : Int32)].map Value.int) := G160.other W165 ne_an_66_b131
  have G178 : VA Z h165 ap_66 .int ([(0 : Int32), (0 : Int32), (0 : Int32)].map Value.int) := G161.other W165 ne_ap_66_b131
  have G179 : VA Z h165 b68 .int ([(-1 : Int32), (-1 : Int32), (-1 : Int32)].map Value.int) := G162.other W165 ne_b68_b131
  have G180 : VA Z h165 b131 .int ([(-1 : Int32), (-1 : Int32), (0 : Int32)].map Value.int) := V165
  have N165 := Fr.snoc X165 N148 g_b131
  have K165 : Keep h0 h165 [] := Keep.wr K148 W165 (Or.inr sz_b131)
  have Z165 : n0 ≤ h165.size := Nat.le_trans Z0 K165.1
  have ix181 : 0 ≤ ((2 : Int32)).toInt ∧ ((2 : Int32)).toInt < (([(-1 : Int32), (-1 : Int32), (0 : Int32)]).length : Int) := by constructor <;> first | decide | (simp; done)
  obtain ⟨T182, h182, X182, e182, W182, V182, st182⟩ := putI X165 hx hZ e165 G180 ix181.1 ix181.2 (g := (mkF m 42 #[.val (.int p1), .val (.int p2), .val (.int p3), .val (.int p4), .val (.int p5), .val (.ref b59), .val (.ref b68), .unset, .unset, .unset, .unset] [(.int (-1 : Int32)), (.int (2 : Int32)), (.ref b131), (.ref b131)])) rfl rfl (hb hby at_42)
  have G183 : Exa Z h182 b59 "com/example/knotwise/knotwise/Placement" := G166.wr W182
  have G184 : Fld Z h182 b59 "com/example/knotwise/knotwise/Placement" "wives" "[I" (.ref aw_66) := G167.other W182 (Or.inl ne_b59_b131)
  have G185 : Fld Z h182 b59 "com/example/knotwise/knotwise/Placement" "first" "[I" (.ref af_66) := G168.other W182 (Or.inl ne_b59_b131)
  have G186 : Fld Z h182 b59 "com/example/knotwise/knotwise/Placement" "last" "[I" (.ref al_66) := G169.other W182 (Or.inl ne_b59_b131)
  have G187 : Fld Z h182 b59 "com/example/knotwise/knotwise/Placement" "count" "[I" (.ref ac_66) := G170.other W182 (Or.inl ne_b59_b131)
  have G188 : Fld Z h182 b59 "com/example/knotwise/knotwise/Placement" "next" "[I" (.ref an_66) := G171.other W182 (Or.inl ne_b59_b131)
  have G189 : Fld Z h182 b59 "com/example/knotwise/knotwise/Placement" "previous" "[I" (.ref ap_66) := G172.other W182 (Or.inl ne_b59_b131)
  have G190 : VA Z h182 aw_66 .int ([(-1 : Int32), (-1 : Int32), (-1 : Int32)].map Value.int) := G173.other W182 ne_aw_66_b131
  have G191 : VA Z h182 af_66 .int ([(-1 : Int32), (-1 : Int32)].map Value.int) := G174.other W182 ne_af_66_b131
  have G192 : VA Z h182 al_66 .int ([(-1 : Int32), (-1 : Int32)].map Value.int) := G175.other W182 ne_al_66_b131
  have G193 : VA Z h182 ac_66 .int ([(0 : Int32), (0 : Int32)].map Value.int) := G176.other W182 ne_ac_66_b131
  have G194 : VA Z h182 an_66 .int ([(0 : Int32), (0 : Int32), (0 : Int32)].map Value.int) := G177.other W182 ne_an_66_b131
  have G195 : VA Z h182 ap_66 .int ([(0 : Int32), (0 : Int32), (0 : Int32)].map Value.int) := G178.other W182 ne_ap_66_b131
  have G196 : VA Z h182 b68 .int ([(-1 : Int32), (-1 : Int32), (-1 : Int32)].map Value.int) := G179.other W182 ne_b68_b131
  have G197 : VA Z h182 b131 .int ([(-1 : Int32), (-1 : Int32), (-1 : Int32)].map Value.int) := V182
  have N182 := Fr.snoc X182 N165 g_b131
  have K182 : Keep h0 h182 [] := Keep.wr K165 W182 (Or.inr sz_b131)
  have Z182 : n0 ≤ h182.size := Nat.le_trans Z0 K182.1
  obtain ⟨_, _, ⟨T198, L198, k198, n198⟩, -, X198, ⟨Lc198, hQ198, l198, y198, z198⟩, st198⟩ := Jvm.LawKit.callS X182 hx (y := (⟨"com/example/knotwise/knotwise/PlacementPlacePinLaw", "step", "(Lcom/example/knotwise/knotwise/Placement;[I[III)V"⟩ : MethodName)) hown (mvT hZ (hw _ (List.mem_of_getElem? (i := 26) rfl))) (mvT hZ (hw _ (List.mem_of_getElem? (i := 27) rfl))) (mvT hZ (hw _ (List.mem_of_getElem? (i := 28) rfl))) (mvT hZ (hw _ (List.mem_of_getElem? (i := 29) rfl))) (by decide) (backOf (W := 0) (rm_stpF l Z a0 hw [] b59 b68 b131 p1 (0 : Int32) aw_66 af_66 al_66 ac_66 an_66 ap_66 [(-1 : Int32), (-1 : Int32), (-1 : Int32)] [(-1 : Int32), (-1 : Int32)] [(-1 : Int32), (-1 : Int32)] [(0 : Int32), (0 : Int32)] [(0 : Int32), (0 : Int32), (0 : Int32)] [(0 : Int32), (0 : Int32), (0 : Int32)] [(-1 : Int32), (-1 : Int32), (-1 : Int32)] [(-1 : Int32), (-1 : Int32), (-1 : Int32)] h182 n0 Z182 G183 G184 G185 G186 G187 G188 G189 G190 G191 G192 G193 G194 G195 G196 G197 g_aw_66 g_af_66 g_al_66 g_ac_66 g_an_66 g_ap_66 g_b68 g_b131 ne_b59_aw_66 ne_b59_af_66 ne_b59_al_66 ne_b59_ac_66 ne_b59_an_66 ne_b59_ap_66 ne_aw_66_af_66 ne_aw_66_al_66 ne_aw_66_ac_66 ne_aw_66_an_66 ne_aw_66_ap_66 ne_af_66_al_66 ne_af_66_ac_66 ne_af_66_an_66 ne_af_66_ap_66 ne_al_66_ac_66 ne_al_66_an_66 ne_al_66_ap_66 ne_ac_66_an_66 ne_ac_66_ap_66 ne_an_66_ap_66 ne_b59_b68 ne_b59_b131 ne_aw_66_b68 ne_aw_66_b131 ne_af_66_b68 ne_af_66_b131 ne_al_66_b68 ne_al_66_b131 ne_ac_66_b68 ne_ac_66_b131 ne_an_66_b68 ne_an_66_b131 ne_ap_66_b68 ne_ap_66_b131 ne_b68_b131 own_I0 rfl rfl) hZ (hw _ (List.mem_of_getElem? (i := 29) rfl)) (hw _ (List.mem_of_getElem? (i := 28) rfl)) (by decide) (by decide)) (g := (mkF m 53 #[.val (.int p1), .val (.int p2), .val (.int p3), .val (.int p4), .val (.int p5), .val (.ref b59), .val (.ref b68), .val (.ref b131), .unset, .unset, .unset] [(.int (0 : Int32)), (.int p1), (.ref b131), (.ref b68), (.ref b59)])) rfl (by rw [hml]; rfl) (argsL := [(.ref b59), (.ref b68), (.ref b131), (.int p1), (.int (0 : Int32))]) (rest := []) (lenOf pd_3 rfl) rfl (by show 2 * 0 + _ ≤ _; exact Nat.le_of_eq rfl) (hb hby at_53) (fun _ _ => ⟨rfl, e182, (Nat.le_trans (Nat.add_le_add_right (Nat.add_le_add_right (Nat.add_le_add_right (Nat.add_le_add_right (Nat.add_le_add_right (Nat.le_refl 0) 1) 6) 1) 1) 0) (by decide)), (Nat.le_trans (Nat.add_le_add_right (Nat.add_le_add_right (Nat.add_le_add_right (Nat.add_le_add_right (Nat.add_le_add_right (Nat.le_refl 0) 6) 15) 3) 3) 0) (by decide))⟩)
  dsimp only [Pt.U, Pt.locs, Pt.cells, Pt.slots] at X198 l198 y198 z198 st198 hQ198
  subst l198 y198 z198
  obtain ⟨rfl, N198q, Kq198, pf198_0, pf198_1, pf198_2, pf198_3, pf198_4, pf198_5, pf198_6, pf198_7⟩ := hQ198
  have G199 : Exa Z T198.heap b59 "com/example/knotwise/knotwise/Placement" := Exa.keep G183 Kq198
  have G200 : Fld Z T198.heap b59 "com/example/knotwise/knotwise/Placement" "wives" "[I" (.ref aw_66) := G184.keep Kq198 (ninS ne_b59_aw_66 (ninS ne_b59_af_66 (ninS ne_b59_al_66 (ninS ne_b59_ac_66 (ninS ne_b59_an_66 (ninS ne_b59_ap_66 (ninS ne_b59_b68 (ninS ne_b59_b131 nin0))))))))
  have G201 : Fld Z T198.heap b59 "com/example/knotwise/knotwise/Placement" "first" "[I" (.ref af_66) := G185.keep Kq198 (ninS ne_b59_aw_66 (ninS ne_b59_af_66 (ninS ne_b59_al_66 (ninS ne_b59_ac_66 (ninS ne_b59_an_66 (ninS ne_b59_ap_66 (ninS ne_b59_b68 (ninS ne_b59_b131 nin0))))))))
  have G202 : Fld Z T198.heap b59 "com/example/knotwise/knotwise/Placement" "last" "[I" (.ref al_66) := G186.keep Kq198 (ninS ne_b59_aw_66 (ninS ne_b59_af_66 (ninS ne_b59_al_66 (ninS ne_b59_ac_66 (ninS ne_b59_an_66 (ninS ne_b59_ap_66 (ninS ne_b59_b68 (ninS ne_b59_b131 nin0))))))))
  have G203 : Fld Z T198.heap b59 "com/example/knotwise/knotwise/Placement" "count" "[I" (.ref ac_66) := G187.keep Kq198 (ninS ne_b59_aw_66 (ninS ne_b59_af_66 (ninS ne_b59_al_66 (ninS ne_b59_ac_66 (ninS ne_b59_an_66 (ninS ne_b59_ap_66 (ninS ne_b59_b68 (ninS ne_b59_b131 nin0))))))))
  have G204 : Fld Z T198.heap b59 "com/example/knotwise/knotwise/Placement" "next" "[I" (.ref an_66) := G188.keep Kq198 (ninS ne_b59_aw_66 (ninS ne_b59_af_66 (ninS ne_b59_al_66 (ninS ne_b59_ac_66 (ninS ne_b59_an_66 (ninS ne_b59_ap_66 (ninS ne_b59_b68 (ninS ne_b59_b131 nin0))))))))
  have G205 : Fld Z T198.heap b59 "com/example/knotwise/knotwise/Placement" "previous" "[I" (.ref ap_66) := G189.keep Kq198 (ninS ne_b59_aw_66 (ninS ne_b59_af_66 (ninS ne_b59_al_66 (ninS ne_b59_ac_66 (ninS ne_b59_an_66 (ninS ne_b59_ap_66 (ninS ne_b59_b68 (ninS ne_b59_b131 nin0))))))))
  have K198 : Keep h0 T198.heap [] := Keep.trans K182 Kq198 (allS (Or.inr sz_aw_66) (allS (Or.inr sz_af_66) (allS (Or.inr sz_al_66) (allS (Or.inr sz_ac_66) (allS (Or.inr sz_an_66) (allS (Or.inr sz_ap_66) (allS (Or.inr sz_b68) (allS (Or.inr sz_b131) all0))))))))
  have Z198 : n0 ≤ T198.heap.size := Nat.le_trans Z0 K198.1
  have N198 := Fr.app N182 N198q
  refine Go.step (T' := T198) (f' := (mkF m 56 #[.val (.int p1), .val (.int p2), .val (.int p3), .val (.int p4), .val (.int p5), .val (.ref b59), .val (.ref b68), .val (.ref b131), .unset, .unset, .unset] [])) (fun t kt => ?_) ?_
  · show Steps p.tables e below (s₁.setTop (mkF m 0 #[.val (.int p1), .val (.int p2), .val (.int p3), .val (.int p4), .val (.int p5), .unset, .unset, .unset, .unset, .unset, .unset] [])) _
    refine st59 _ ?_
    show Steps p.tables e below (T59.setTop (mkF m 3 #[.val (.int p1), .val (.int p2), .val (.int p3), .val (.int p4), .val (.int p5), .unset, .unset, .unset, .unset, .unset, .unset] [(.ref b59)])) _
    refine XS.dup X59.here hx rfl (hb hby at_3) rfl rfl ?_
    show Steps p.tables e below (T59.setTop (mkF m 4 #[.val (.int p1), .val (.int p2), .val (.int p3), .val (.int p4), .val (.int p5), .unset, .unset, .unset, .unset, .unset, .unset] [(.ref b59), (.ref b59)])) _
    refine XS.iconst X59.here hx rfl (hb hby at_4) ?_
    show Steps p.tables e below (T59.setTop (mkF m 5 #[.val (.int p1), .val (.int p2), .val (.int p3), .val (.int p4), .val (.int p5), .unset, .unset, .unset, .unset, .unset, .unset] [(.int (3 : Int32)), (.ref b59), (.ref b59)])) _
    refine XS.iconst X59.here hx rfl (hb hby at_5) ?_
    show Steps p.tables e below (T59.setTop (mkF m 6 #[.val (.int p1), .val (.int p2), .val (.int p3), .val (.int p4), .val (.int p5), .unset, .unset, .unset, .unset, .unset, .unset] [(.int (2 : Int32)), (.int (3 : Int32)), (.ref b59), (.ref b59)])) _
    refine st66.trans ?_
    show Steps p.tables e below (T66.setTop (mkF m 9 #[.val (.int p1), .val (.int p2), .val (.int p3), .val (.int p4), .val (.int p5), .unset, .unset, .unset, .unset, .unset, .unset] [(.ref b59)])) _
    refine XS.astore X66.here hx rfl (hb hby at_9) rfl rfl (l' := #[.val (.int p1), .val (.int p2), .val (.int p3), .val (.int p4), .val (.int p5), .val (.ref b59), .unset, .unset, .unset, .unset, .unset]) rfl ?_
    show Steps p.tables e below (T66.setTop (mkF m 11 #[.val (.int p1), .val (.int p2), .val (.int p3), .val (.int p4), .val (.int p5), .val (.ref b59), .unset, .unset, .unset, .unset, .unset] [])) _
    refine XS.iconst X66.here hx rfl (hb hby at_11) ?_
    show Steps p.tables e below (T66.setTop (mkF m 12 #[.val (.int p1), .val (.int p2), .val (.int p3), .val (.int p4), .val (.int p5), .val (.ref b59), .unset, .unset, .unset, .unset, .unset] [(.int (3 : Int32))])) _
    refine st68 _ ?_
    show Steps p.tables e below (T68.setTop (mkF m 14 #[.val (.int p1), .val (.int p2), .val (.int p3), .val (.int p4), .val (.int p5), .val (.ref b59), .unset, .unset, .unset, .unset, .unset] [(.ref b68)])) _
    refine XS.dup X68.here hx rfl (hb hby at_14) rfl rfl ?_
    show Steps p.tables e below (T68.setTop (mkF m 15 #[.val (.int p1), .val (.int p2), .val (.int p3), .val (.int p4), .val (.int p5), .val (.ref b59), .unset, .unset, .unset, .unset, .unset] [(.ref b68), (.ref b68)])) _
    refine XS.iconst X68.here hx rfl (hb hby at_15) ?_
    show Steps p.tables e below (T68.setTop (mkF m 16 #[.val (.int p1), .val (.int p2), .val (.int p3), .val (.int p4), .val (.int p5), .val (.ref b59), .unset, .unset, .unset, .unset, .unset] [(.int (0 : Int32)), (.ref b68), (.ref b68)])) _
    refine XS.iconst X68.here hx rfl (hb hby at_16) ?_
    show Steps p.tables e below (T68.setTop (mkF m 17 #[.val (.int p1), .val (.int p2), .val (.int p3), .val (.int p4), .val (.int p5), .val (.ref b59), .unset, .unset, .unset, .unset, .unset] [(.int (-1 : Int32)), (.int (0 : Int32)), (.ref b68), (.ref b68)])) _
    refine st84 _ ?_
    show Steps p.tables e below (T84.setTop (mkF m 18 #[.val (.int p1), .val (.int p2), .val (.int p3), .val (.int p4), .val (.int p5), .val (.ref b59), .unset, .unset, .unset, .unset, .unset] [(.ref b68)])) _
    refine XS.dup X84.here hx rfl (hb hby at_18) rfl rfl ?_
    show Steps p.tables e below (T84.setTop (mkF m 19 #[.val (.int p1), .val (.int p2), .val (.int p3), .val (.int p4), .val (.int p5), .val (.ref b59), .unset, .unset, .unset, .unset, .unset] [(.ref b68), (.ref b68)])) _
    refine XS.iconst X84.here hx rfl (hb hby at_19) ?_
    show Steps p.tables e below (T84.setTop (mkF m 20 #[.val (.int p1), .val (.int p2), .val (.int p3), .val (.int p4), .val (.int p5), .val (.ref b59), .unset, .unset, .unset, .unset, .unset] [(.int (1 : Int32)), (.ref b68), (.ref b68)])) _
    refine XS.iconst X84.here hx rfl (hb hby at_20) ?_
    show Steps p.tables e below (T84.setTop (mkF m 21 #[.val (.int p1), .val (.int p2), .val (.int p3), .val (.int p4), .val (.int p5), .val (.ref b59), .unset, .unset, .unset, .unset, .unset] [(.int (-1 : Int32)), (.int (1 : Int32)), (.ref b68), (.ref b68)])) _
    refine st100 _ ?_
    show Steps p.tables e below (T100.setTop (mkF m 22 #[.val (.int p1), .val (.int p2), .val (.int p3), .val (.int p4), .val (.int p5), .val (.ref b59), .unset, .unset, .unset, .unset, .unset] [(.ref b68)])) _
    refine XS.dup X100.here hx rfl (hb hby at_22) rfl rfl ?_
    show Steps p.tables e below (T100.setTop (mkF m 23 #[.val (.int p1), .val (.int p2), .val (.int p3), .val (.int p4), .val (.int p5), .val (.ref b59), .unset, .unset, .unset, .unset, .unset] [(.ref b68), (.ref b68)])) _
    refine XS.iconst X100.here hx rfl (hb hby at_23) ?_
    show Steps p.tables e below (T100.setTop (mkF m 24 #[.val (.int p1), .val (.int p2), .val (.int p3), .val (.int p4), .val (.int p5), .val (.ref b59), .unset, .unset, .unset, .unset, .unset] [(.int (2 : Int32)), (.ref b68), (.ref b68)])) _
    refine XS.iconst X100.here hx rfl (hb hby at_24) ?_
    show Steps p.tables e below (T100.setTop (mkF m 25 #[.val (.int p1), .val (.int p2), .val (.int p3), .val (.int p4), .val (.int p5), .val (.ref b59), .unset, .unset, .unset, .unset, .unset] [(.int (-1 : Int32)), (.int (2 : Int32)), (.ref b68), (.ref b68)])) _
    refine st116 _ ?_
    show Steps p.tables e below (T116.setTop (mkF m 26 #[.val (.int p1), .val (.int p2), .val (.int p3), .val (.int p4), .val (.int p5), .val (.ref b59), .unset, .unset, .unset, .unset, .unset] [(.ref b68)])) _
    refine XS.astore X116.here hx rfl (hb hby at_26) rfl rfl (l' := #[.val (.int p1), .val (.int p2), .val (.int p3), .val (.int p4), .val (.int p5), .val (.ref b59), .val (.ref b68), .unset, .unset, .unset, .unset]) rfl ?_
    show Steps p.tables e below (T116.setTop (mkF m 28 #[.val (.int p1), .val (.int p2), .val (.int p3), .val (.int p4), .val (.int p5), .val (.ref b59), .val (.ref b68), .unset, .unset, .unset, .unset] [])) _
    refine XS.iconst X116.here hx rfl (hb hby at_28) ?_
    show Steps p.tables e below (T116.setTop (mkF m 29 #[.val (.int p1), .val (.int p2), .val (.int p3), .val (.int p4), .val (.int p5), .val (.ref b59), .val (.ref b68), .unset, .unset, .unset, .unset] [(.int (3 : Int32))])) _
    refine st131 _ ?_
    show Steps p.tables e below (T131.setTop (mkF m 31 #[.val (.int p1), .val (.int p2), .val (.int p3), .val (.int p4), .val (.int p5), .val (.ref b59), .val (.ref b68), .unset, .unset, .unset, .unset] [(.ref b131)])) _
    refine XS.dup X131.here hx rfl (hb hby at_31) rfl rfl ?_
    show Steps p.tables e below (T131.setTop (mkF m 32 #[.val (.int p1), .val (.int p2), .val (.int p3), .val (.int p4), .val (.int p5), .val (.ref b59), .val (.ref b68), .unset, .unset, .unset, .unset] [(.ref b131), (.ref b131)])) _
    refine XS.iconst X131.here hx rfl (hb hby at_32) ?_
    show Steps p.tables e below (T131.setTop (mkF m 33 #[.val (.int p1), .val (.int p2), .val (.int p3), .val (.int p4), .val (.int p5), .val (.ref b59), .val (.ref b68), .unset, .unset, .unset, .unset] [(.int (0 : Int32)), (.ref b131), (.ref b131)])) _
    refine XS.iconst X131.here hx rfl (hb hby at_33) ?_
    show Steps p.tables e below (T131.setTop (mkF m 34 #[.val (.int p1), .val (.int p2), .val (.int p3), .val (.int p4), .val (.int p5), .val (.ref b59), .val (.ref b68), .unset, .unset, .unset, .unset] [(.int (-1 : Int32)), (.int (0 : Int32)), (.ref b131), (.ref b131)])) _
    refine st148 _ ?_
    show Steps p.tables e below (T148.setTop (mkF m 35 #[.val (.int p1), .val (.int p2), .val (.int p3), .val (.int p4), .val (.int p5), .val (.ref b59), .val (.ref b68), .unset, .unset, .unset, .unset] [(.ref b131)])) _
    refine XS.dup X148.here hx rfl (hb hby at_35) rfl rfl ?_
    show Steps p.tables e below (T148.setTop (mkF m 36 #[.val (.int p1), .val (.int p2), .val (.int p3), .val (.int p4), .val (.int p5), .val (.ref b59), .val (.ref b68), .unset, .unset, .unset, .unset] [(.ref b131), (.ref b131)])) _
    refine XS.iconst X148.here hx rfl (hb hby at_36) ?_
    show Steps p.tables e below (T148.setTop (mkF m 37 #[.val (.int p1), .val (.int p2), .val (.int p3), .val (.int p4), .val (.int p5), .val (.ref b59), .val (.ref b68), .unset, .unset, .unset, .unset] [(.int (1 : Int32)), (.ref b131), (.ref b131)])) _
    refine XS.iconst X148.here hx rfl (hb hby at_37) ?_
    show Steps p.tables e below (T148.setTop (mkF m 38 #[.val (.int p1), .val (.int p2), .val (.int p3), .val (.int p4), .val (.int p5), .val (.ref b59), .val (.ref b68), .unset, .unset, .unset, .unset] [(.int (-1 : Int32)), (.int (1 : Int32)), (.ref b131), (.ref b131)])) _
    refine st165 _ ?_
    show Steps p.tables e below (T165.setTop (mkF m 39 #[.val (.int p1), .val (.int p2), .val (.int p3), .val (.int p4), .val (.int p5), .val (.ref b59), .val (.ref b68), .unset, .unset, .unset, .unset] [(.ref b131)])) _
    refine XS.dup X165.here hx rfl (hb hby at_39) rfl rfl ?_
    show Steps p.tables e below (T165.setTop (mkF m 40 #[.val (.int p1), .val (.int p2), .val (.int p3), .val (.int p4), .val (.int p5), .val (.ref b59), .val (.ref b68), .unset, .unset, .unset, .unset] [(.ref b131), (.ref b131)])) _
    refine XS.iconst X165.here hx rfl (hb hby at_40) ?_
    show Steps p.tables e below (T165.setTop (mkF m 41 #[.val (.int p1), .val (.int p2), .val (.int p3), .val (.int p4), .val (.int p5), .val (.ref b59), .val (.ref b68), .unset, .unset, .unset, .unset] [(.int (2 : Int32)), (.ref b131), (.ref b131)])) _
    refine XS.iconst X165.here hx rfl (hb hby at_41) ?_
    show Steps p.tables e below (T165.setTop (mkF m 42 #[.val (.int p1), .val (.int p2), .val (.int p3), .val (.int p4), .val (.int p5), .val (.ref b59), .val (.ref b68), .unset, .unset, .unset, .unset] [(.int (-1 : Int32)), (.int (2 : Int32)), (.ref b131), (.ref b131)])) _
    refine st182 _ ?_
    show Steps p.tables e below (T182.setTop (mkF m 43 #[.val (.int p1), .val (.int p2), .val (.int p3), .val (.int p4), .val (.int p5), .val (.ref b59), .val (.ref b68), .unset, .unset, .unset, .unset] [(.ref b131)])) _
    refine XS.astore X182.here hx rfl (hb hby at_43) rfl rfl (l' := #[.val (.int p1), .val (.int p2), .val (.int p3), .val (.int p4), .val (.int p5), .val (.ref b59), .val (.ref b68), .val (.ref b131), .unset, .unset, .unset]) rfl ?_
    show Steps p.tables e below (T182.setTop (mkF m 45 #[.val (.int p1), .val (.int p2), .val (.int p3), .val (.int p4), .val (.int p5), .val (.ref b59), .val (.ref b68), .val (.ref b131), .unset, .unset, .unset] [])) _
    refine XS.aload X182.here hx rfl (hb hby at_45) rfl rfl ?_
    show Steps p.tables e below (T182.setTop (mkF m 47 #[.val (.int p1), .val (.int p2), .val (.int p3), .val (.int p4), .val (.int p5), .val (.ref b59), .val (.ref b68), .val (.ref b131), .unset, .unset, .unset] [(.ref b59)])) _
    refine XS.aload X182.here hx rfl (hb hby at_47) rfl rfl ?_
    show Steps p.tables e below (T182.setTop (mkF m 49 #[.val (.int p1), .val (.int p2), .val (.int p3), .val (.int p4), .val (.int p5), .val (.ref b59), .val (.ref b68), .val (.ref b131), .unset, .unset, .unset] [(.ref b68), (.ref b59)])) _
    refine XS.aload X182.here hx rfl (hb hby at_49) rfl rfl ?_
    show Steps p.tables e below (T182.setTop (mkF m 51 #[.val (.int p1), .val (.int p2), .val (.int p3), .val (.int p4), .val (.int p5), .val (.ref b59), .val (.ref b68), .val (.ref b131), .unset, .unset, .unset] [(.ref b131), (.ref b68), (.ref b59)])) _
    refine XS.iloadN X182.here hx rfl (hb hby at_51) rfl ?_
    show Steps p.tables e below (T182.setTop (mkF m 52 #[.val (.int p1), .val (.int p2), .val (.int p3), .val (.int p4), .val (.int p5), .val (.ref b59), .val (.ref b68), .val (.ref b131), .unset, .unset, .unset] [(.int p1), (.ref b131), (.ref b68), (.ref b59)])) _
    refine XS.iconst X182.here hx rfl (hb hby at_52) ?_
    show Steps p.tables e below (T182.setTop (mkF m 53 #[.val (.int p1), .val (.int p2), .val (.int p3), .val (.int p4), .val (.int p5), .val (.ref b59), .val (.ref b68), .val (.ref b131), .unset, .unset, .unset] [(.int (0 : Int32)), (.int p1), (.ref b131), (.ref b68), (.ref b59)])) _
    refine st198 _ ?_
    exact kt
  exact S56 _ _ _ _ X198 (Nat.le_trans (Nat.add_le_add_right (Nat.add_le_add_right (Nat.add_le_add_right (Nat.add_le_add_right (Nat.add_le_add_right (Nat.le_refl 0) 1) 6) 1) 1) 0) (by decide)) (Nat.le_trans (Nat.add_le_add_right (Nat.add_le_add_right (Nat.add_le_add_right (Nat.add_le_add_right (Nat.add_le_add_right (Nat.le_refl 0) 6) 15) 3) 3) 0) (by decide)) T198.heap rfl N198 b59 aw_66 af_66 al_66 ac_66 an_66 ap_66 b68 b131 (stpF p1 (0 : Int32) [(-1 : Int32), (-1 : Int32), (-1 : Int32)] [(-1 : Int32), (-1 : Int32)] [(-1 : Int32), (-1 : Int32)] [(0 : Int32), (0 : Int32)] [(0 : Int32), (0 : Int32), (0 : Int32)] [(0 : Int32), (0 : Int32), (0 : Int32)] [(-1 : Int32), (-1 : Int32), (-1 : Int32)] [(-1 : Int32), (-1 : Int32), (-1 : Int32)]).1 (stpF p1 (0 : Int32) [(-1 : Int32), (-1 : Int32), (-1 : Int32)] [(-1 : Int32), (-1 : Int32)] [(-1 : Int32), (-1 : Int32)] [(0 : Int32), (0 : Int32)] [(0 : Int32), (0 : Int32), (0 : Int32)] [(0 : Int32), (0 : Int32), (0 : Int32)] [(-1 : Int32), (-1 : Int32), (-1 : Int32)] [(-1 : Int32), (-1 : Int32), (-1 : Int32)]).2.1 (stpF p1 (0 : Int32) [(-1 : Int32), (-1 : Int32), (-1 : Int32)] [(-1 : Int32), (-1 : Int32)] [(-1 : Int32), (-1 : Int32)] [(0 : Int32), (0 : Int32)] [(0 : Int32), (0 : Int32), (0 : Int32)] [(0 : Int32), (0 : Int32), (0 : Int32)] [(-1 : Int32), (-1 : Int32), (-1 : Int32)] [(-1 : Int32), (-1 : Int32), (-1 : Int32)]).2.2.1 (stpF p1 (0 : Int32) [(-1 : Int32), (-1 : Int32), (-1 : Int32)] [(-1 : Int32), (-1 : Int32)] [(-1 : Int32), (-1 : Int32)] [(0 : Int32), (0 : Int32)] [(0 : Int32), (0 : Int32), (0 : Int32)] [(0 : Int32), (0 : Int32), (0 : Int32)] [(-1 : Int32), (-1 : Int32), (-1 : Int32)] [(-1 : Int32), (-1 : Int32), (-1 : Int32)]).2.2.2.1 (stpF p1 (0 : Int32) [(-1 : Int32), (-1 : Int32), (-1 : Int32)] [(-1 : Int32), (-1 : Int32)] [(-1 : Int32), (-1 : Int32)] [(0 : Int32), (0 : Int32)] [(0 : Int32), (0 : Int32), (0 : Int32)] [(0 : Int32), (0 : Int32), (0 : Int32)] [(-1 : Int32), (-1 : Int32), (-1 : Int32)] [(-1 : Int32), (-1 : Int32), (-1 : Int32)]).2.2.2.2.1 (stpF p1 (0 : Int32) [(-1 : Int32), (-1 : Int32), (-1 : Int32)] [(-1 : Int32), (-1 : Int32)] [(-1 : Int32), (-1 : Int32)] [(0 : Int32), (0 : Int32)] [(0 : Int32), (0 : Int32), (0 : Int32)] [(0 : Int32), (0 : Int32), (0 : Int32)] [(-1 : Int32), (-1 : Int32), (-1 : Int32)] [(-1 : Int32), (-1 : Int32), (-1 : Int32)]).2.2.2.2.2.1 (stpF p1 (0 : Int32) [(-1 : Int32), (-1 : Int32), (-1 : Int32)] [(-1 : Int32), (-1 : Int32)] [(-1 : Int32), (-1 : Int32)] [(0 : Int32), (0 : Int32)] [(0 : Int32), (0 : Int32), (0 : Int32)] [(0 : Int32), (0 : Int32), (0 : Int32)] [(-1 : Int32), (-1 : Int32), (-1 : Int32)] [(-1 : Int32), (-1 : Int32), (-1 : Int32)]).2.2.2.2.2.2.1 (stpF p1 (0 : Int32) [(-1 : Int32), (-1 : Int32), (-1 : Int32)] [(-1 : Int32), (-1 : Int32)] [(-1 : Int32), (-1 : Int32)] [(0 : Int32), (0 : Int32)] [(0 : Int32), (0 : Int32), (0 : Int32)] [(0 : Int32), (0 : Int32), (0 : Int32)] [(-1 : Int32), (-1 : Int32), (-1 : Int32)] [(-1 : Int32), (-1 : Int32), (-1 : Int32)]).2.2.2.2.2.2.2 K198 G199 G200 G201 G202 G203 G204 G205 pf198_0 pf198_1 pf198_2 pf198_3 pf198_4 pf198_5 pf198_6 pf198_7 g_b59 g_aw_66 g_af_66 g_al_66 g_ac_66 g_an_66 g_ap_66 g_b68 g_b131 sz_b59 sz_aw_66 sz_af_66 sz_al_66 sz_ac_66 sz_an_66 sz_ap_66 sz_b68 sz_b131 ne_b59_aw_66 ne_b59_af_66 ne_b59_al_66 ne_b59_ac_66 ne_b59_an_66 ne_b59_ap_66 ne_aw_66_af_66 ne_aw_66_al_66 ne_aw_66_ac_66 ne_aw_66_an_66 ne_aw_66_ap_66 ne_af_66_al_66 ne_af_66_ac_66 ne_af_66_an_66 ne_af_66_ap_66 ne_al_66_ac_66 ne_al_66_an_66 ne_al_66_ap_66 ne_ac_66_an_66 ne_ac_66_ap_66 ne_an_66_ap_66 ne_b59_b68 ne_aw_66_b68 ne_af_66_b68 ne_al_66_b68 ne_ac_66_b68 ne_an_66_b68 ne_ap_66_b68 ne_b59_b131 ne_aw_66_b131 ne_af_66_b131 ne_al_66_b131 ne_ac_66_b131 ne_an_66_b131 ne_ap_66_b131 ne_b68_b131 (own_sinv p1 _ _ _ _ _ _ _ _ _ own_I0 rfl rfl).1 (own_sinv p1 _ _ _ _ _ _ _ _ _ own_I0 rfl rfl).2.1 (own_sinv p1 _ _ _ _ _ _ _ _ _ own_I0 rfl rfl).2.2 hf
theorem own_key : ∀ a b c d e : Fin 6, lawF (Int32.ofNat a.val) (Int32.ofNat b.val) (Int32.ofNat c.val) (Int32.ofNat d.val) (Int32.ofNat e.val) = 1 := by decide +kernel
theorem own_rep (x : Int32) : ∃ k : Fin 6, stpF x = stpF (Int32.ofNat k.val) := by
  have h := c_and x 2147483647 (by decide)
  have k3 : (3 : Int32).toInt = 3 := rfl
  have k2 : (2 : Int32).toInt = 2 := rfl
  have a1 := own_rem (x &&& 2147483647) 3 h.1
  have a2 := own_div (x &&& 2147483647) 3 h.1 (by decide)
  rw [k3] at a1 a2
  have a3 := own_rem ((x &&& 2147483647) / 3) 2 (by omega)
  rw [k2] at a3
  have key : ∀ k : Fin 6, ((Int32.ofNat k.val &&& 2147483647) % 3).toInt = k.val % 3 ∧ (((Int32.ofNat k.val &&& 2147483647) / 3) % 2).toInt = k.val / 3 := by decide +kernel
  refine ⟨⟨((x &&& 2147483647).toInt % 6).toNat, by omega⟩, ?_⟩
  have q := key ⟨((x &&& 2147483647).toInt % 6).toNat, by omega⟩
  have e1 : (x &&& 2147483647) % 3 = (Int32.ofNat ((x &&& 2147483647).toInt % 6).toNat &&& 2147483647) % 3 := Int32.toInt_inj.mp (by rw [q.1]; simp only; omega)
  have e2 : ((x &&& 2147483647) / 3) % 2 = ((Int32.ofNat ((x &&& 2147483647).toInt % 6).toNat &&& 2147483647) / 3) % 2 := Int32.toInt_inj.mp (by rw [q.2]; simp only; omega)
  funext tim wl fl ll cl nl pl vl tl
  unfold stpF
  rw [e1, e2]
  rfl
theorem own_law (a b c d e : Int32) : lawF a b c d e = 1 := by
  obtain ⟨i1, h1⟩ := own_rep a
  obtain ⟨i2, h2⟩ := own_rep b
  obtain ⟨i3, h3⟩ := own_rep c
  obtain ⟨i4, h4⟩ := own_rep d
  obtain ⟨i5, h5⟩ := own_rep e
  have k := own_key i1 i2 i3 i4 i5
  unfold lawF at k ⊢
  rw [h1]
  unfold lawF_56 at k ⊢
  rw [h2]
  unfold lawF_67 at k ⊢
  rw [h3]
  unfold lawF_78 at k ⊢
  rw [h4]
  unfold lawF_89 at k ⊢
  rw [h5]
  exact k
set_option maxRecDepth 65536 in
set_option maxHeartbeats 40000000 in
theorem comes_1 {Post : Tables → Env → Array Value → State → Outcome → State → Prop} (hpost : ∀ tb e args s v u, (limb_1_1.after args s (.returned v) u = true ∧ limb_1_2.after args s (.returned v) u = true ∧ True) → FrameEnd s (.returned v) u (Jvm.fieldLocs frame_1_writes args s ++ Jvm.arrayLocs frame_1_arrays args s ++ Jvm.staticLocs frame_1_statics s) 32 128 → Post tb e args s (.returned v) u) :
    ArmFor flags0 classFile x code maxLocals ret World_1 tables_1 room_1 Calls_1 rest_1 Pre_1 Post := by
  intro l hfl _ _ p e ha hc hk s m args below hf hA hF happ hP
  obtain ⟨hcalls, hrest, hpre⟩ := hP
  obtain ⟨-, -, -, hnamed, -, -, -, hat⟩ := (Spec.applies_iff hf).mp happ
  obtain ⟨hg, hn⟩ := and_e (Cond.before_iff.mp (show (Jvm.Cond.and given_1 narrow_1).before args s = true from hpre))
  obtain ⟨g1, g2⟩ := and_e hg
  obtain ⟨g3, g4⟩ := and_e g2
  obtain ⟨g5, g6⟩ := and_e g4
  obtain ⟨g7, g8⟩ := and_e g6
  obtain ⟨g9, g10⟩ := and_e g8
  obtain ⟨w0, w1, w2, w3, w4, rfl⟩ : ∃ w0 w1 w2 w3 w4 : Value, args = #[w0, w1, w2, w3, w4] := by
    have hs : args.size = 5 := by simpa [Cond.value, given_1] using g1
    obtain ⟨L⟩ := args
    match L, hs with
    | [w0, w1, w2, w3, w4], _ => exact ⟨w0, w1, w2, w3, w4, rfl⟩
  have hw := fun d (hd : d ∈ tables_1) => atoms_spec (ws := Jvm.Cond.code x code maxLocals ret :: tables_1) hat d (List.mem_cons_of_mem _ hd)
  obtain ⟨i0, ei0⟩ := is_v g3
  obtain rfl : w0 = (.int i0) := Option.some.inj ei0
  obtain ⟨i1, ei1⟩ := is_v g5
  obtain rfl : w1 = (.int i1) := Option.some.inj ei1
  obtain ⟨i2, ei2⟩ := is_v g7
  obtain rfl : w2 = (.int i2) := Option.some.inj ei2
  obtain ⟨i3, ei3⟩ := is_v g9
  obtain rfl : w3 = (.int i3) := Option.some.inj ei3
  obtain ⟨i4, ei4⟩ := is_v g10
  obtain rfl : w4 = (.int i4) := Option.some.inj ei4
  obtain ⟨n, o, h1, h2, h3, _, L, rfl, ⟨hv, N⟩, hq⟩ := rm_0 l s _ hw tables_1 i0 i1 i2 i3 i4  s.heap s.heap.size (Nat.le_refl _)  p e ha hc hk s m _ below hf ((Spec.applies_iff_loose hf).mp happ).1 ⟨rfl, State.Warmed39.refl s, rfl⟩ trivial
  rw [own_law] at hv
  subst hv
  refine ⟨n, _, h1, h2, h3, hpost _ _ _ _ _ _ ⟨Cond.after_iff.mpr rfl, Cond.after_iff.mpr (eq_i res_at (Term.int_eval (1)) rfl), trivial⟩ ⟨hq.1, hq.2.1, (hq.2.2.sift fun y hy => Or.inr (N y hy)).mono (by decide) (by decide)⟩⟩
theorem main_1_1 : Claimed_1_1 := comes_1 fun _ _ _ _ _ _ h hF => ⟨h.1, hF⟩
theorem main_1_2 : Claimed_1_2 := comes_1 fun _ _ _ _ _ _ h hF => ⟨h.2.1, hF⟩
end Jvm.Pilot.@@N@@
namespace Jvm.Pilot.@@N@@
open Jvm Jvm.ClassFile Sem Op Lib Jvm.Free Jvm.Stand Jvm.Pilot.@@N@@.Jvm.D
/-! MADE BY PROGRAM (witnessworld.py) out of the Statement's table words and the real class files: 10 classes; the members and pool entries that the words name. The judged class is class 1, her method 1. -/
namespace start1
open Jvm.ClassFile
def u (s : String) : CpInfo := .utf8 (stringToUtf16 s)
/-- a pool by its gaps: so many unusable entries, then the entry; so many at the end -/
def gap : Nat → List CpInfo → List CpInfo
  | 0, r => r
  | n + 1, r => .unusable :: gap n r
def poolList (es : List (Nat × CpInfo)) (last : Nat) : List CpInfo := es.foldr (fun e r => gap e.1 (e.2 :: r)) (gap last [])
def pool (es : List (Nat × CpInfo)) (last : Nat) : Array CpInfo := ⟨poolList es last⟩
def fileOf (pool : Array CpInfo) (this : Nat) (attrs : Array Attribute := #[]) (ms : Array MethodInfo := #[]) (fl : Nat := 33) (sup : Nat := 0) (ifs : Array Nat := #[]) (fds : Array FieldInfo := #[]) : ClassFile where
  minorVersion := 0
  majorVersion := 65
  constantPool := pool
  accessFlags := fl
  thisClass := this
  superClass := sup
  interfaces := ifs
  fields := fds
  methods := ms
  attributes := attrs
def plain (name : String) (sup : Option ClassId) : Class where
  name := name
  kind := .ordinary
  loader := none
  accessFlags := 33
  super := sup
  interfaces := #[]
  cf := none
  fields := #[]
  methods := #[]
  instanceTypes := #[]
  staticTypes := #[]
  resolved := #[]
  callSites := []
  init := .initialized
  statics := none
  mirror := none

def pool0 : Array CpInfo := pool [(5, u "<init>"), (0, u "()V"), (1, .class_ 10), (1, u "java/lang/Object")] 113

def k0c0 : Code := { maxStack := 0, maxLocals := 1, code := object_method_1_code, exceptionTable := #[], attributes := #[] }
def k0m0 : Method := { name := "<init>", desc := "()V", sig := { parameters := [], returnType := none }, accessFlags := 1, code := some k0c0 }
/-- java/lang/Object -/
def k0 : Class := { plain "java/lang/Object" none with
  accessFlags := 33
  interfaces := #[]
  cf := some (fileOf pool0 8 #[] #[{ accessFlags := 1, nameIndex := 5, descriptorIndex := 6, attributes := #[] }] 33 0 #[] #[])
  fields := #[]
  methods := #[k0m0]
  instanceTypes := #[]
  staticTypes := #[]
  resolved := Array.replicate 124 none
  statics := none }

def pool1 : Array CpInfo := pool [(2, .class_ 4), (1, u "java/lang/Object"), (0, u "<init>"), (0, u "()V"), (0, .class_ 8), (0, u "com/example/knotwise/knotwise/Placement"), (0, .methodref 7 10), (0, .nameAndType 5 11), (0, u "(II)V"), (2, .methodref 15 16), (0, .class_ 17), (0, .nameAndType 18 19), (0, u "com/example/knotwise/knotwise/PlacementPlacePinLaw"), (0, u "step"), (0, u "(Lcom/example/knotwise/knotwise/Placement;[I[III)V"), (0, .methodref 7 21), (0, .nameAndType 22 23), (0, u "wife"), (0, u "(I)I"), (0, .methodref 15 25), (0, .nameAndType 26 27), (0, u "countRef"), (0, u "([II)I"), (0, .methodref 7 29), (0, .nameAndType 30 23), (0, u "count"), (0, .methodref 7 32), (0, .nameAndType 33 23), (0, u "last"), (0, .methodref 15 35), (0, .nameAndType 36 37), (0, u "lastRef"), (0, u "([I[II)I"), (0, .integer 2147483647), (0, .methodref 7 40), (0, .nameAndType 41 11), (0, u "place"), (2, u "law"), (0, u "(IIIII)Z")] 5

def k1m0 : Method := { name := "<init>", desc := "()V", sig := { parameters := [], returnType := none }, accessFlags := 1, code := none }
def k1c1 : Code := { maxStack := 5, maxLocals := 11, code := code, exceptionTable := #[], attributes := #[] }
def k1m1 : Method := { name := "law", desc := "(IIIII)Z", sig := { parameters := [.int, .int, .int, .int, .int], returnType := some .boolean }, accessFlags := 9, code := some k1c1 }
def k1c2 : Code := { maxStack := 3, maxLocals := 8, code := method_3_code, exceptionTable := #[], attributes := #[] }
def k1m2 : Method := { name := "step", desc := "(Lcom/example/knotwise/knotwise/Placement;[I[III)V", sig := { parameters := [(.object "com/example/knotwise/knotwise/Placement"), (.array .int), (.array .int), .int, .int], returnType := none }, accessFlags := 10, code := some k1c2 }
def k1c3 : Code := { maxStack := 2, maxLocals := 3, code := method_4_code, exceptionTable := #[], attributes := #[] }
def k1m3 : Method := { name := "countRef", desc := "([II)I", sig := { parameters := [(.array .int), .int], returnType := some .int }, accessFlags := 10, code := some k1c3 }
def k1c4 : Code := { maxStack := 2, maxLocals := 5, code := method_5_code, exceptionTable := #[], attributes := #[] }
def k1m4 : Method := { name := "lastRef", desc := "([I[II)I", sig := { parameters := [(.array .int), (.array .int), .int], returnType := some .int }, accessFlags := 10, code := some k1c4 }
/-- com/example/knotwise/knotwise/PlacementPlacePinLaw -/
def k1 : Class := { plain "com/example/knotwise/knotwise/PlacementPlacePinLaw" (some 0) with
  accessFlags := 49
  interfaces := #[]
  cf := some (fileOf pool1 15 #[] #[{ accessFlags := 1, nameIndex := 5, descriptorIndex := 6, attributes := #[] }, { accessFlags := 9, nameIndex := 44, descriptorIndex := 45, attributes := #[] }, { accessFlags := 10, nameIndex := 18, descriptorIndex := 19, attributes := #[] }, { accessFlags := 10, nameIndex := 26, descriptorIndex := 27, attributes := #[] }, { accessFlags := 10, nameIndex := 36, descriptorIndex := 37, attributes := #[] }] 49 2 #[] #[])
  fields := #[]
  methods := #[k1m0, k1m1, k1m2, k1m3, k1m4]
  instanceTypes := #[]
  staticTypes := #[]
  resolved := Array.replicate 51 none
  statics := none }

def pool2 : Array CpInfo := pool [(1, .methodref 2 3), (0, .class_ 4), (0, .nameAndType 5 6), (0, u "java/lang/Object"), (0, u "<init>"), (0, u "()V"), (0, .fieldref 8 9), (0, .class_ 10), (0, .nameAndType 11 12), (0, u "com/example/knotwise/knotwise/Placement"), (0, u "wives"), (0, u "[I"), (2, .methodref 16 17), (0, .class_ 18), (0, .nameAndType 19 20), (0, u "java/util/Arrays"), (0, u "fill"), (0, u "([II)V"), (0, .fieldref 8 22), (0, .nameAndType 23 12), (0, u "first"), (0, .fieldref 8 25), (0, .nameAndType 26 12), (0, u "last"), (0, .fieldref 8 28), (0, .nameAndType 29 12), (0, u "count"), (0, .fieldref 8 31), (0, .nameAndType 32 12), (0, u "next"), (0, .fieldref 8 34), (0, .nameAndType 35 12), (0, u "previous"), (5, u "(I)V"), (0, .methodref 8 43), (0, .nameAndType 44 41), (0, u "remove"), (5, u "NONE"), (0, u "I"), (2, u "(II)V"), (2, u "wife"), (0, u "(I)I"), (3, u "place")] 4

def k2c0 : Code := { maxStack := 2, maxLocals := 3, code := prog_13_method_1_code, exceptionTable := #[], attributes := #[] }
def k2m0 : Method := { name := "<init>", desc := "(II)V", sig := { parameters := [.int, .int], returnType := none }, accessFlags := 0, code := some k2c0 }
def k2c1 : Code := { maxStack := 2, maxLocals := 2, code := prog_13_method_2_code, exceptionTable := #[], attributes := #[] }
def k2m1 : Method := { name := "wife", desc := "(I)I", sig := { parameters := [.int], returnType := some .int }, accessFlags := 0, code := some k2c1 }
def k2c2 : Code := { maxStack := 2, maxLocals := 2, code := prog_13_method_3_code, exceptionTable := #[], attributes := #[] }
def k2m2 : Method := { name := "count", desc := "(I)I", sig := { parameters := [.int], returnType := some .int }, accessFlags := 0, code := some k2c2 }
def k2c3 : Code := { maxStack := 2, maxLocals := 2, code := prog_13_method_4_code, exceptionTable := #[], attributes := #[] }
def k2m3 : Method := { name := "last", desc := "(I)I", sig := { parameters := [.int], returnType := some .int }, accessFlags := 0, code := some k2c3 }
def k2c4 : Code := { maxStack := 4, maxLocals := 3, code := prog_13_method_6_code, exceptionTable := #[], attributes := #[] }
def k2m4 : Method := { name := "place", desc := "(II)V", sig := { parameters := [.int, .int], returnType := none }, accessFlags := 0, code := some k2c4 }
def k2c5 : Code := { maxStack := 4, maxLocals := 3, code := prog_13_method_7_code, exceptionTable := #[], attributes := #[] }
def k2m5 : Method := { name := "remove", desc := "(I)V", sig := { parameters := [.int], returnType := none }, accessFlags := 0, code := some k2c5 }
/-- com/example/knotwise/knotwise/Placement -/
def k2 : Class := { plain "com/example/knotwise/knotwise/Placement" (some 0) with
  accessFlags := 48
  interfaces := #[]
  cf := some (fileOf pool2 8 #[] #[{ accessFlags := 0, nameIndex := 5, descriptorIndex := 54, attributes := #[] }, { accessFlags := 0, nameIndex := 57, descriptorIndex := 58, attributes := #[] }, { accessFlags := 0, nameIndex := 29, descriptorIndex := 58, attributes := #[] }, { accessFlags := 0, nameIndex := 26, descriptorIndex := 58, attributes := #[] }, { accessFlags := 0, nameIndex := 62, descriptorIndex := 54, attributes := #[] }, { accessFlags := 0, nameIndex := 44, descriptorIndex := 41, attributes := #[] }] 48 2 #[] #[{ accessFlags := 26, nameIndex := 50, descriptorIndex := 51, attributes := #[] }, { accessFlags := 18, nameIndex := 11, descriptorIndex := 12, attributes := #[] }, { accessFlags := 18, nameIndex := 23, descriptorIndex := 12, attributes := #[] }, { accessFlags := 18, nameIndex := 26, descriptorIndex := 12, attributes := #[] }, { accessFlags := 18, nameIndex := 29, descriptorIndex := 12, attributes := #[] }, { accessFlags := 18, nameIndex := 32, descriptorIndex := 12, attributes := #[] }, { accessFlags := 18, nameIndex := 35, descriptorIndex := 12, attributes := #[] }])
  fields := #[{ name := "NONE", type := .int, accessFlags := 26, slot := 0, constantValue := 0 }, { name := "wives", type := (.array .int), accessFlags := 18, slot := 0, constantValue := 0 }, { name := "first", type := (.array .int), accessFlags := 18, slot := 1, constantValue := 0 }, { name := "last", type := (.array .int), accessFlags := 18, slot := 2, constantValue := 0 }, { name := "count", type := (.array .int), accessFlags := 18, slot := 3, constantValue := 0 }, { name := "next", type := (.array .int), accessFlags := 18, slot := 4, constantValue := 0 }, { name := "previous", type := (.array .int), accessFlags := 18, slot := 5, constantValue := 0 }]
  methods := #[k2m0, k2m1, k2m2, k2m3, k2m4, k2m5]
  instanceTypes := #[(.array .int), (.array .int), (.array .int), (.array .int), (.array .int), (.array .int)]
  staticTypes := #[.int]
  resolved := Array.replicate 67 none
  statics := none }

def pool3 : Array CpInfo := pool [(2, .class_ 4), (1, u "java/lang/Object"), (0, u "<init>"), (0, u "()V"), (7, .class_ 16), (1, u "java/util/Arrays"), (57, .class_ 76), (1, u "java/util/Arrays$NaturalOrder"), (36, .class_ 115), (1, u "java/util/Arrays$LegacyMergeSort"), (1, u "Z"), (257, .class_ 376), (0, u "java/util/Arrays$ArrayList"), (68, u "$assertionsDisabled"), (269, u "MIN_ARRAY_SORT_GRAN"), (0, u "I"), (2, u "INSERTIONSORT_THRESHOLD"), (120, u "fill"), (4, u "([II)V"), (129, .class_ 976), (0, u "java/util/Arrays$ArrayItr")] 52

def k3m0 : Method := { name := "<init>", desc := "()V", sig := { parameters := [], returnType := none }, accessFlags := 2, code := none }
def k3c1 : Code := { maxStack := 3, maxLocals := 4, code := jdk_65_method_103_code, exceptionTable := #[], attributes := #[] }
def k3m1 : Method := { name := "fill", desc := "([II)V", sig := { parameters := [(.array .int), .int], returnType := none }, accessFlags := 9, code := some k3c1 }
/-- java/util/Arrays -/
def k3 : Class := { plain "java/util/Arrays" (some 0) with
  accessFlags := 49
  interfaces := #[]
  cf := some (fileOf pool3 14 #[.nestMembers #[975, 375, 113, 74]] #[{ accessFlags := 2, nameIndex := 5, descriptorIndex := 6, attributes := #[] }, { accessFlags := 9, nameIndex := 840, descriptorIndex := 845, attributes := #[] }] 49 2 #[] #[{ accessFlags := 26, nameIndex := 715, descriptorIndex := 716, attributes := #[] }, { accessFlags := 26, nameIndex := 719, descriptorIndex := 716, attributes := #[] }, { accessFlags := 4120, nameIndex := 445, descriptorIndex := 117, attributes := #[] }])
  fields := #[{ name := "MIN_ARRAY_SORT_GRAN", type := .int, accessFlags := 26, slot := 0, constantValue := 0 }, { name := "INSERTIONSORT_THRESHOLD", type := .int, accessFlags := 26, slot := 1, constantValue := 0 }, { name := "$assertionsDisabled", type := .boolean, accessFlags := 4120, slot := 2, constantValue := 0 }]
  methods := #[k3m0, k3m1]
  instanceTypes := #[]
  staticTypes := #[.int, .int, .boolean]
  resolved := Array.replicate 1029 none
  statics := none }

def pool4 : Array CpInfo := pool [(1, u "java/lang/Cloneable"), (0, .class_ 1), (0, u "java/lang/Object"), (0, .class_ 3)] 3

/-- java/lang/Cloneable -/
def k4 : Class := { plain "java/lang/Cloneable" (some 0) with
  accessFlags := 1537
  interfaces := #[]
  cf := some (fileOf pool4 2 #[] #[] 1537 4 #[] #[])
  fields := #[]
  methods := #[]
  instanceTypes := #[]
  staticTypes := #[]
  resolved := Array.replicate 8 none
  statics := none }

def pool5 : Array CpInfo := pool [(1, u "java/io/Serializable"), (0, .class_ 1), (0, u "java/lang/Object"), (0, .class_ 3)] 3

/-- java/io/Serializable -/
def k5 : Class := { plain "java/io/Serializable" (some 0) with
  accessFlags := 1537
  interfaces := #[]
  cf := some (fileOf pool5 2 #[] #[] 1537 4 #[] #[])
  fields := #[]
  methods := #[]
  instanceTypes := #[]
  staticTypes := #[]
  resolved := Array.replicate 8 none
  statics := none }

/-- the primitive byte -/
def k6 : Class := { plain "byte" none with kind := .primitive 'B', accessFlags := 0x411 }
/-- [B -/
def k7 : Class := { plain "[B" (some 0) with kind := .array 6 .byte, interfaces := #[4, 5], accessFlags := 1041 }

/-- the primitive int -/
def k8 : Class := { plain "int" none with kind := .primitive 'I', accessFlags := 0x411 }
/-- [I -/
def k9 : Class := { plain "[I" (some 0) with kind := .array 8 .int, interfaces := #[4, 5], accessFlags := 1041 }

def heap : Heap := #[]
def classes : Array Class := #[k0, k1, k2, k3, k4, k5, k6, k7, k8, k9]
def interned : List (Array UInt16 × Addr) := []
def slotsUsed : Nat := 0
def theMethod : MethodId := ⟨1, 1⟩
def args0 : Array Value := #[.int 5, .int 3, .int 7, .int 2, .int 4]
def aboutOver (below : List Frame) : State where
  vm := { classes := classes, interned := interned.toArray }
  heap := heap
  slotsUsed := slotsUsed
  threads := #[{ frames := .invoking theMethod args0 :: below }]
def below0 : List Frame := [.native { method := ⟨0, 0⟩, args := #[] }]
def about1 : State := aboutOver below0
def p0 : Program := .bare "" "" ""
def e0 : Env := launch0.env 0 0 0
theorem w_frames : about1.frames = Frame.invoking theMethod args0 :: below0 := rfl
set_option maxRecDepth 65536 in
theorem w_args : argsFit about1.vm theMethod args0 = true := by decide +kernel
set_option maxRecDepth 65536 in
theorem w_heap : heapFits about1 = true := by decide +kernel
set_option maxRecDepth 65536 in
theorem w_runnable : about1.curStatus? = some .runnable := by decide +kernel
set_option maxRecDepth 65536 in
theorem w_alone : about1.alone = true := by decide +kernel
set_option maxRecDepth 65536 in
theorem w_named : about1.methodNamed? x = some theMethod := by decide +kernel
set_option maxRecDepth 65536 in
theorem w_hears : about1.hears theMethod below0 = true := by decide +kernel
set_option maxRecDepth 65536 in
theorem w_ripe : about1.ripe theMethod args0 below0 = true := by decide +kernel
theorem w_running : about1.status = .running := rfl
set_option maxRecDepth 65536 in
theorem w_room : about1.hasRoom e0.platform room_1 = true :=
  launch0.hasRoom_least _ room_1 (by decide +kernel) (by decide +kernel) (by decide +kernel) (by decide +kernel) (by decide +kernel) (by decide +kernel)
theorem allAtoms_all (ts : List Jvm.Cond) (a : Array Jvm.Value) (st : Jvm.State) : (allAtoms ts).before a st = ts.all (fun c => c.before a st) := by
  induction ts with
  | nil => rfl
  | cons c t ih =>
    show (Jvm.Cond.and c (allAtoms t)).before a st = _
    rw [Jvm.Cond.before_and, ih, List.all_cons]
def words1 : List Jvm.Cond := Jvm.Cond.code x code maxLocals ret :: tables_1
/-- a 'code' word, met by the world's own term for the bytes: nothing is compared byte by byte -/
theorem code_word {y : MethodName} {bytes : ByteArray} {mx : Nat} {rt : Option FieldType} {a : Array Value} {s : State} {m : MethodId} {meth : Method} {c : Code} (h1 : s.methodNamed? y = some m) (h2 : s.vm.method? m = some meth) (h3 : meth.code = some c) (h4 : c.code = bytes)
    (h5 : (c.maxLocals == mx && c.exceptionTable.isEmpty && decide (c.maxStack ≤ mostOperands) && decide (meth.sig.returnType = rt) && !meth.locks && decide (parseMethodDescriptor y.desc = some meth.sig)) = true) : (Jvm.Cond.code y bytes mx rt).before a s = true := by
  simp only [Bool.and_eq_true, beq_iff_eq, Bool.not_eq_true', decide_eq_true_eq] at h5
  obtain ⟨⟨⟨⟨⟨g1, g2⟩, g3⟩, g4⟩, g5⟩, g6⟩ := h5
  simp [Cond.before, Cond.holds, Cond.value, h1, h2, h3, h4, g1, g2, g3, g4, g5, g6]
def isCode : Jvm.Cond → Bool
  | .code _ _ _ _ => true
  | _ => false
theorem all_split {L : List Jvm.Cond} {P : Jvm.Cond → Bool} (h1 : L.all (fun c => isCode c || P c) = true) (h2 : ∀ c ∈ L.filter isCode, P c = true) : L.all P = true := by
  refine List.all_eq_true.mpr fun c hc => ?_
  have h := List.all_eq_true.mp h1 c hc
  rcases Bool.eq_false_or_eq_true (isCode c) with hi | hi
  · exact h2 c (List.mem_filter.mpr ⟨hc, hi⟩)
  · simpa [hi] using h
set_option maxRecDepth 65536 in
theorem w_c0 : (Jvm.Cond.code x code maxLocals ret).before args0 about1 = true := code_word (m := ⟨1, 1⟩) (meth := k1m1) (c := k1c1) (by decide +kernel) rfl rfl rfl (by decide +kernel)
set_option maxRecDepth 65536 in
theorem w_c1 : (Jvm.Cond.code ({ cls := "com/example/knotwise/knotwise/Placement", name := "<init>", desc := "(II)V" } : Jvm.MethodName) prog_13_method_1_code (3 : Nat) (Option.none : Option Jvm.ClassFile.FieldType)).before args0 about1 = true := code_word (m := ⟨2, 0⟩) (meth := k2m0) (c := k2c0) (by decide +kernel) rfl rfl rfl (by decide +kernel)
set_option maxRecDepth 65536 in
theorem w_c2 : (Jvm.Cond.code ({ cls := "java/lang/Object", name := "<init>", desc := "()V" } : Jvm.MethodName) object_method_1_code (1 : Nat) (Option.none : Option Jvm.ClassFile.FieldType)).before args0 about1 = true := code_word (m := ⟨0, 0⟩) (meth := k0m0) (c := k0c0) (by decide +kernel) rfl rfl rfl (by decide +kernel)
set_option maxRecDepth 65536 in
theorem w_c3 : (Jvm.Cond.code ({ cls := "java/util/Arrays", name := "fill", desc := "([II)V" } : Jvm.MethodName) jdk_65_method_103_code (4 : Nat) (Option.none : Option Jvm.ClassFile.FieldType)).before args0 about1 = true := code_word (m := ⟨3, 1⟩) (meth := k3m1) (c := k3c1) (by decide +kernel) rfl rfl rfl (by decide +kernel)
set_option maxRecDepth 65536 in
theorem w_c4 : (Jvm.Cond.code ({ cls := "com/example/knotwise/knotwise/PlacementPlacePinLaw", name := "step", desc := "(Lcom/example/knotwise/knotwise/Placement;[I[III)V" } : Jvm.MethodName) method_3_code (8 : Nat) (Option.none : Option Jvm.ClassFile.FieldType)).before args0 about1 = true := code_word (m := ⟨1, 2⟩) (meth := k1m2) (c := k1c2) (by decide +kernel) rfl rfl rfl (by decide +kernel)
set_option maxRecDepth 65536 in
theorem w_c5 : (Jvm.Cond.code ({ cls := "com/example/knotwise/knotwise/Placement", name := "place", desc := "(II)V" } : Jvm.MethodName) prog_13_method_6_code (3 : Nat) (Option.none : Option Jvm.ClassFile.FieldType)).before args0 about1 = true := code_word (m := ⟨2, 4⟩) (meth := k2m4) (c := k2c4) (by decide +kernel) rfl rfl rfl (by decide +kernel)
set_option maxRecDepth 65536 in
theorem w_c6 : (Jvm.Cond.code ({ cls := "com/example/knotwise/knotwise/Placement", name := "remove", desc := "(I)V" } : Jvm.MethodName) prog_13_method_7_code (3 : Nat) (Option.none : Option Jvm.ClassFile.FieldType)).before args0 about1 = true := code_word (m := ⟨2, 5⟩) (meth := k2m5) (c := k2c5) (by decide +kernel) rfl rfl rfl (by decide +kernel)
set_option maxRecDepth 65536 in
theorem w_c7 : (Jvm.Cond.code ({ cls := "com/example/knotwise/knotwise/Placement", name := "wife", desc := "(I)I" } : Jvm.MethodName) prog_13_method_2_code (2 : Nat) (Option.some Jvm.ClassFile.FieldType.int)).before args0 about1 = true := code_word (m := ⟨2, 1⟩) (meth := k2m1) (c := k2c1) (by decide +kernel) rfl rfl rfl (by decide +kernel)
set_option maxRecDepth 65536 in
theorem w_c8 : (Jvm.Cond.code ({ cls := "com/example/knotwise/knotwise/PlacementPlacePinLaw", name := "countRef", desc := "([II)I" } : Jvm.MethodName) method_4_code (3 : Nat) (Option.some Jvm.ClassFile.FieldType.int)).before args0 about1 = true := code_word (m := ⟨1, 3⟩) (meth := k1m3) (c := k1c3) (by decide +kernel) rfl rfl rfl (by decide +kernel)
set_option maxRecDepth 65536 in
theorem w_c9 : (Jvm.Cond.code ({ cls := "com/example/knotwise/knotwise/Placement", name := "count", desc := "(I)I" } : Jvm.MethodName) prog_13_method_3_code (2 : Nat) (Option.some Jvm.ClassFile.FieldType.int)).before args0 about1 = true := code_word (m := ⟨2, 2⟩) (meth := k2m2) (c := k2c2) (by decide +kernel) rfl rfl rfl (by decide +kernel)
set_option maxRecDepth 65536 in
theorem w_c10 : (Jvm.Cond.code ({ cls := "com/example/knotwise/knotwise/Placement", name := "last", desc := "(I)I" } : Jvm.MethodName) prog_13_method_4_code (2 : Nat) (Option.some Jvm.ClassFile.FieldType.int)).before args0 about1 = true := code_word (m := ⟨2, 3⟩) (meth := k2m3) (c := k2c3) (by decide +kernel) rfl rfl rfl (by decide +kernel)
set_option maxRecDepth 65536 in
theorem w_c11 : (Jvm.Cond.code ({ cls := "com/example/knotwise/knotwise/PlacementPlacePinLaw", name := "lastRef", desc := "([I[II)I" } : Jvm.MethodName) method_5_code (5 : Nat) (Option.some Jvm.ClassFile.FieldType.int)).before args0 about1 = true := code_word (m := ⟨1, 4⟩) (meth := k1m4) (c := k1c4) (by decide +kernel) rfl rfl rfl (by decide +kernel)
def codes1 : List Jvm.Cond := [Jvm.Cond.code x code maxLocals ret, Jvm.Cond.code ({ cls := "com/example/knotwise/knotwise/Placement", name := "<init>", desc := "(II)V" } : Jvm.MethodName) prog_13_method_1_code (3 : Nat) (Option.none : Option Jvm.ClassFile.FieldType), Jvm.Cond.code ({ cls := "java/lang/Object", name := "<init>", desc := "()V" } : Jvm.MethodName) object_method_1_code (1 : Nat) (Option.none : Option Jvm.ClassFile.FieldType), Jvm.Cond.code ({ cls := "java/util/Arrays", name := "fill", desc := "([II)V" } : Jvm.MethodName) jdk_65_method_103_code (4 : Nat) (Option.none : Option Jvm.ClassFile.FieldType), Jvm.Cond.code ({ cls := "com/example/knotwise/knotwise/PlacementPlacePinLaw", name := "step", desc := "(Lcom/example/knotwise/knotwise/Placement;[I[III)V" } : Jvm.MethodName) method_3_code (8 : Nat) (Option.none : Option Jvm.ClassFile.FieldType), Jvm.Cond.code ({ cls := "com/example/knotwise/knotwise/Placement", name := "place", desc := "(II)V" } : Jvm.MethodName) prog_13_method_6_code (3 : Nat) (Option.none : Option Jvm.ClassFile.FieldType), Jvm.Cond.code ({ cls := "com/example/knotwise/knotwise/Placement", name := "remove", desc := "(I)V" } : Jvm.MethodName) prog_13_method_7_code (3 : Nat) (Option.none : Option Jvm.ClassFile.FieldType), Jvm.Cond.code ({ cls := "com/example/knotwise/knotwise/Placement", name := "wife", desc := "(I)I" } : Jvm.MethodName) prog_13_method_2_code (2 : Nat) (Option.some Jvm.ClassFile.FieldType.int), Jvm.Cond.code ({ cls := "com/example/knotwise/knotwise/PlacementPlacePinLaw", name := "countRef", desc := "([II)I" } : Jvm.MethodName) method_4_code (3 : Nat) (Option.some Jvm.ClassFile.FieldType.int), Jvm.Cond.code ({ cls := "com/example/knotwise/knotwise/Placement", name := "count", desc := "(I)I" } : Jvm.MethodName) prog_13_method_3_code (2 : Nat) (Option.some Jvm.ClassFile.FieldType.int), Jvm.Cond.code ({ cls := "com/example/knotwise/knotwise/Placement", name := "last", desc := "(I)I" } : Jvm.MethodName) prog_13_method_4_code (2 : Nat) (Option.some Jvm.ClassFile.FieldType.int), Jvm.Cond.code ({ cls := "com/example/knotwise/knotwise/PlacementPlacePinLaw", name := "lastRef", desc := "([I[II)I" } : Jvm.MethodName) method_5_code (5 : Nat) (Option.some Jvm.ClassFile.FieldType.int)]
set_option maxRecDepth 65536 in
theorem codes_eq : words1.filter isCode = codes1 := rfl
theorem w_codes : ∀ c ∈ words1.filter isCode, c.before args0 about1 = true := by
  rw [codes_eq]
  intro c hc
  simp only [codes1, List.mem_cons, List.not_mem_nil, or_false] at hc
  rcases hc with rfl | rfl | rfl | rfl | rfl | rfl | rfl | rfl | rfl | rfl | rfl | rfl
  · exact w_c0
  · exact w_c1
  · exact w_c2
  · exact w_c3
  · exact w_c4
  · exact w_c5
  · exact w_c6
  · exact w_c7
  · exact w_c8
  · exact w_c9
  · exact w_c10
  · exact w_c11
set_option maxRecDepth 65536 in
theorem w_t1 : (words1.take 24).all (fun c => isCode c || c.before args0 about1) = true := by decide +kernel
set_option maxRecDepth 65536 in
theorem w_t2 : ((words1.drop 24).take 24).all (fun c => isCode c || c.before args0 about1) = true := by decide +kernel
set_option maxRecDepth 65536 in
theorem w_t3 : ((words1.drop 24).drop 24).all (fun c => isCode c || c.before args0 about1) = true := by decide +kernel
theorem w_tables : (allAtoms (Jvm.Cond.code x code maxLocals ret :: tables_1)).before args0 about1 = true := by
  rw [allAtoms_all]
  show words1.all (fun c => c.before args0 about1) = true
  refine all_split ?_ w_codes
  rw [← List.take_append_drop 24 words1, List.all_append, w_t1, ← List.take_append_drop 24 (words1.drop 24), List.all_append, w_t2, w_t3]
  rfl
set_option maxRecDepth 65536 in
theorem w_case : (Jvm.Cond.and given_1 narrow_1).before args0 about1 = true := by decide +kernel
theorem w_applies : (headSpec (Jvm.Cond.code x code maxLocals ret :: tables_1) room_1).applies x e0.platform about1 = true :=
  (Spec.applies_iff w_frames).mpr ⟨w_running, w_runnable, w_alone, w_named, w_hears, w_ripe, w_room, w_tables⟩
theorem atStart : AtStart classFile x code maxLocals ret World_1 tables_1 room_1 Calls_1 rest_1 Pre_1 launch0 p0 e0 about1 theMethod args0 below0 :=
  ⟨lists_1, trivial, launch0.admits_env _ _ _, launch0.least_env, fairChoices_fair.cas, fairChoices_fair.clock, w_frames, w_args, w_heap, w_applies, trivial, trivial, w_case⟩
end start1
theorem witness_1 : WitnessClaimed_1 := ⟨start1.p0, start1.e0, start1.about1, start1.theMethod, start1.args0, start1.below0, start1.atStart⟩
end Jvm.Pilot.@@N@@
