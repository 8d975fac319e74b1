import JvmDerived
import JvmDerived.Pilot.@@N@@Statement
import JvmDerived.Pilot.@@N@@Code
set_option linter.unusedVariables false
set_option linter.unusedSimpArgs false
namespace Jvm.RoadKit
open Sem ClassFile Op Lib Jvm.Stand Jvm.Free Jvm.LawKit
section New
variable {p : Program} {l : Launch} {e : Env} {R : Room} {s : State} {m : MethodId} {args : Array Value} {below : List Frame} {meth : Method} {c : Code} {T : State} {locs : List Loc} {cells slots : Nat}
theorem retI (X : Stand p l e R s m args below meth c T locs cells slots) (hx : p.tables.exec = Jvm.exec) {pc : Nat} {Ls : Array Slot} {z : Int32} {rest : List Value} (hret : meth.sig.returnType = some .int) (hd : decode c.code pc = .ok (.ireturn, 1)) {fs : List Frame}
    (hl : ∀ (f : JFrame) (acts : List Action), f.method = m → f.locked = none → f.entered = [] → (doReturn e (T.setTop f) acts (some (.int z))).1 = T.setFrames fs) : Steps p.tables e below (T.setTop (mkF m pc Ls (.int z :: rest))) (T.setFrames fs) := by
  have hm' : T.vm.method? m = some meth := X.method'
  have hn : narrow .int (.int z) = .int z := rfl
  show Steps p.tables e below (T.setTop { method := m, pc := pc, locals := Ls, stack := _ :: rest, locked := none }) _
  jvm_step X.here [X.here.top, hx, hd, hm', hret, hn]
  first | (intro acts; rw [hl _ acts rfl rfl rfl]) | rw [hl _ _ rfl rfl rfl]
  exact Steps.refl _
/-- from here the walk comes to a good end -/
def Go (p : Program) (e : Env) (below : List Frame) (s : State) (Q : Option Value → Heap → List Loc → Prop) (C S : Nat) (T : State) (f : JFrame) : Prop :=
  ∃ s₂ o, Steps p.tables e below (T.setTop f) s₂ ∧ s₂.status = .running ∧ Ended s₂ below o ∧ ∃ v L, o = .returned v ∧ Q v s₂.heap L ∧ FrameEnd s o s₂ L C S
theorem Go.step {Q : Option Value → Heap → List Loc → Prop} {C S : Nat} {T' : State} {f f' : JFrame} (k : ∀ t, Steps p.tables e below (T'.setTop f') t → Steps p.tables e below (T.setTop f) t) (h : Go p e below s Q C S T' f') : Go p e below s Q C S T f := by
  obtain ⟨s₂, o, h1, h2⟩ := h
  exact ⟨s₂, o, k _ h1, h2⟩
theorem Go.cast {Q : Option Value → Heap → List Loc → Prop} {C S : Nat} {f f' : JFrame} (q : f = f') (h : Go p e below s Q C S T f') : Go p e below s Q C S T f := q ▸ h
theorem Go.fin (X : Stand p l e R s m args below meth c T locs cells slots) {Q : Option Value → Heap → List Loc → Prop} {C S : Nat} {f : JFrame} {v : Option Value} (hv : meth.sig.returnType = none → v = none) (hl : meth.locks = false) (hQ : Q v T.heap locs) (hc : cells ≤ C) (hs : slots ≤ S)
    (k : ∀ fs, (∀ (f : JFrame) (acts : List Action), f.method = m → f.locked = none → f.entered = [] → (doReturn e (T.setTop f) acts v).1 = T.setFrames fs) → Steps p.tables e below (T.setTop f) (T.setFrames fs)) : Go p e below s Q C S T f := by
  obtain ⟨fs, hr, hrun, hended, hW, hsame⟩ := X.leave (v := v) hv hl
  exact ⟨_, _, k fs hr, hrun, hended, v, locs, rfl, hQ, ⟨_, rfl⟩, hW, hsame.mono hc hs⟩
theorem own_lrem (x y : Int64) : x - (x / y) * y = x % y := lrem_mod x y
theorem own_irem (x y : Int32) : x - (x / y) * y = x % y := by
  apply Int32.toInt_inj.mp
  have h1 := Int32.le_toInt (x % y)
  have h2 := Int32.toInt_lt (x % y)
  rw [Int32.toInt_sub, Int32.toInt_mul, Int32.toInt_div, Int.bmod_mul_bmod, Int.sub_bmod_bmod, Int.mul_comm (x.toInt.tdiv y.toInt), ← Int.tmod_def, ← Int32.toInt_mod]
  exact Int.bmod_eq_of_le_mul_two (by omega) (by omega)
theorem own_fin {x : Int32} {n : Nat} (h0 : 0 ≤ x.toInt) (h1 : x.toInt < n) (h2 : n ≤ 2147483648) : ∃ k : Fin n, x = Int32.ofNat k.val := by
  refine ⟨⟨x.toInt.toNat, by omega⟩, Int32.toInt_inj.mp ?_⟩
  have q : (x.toInt.toNat).toInt32.toInt = x.toInt.toNat := len_toInt (by omega)
  show x.toInt = (x.toInt.toNat).toInt32.toInt
  rw [q]; omega
theorem own_i2c {x : Int32} (h0 : 0 ≤ x.toInt) (h1 : x.toInt < 65536) : x.toUInt32.toUInt16.toUInt32.toInt32 = x := Int32.toInt_inj.mp (by have := c_i2c x; omega)
theorem own_rem (x y : Int32) (h0 : 0 ≤ x.toInt) : (x % y).toInt = x.toInt % y.toInt := by rw [Int32.toInt_mod, (tr _ _).1 h0]
theorem own_remL (x y : Int64) (h0 : 0 ≤ x.toInt) : (x % y).toInt = x.toInt % y.toInt := by rw [Int64.toInt_mod, (tr _ _).1 h0]
theorem own_div (x y : Int32) (h0 : 0 ≤ x.toInt) (h1 : 0 < y.toInt) : (x / y).toInt = x.toInt / y.toInt := (c_idiv x y _ rfl (fun q => by rw [q] at h1; exact absurd h1 (by decide))).1 h0
theorem own_add {x y : Int32} (h0 : -2147483648 ≤ x.toInt + y.toInt) (h1 : x.toInt + y.toInt < 2147483648) : (x + y).toInt = x.toInt + y.toInt := by have := c_iadd x y; have := rng32 (x + y); omega
theorem own_sub {x y : Int32} (h0 : -2147483648 ≤ x.toInt - y.toInt) (h1 : x.toInt - y.toInt < 2147483648) : (x - y).toInt = x.toInt - y.toInt := by have := c_isub x y; have := rng32 (x - y); omega
theorem own_mul {x y : Int32} (h0 : -2147483648 ≤ x.toInt * y.toInt) (h1 : x.toInt * y.toInt < 2147483648) : (x * y).toInt = x.toInt * y.toInt := by have := c_imul x y; have := rng32 (x * y); omega
theorem own_nat {j : Int32} (h0 : 0 ≤ j.toInt) : (j.toNatClampNeg : Int) = j.toInt := by simp only [Int32.toNatClampNeg]; omega
end New
end Jvm.RoadKit
namespace Jvm.Pilot.@@N@@
open Jvm Jvm.ClassFile Sem Op Lib Jvm.Free Jvm.Stand Jvm.LawKit Jvm.RoadKit Bundle Jvm.Pilot.@@N@@.Jvm.D
theorem d2_0 : decode prog_19_method_7_code 0 = .ok (.lload_n 0, 1) := by decide +kernel
theorem d2_1 : decode prog_19_method_7_code 1 = .ok (.lconst 0, 1) := by decide +kernel
theorem d2_2 : decode prog_19_method_7_code 2 = .ok (.lcmp, 1) := by decide +kernel
theorem d2_3 : decode prog_19_method_7_code 3 = .ok (.ifCond .ge 17, 3) := by decide +kernel
theorem d2_20 : decode prog_19_method_7_code 20 = .ok (.return_, 1) := by decide +kernel
theorem pn_0 : plainName "com/example/preamble/preamble/varint/Varint" = true := by first | (simp [plainName, overriddenIn]; done) | decide +kernel
theorem ef_reqU (m : MethodId) (x0 : Int64) : entryFrame m #[(.long x0)] 2 = mkF m 0 #[.val (.long x0), .second] [] := by first | (simp [entryFrame, mkF, argsToLocals, Value.category]; done) | rfl
def QreqU (Z : State) (p1 : Int64)  (h0 : Heap) (n0 : Nat) (v : Option Value) (h : Heap) (L : List Loc) : Prop := v = none ∧ Fr n0 L ∧ h = h0
set_option maxRecDepth 65536 in
set_option maxHeartbeats 40000000 in
theorem rm_reqU (l : Launch) (Z : State) (a0 : Array Value) (hw : ∀ d ∈ tables_1, d.before a0 Z = true) (ws : List Jvm.Cond) (p1 : Int64)  (h0 : Heap) (n0 : Nat) (Z0 : n0 ≤ h0.size) (hp : ¬ (p1 < (0 : Int64))) :
    MetFree l (⟨"com/example/preamble/preamble/varint/Varint", "requireUnsigned", "(J)V"⟩ : MethodName) (head1 (Jvm.Cond.code (⟨"com/example/preamble/preamble/varint/Varint", "requireUnsigned", "(J)V"⟩ : MethodName) prog_19_method_7_code 2 none :: ws) ({ frames := 0, cells := 0, slots := 0, locals := 0 } : Room)) (fun a U => a = #[(.long p1)] ∧ Z.Warmed39 U.vm ∧ U.heap = h0) (fun _ _ _ _ _ => True) (fun _ U o U' => ∃ v L, o = .returned v ∧ QreqU Z p1 h0 n0 v U'.heap L ∧ FrameEnd U o U' L ({ frames := 0, cells := 0, slots := 0, locals := 0 } : Room).cells ({ frames := 0, cells := 0, slots := 0, locals := 0 } : Room).slots) := by
  refine MetFree.of_bodySF (plainFor_of_name pn_0) hisR ?_
  intro p e s m args below meth c s₁ Bd hml0 hP hK
  obtain ⟨rfl, hZ, hh⟩ := hP
  have hx := Bd.exec
  have hby := Bd.bytes
  have hml : c.maxLocals = 2 := hml0
  have hown : s.vm.findClass "com/example/preamble/preamble/varint/Varint" = some m.cls := findClass_of_methodNamed Bd.named
  have hnm := (name_of_methodNamed Bd.named Bd.method).1
  have X0 : Stand p l e ({ frames := 0, cells := 0, slots := 0, locals := 0 } : Room) s m #[(.long p1)] below meth c s₁ [] 0 0 := Stand.of_body Bd
  have e0 : s₁.heap = h0 := by rw [← hh, Bd.state]; rfl
  have N0 := Fr.nil n0
  suffices HGO : Go p e below s (QreqU Z p1 h0 n0) ({ frames := 0, cells := 0, slots := 0, locals := 0 } : Room).cells ({ frames := 0, cells := 0, slots := 0, locals := 0 } : Room).slots s₁ (mkF m 0 #[.val (.long p1), .second] []) from Go.cast (ef_reqU m p1) HGO
  refine Go.step (T' := s₁) (f' := (mkF m 3 #[.val (.long p1), .second] [(.int (lcmpW p1 (0 : Int64)))])) (fun t kt => ?_) ?_
  · show Steps p.tables e below (s₁.setTop (mkF m 0 #[.val (.long p1), .second] [])) _
    refine XS.lloadN X0.here hx rfl (hb hby d2_0) rfl ?_
    show Steps p.tables e below (s₁.setTop (mkF m 1 #[.val (.long p1), .second] [(.long p1)])) _
    refine XS.lconst X0.here hx rfl (hb hby d2_1) ?_
    show Steps p.tables e below (s₁.setTop (mkF m 2 #[.val (.long p1), .second] [(.long (0 : Int64)), (.long p1)])) _
    refine XS.lcmp X0.here hx rfl (hb hby d2_2) rfl ?_
    exact kt
  have hd1 : ¬ (p1 < (0 : Int64)) := hp
  refine Go.step (T' := s₁) (f' := (mkF m 20 #[.val (.long p1), .second] [])) (fun t kt => ?_) ?_
  · show Steps p.tables e below (s₁.setTop (mkF m 3 #[.val (.long p1), .second] [(.int (lcmpW p1 (0 : Int64)))])) _
    refine XS.ifYes X0.here hx rfl (pc0 := 3) (pc' := 20) rfl (hb hby d2_3) rfl ((if0 _ _).trans (flt (fun q => hd1 ((lw_lt _ _).mp q))).2.1) (by decide) (by decide) ?_
    exact kt
  refine Go.fin X0 (v := none) (fun _ => rfl) Bd.notSynchronized ?_ (Nat.le_trans (Nat.le_refl 0) (by decide)) (Nat.le_trans (Nat.le_refl 0) (by decide)) (fun fs hr => X0.returnOut hx Bd.returns (hb hby d2_20) hr)
  · show QreqU Z p1 h0 n0 _ s₁.heap _
    exact ⟨rfl, N0, e0⟩
theorem d3_0 : decode method_2_code 0 = .ok (.lload_n 0, 1) := by decide +kernel
theorem d3_1 : decode method_2_code 1 = .ok (.ldc2_w 7, 3) := by decide +kernel
theorem d3_4 : decode method_2_code 4 = .ok (.lcmp, 1) := by decide +kernel
theorem d3_5 : decode method_2_code 5 = .ok (.ifCond .ge 5, 3) := by decide +kernel
theorem d3_8 : decode method_2_code 8 = .ok (.iconst 1, 1) := by decide +kernel
theorem d3_9 : decode method_2_code 9 = .ok (.ireturn, 1) := by decide +kernel
theorem d3_10 : decode method_2_code 10 = .ok (.lload_n 0, 1) := by decide +kernel
theorem d3_11 : decode method_2_code 11 = .ok (.ldc2_w 9, 3) := by decide +kernel
theorem d3_14 : decode method_2_code 14 = .ok (.lcmp, 1) := by decide +kernel
theorem d3_15 : decode method_2_code 15 = .ok (.ifCond .ge 5, 3) := by decide +kernel
theorem d3_18 : decode method_2_code 18 = .ok (.iconst 2, 1) := by decide +kernel
theorem d3_19 : decode method_2_code 19 = .ok (.ireturn, 1) := by decide +kernel
theorem d3_20 : decode method_2_code 20 = .ok (.lload_n 0, 1) := by decide +kernel
theorem d3_21 : decode method_2_code 21 = .ok (.ldc2_w 11, 3) := by decide +kernel
theorem d3_24 : decode method_2_code 24 = .ok (.lcmp, 1) := by decide +kernel
theorem d3_25 : decode method_2_code 25 = .ok (.ifCond .ge 5, 3) := by decide +kernel
theorem d3_28 : decode method_2_code 28 = .ok (.iconst 3, 1) := by decide +kernel
theorem d3_29 : decode method_2_code 29 = .ok (.ireturn, 1) := by decide +kernel
theorem d3_30 : decode method_2_code 30 = .ok (.lload_n 0, 1) := by decide +kernel
theorem d3_31 : decode method_2_code 31 = .ok (.ldc2_w 13, 3) := by decide +kernel
theorem d3_34 : decode method_2_code 34 = .ok (.lcmp, 1) := by decide +kernel
theorem d3_35 : decode method_2_code 35 = .ok (.ifCond .ge 5, 3) := by decide +kernel
theorem d3_38 : decode method_2_code 38 = .ok (.iconst 4, 1) := by decide +kernel
theorem d3_39 : decode method_2_code 39 = .ok (.ireturn, 1) := by decide +kernel
theorem d3_40 : decode method_2_code 40 = .ok (.lload_n 0, 1) := by decide +kernel
theorem d3_41 : decode method_2_code 41 = .ok (.ldc2_w 15, 3) := by decide +kernel
theorem d3_44 : decode method_2_code 44 = .ok (.lcmp, 1) := by decide +kernel
theorem d3_45 : decode method_2_code 45 = .ok (.ifCond .ge 5, 3) := by decide +kernel
theorem d3_48 : decode method_2_code 48 = .ok (.iconst 5, 1) := by decide +kernel
theorem d3_49 : decode method_2_code 49 = .ok (.ireturn, 1) := by decide +kernel
theorem d3_50 : decode method_2_code 50 = .ok (.lload_n 0, 1) := by decide +kernel
theorem d3_51 : decode method_2_code 51 = .ok (.ldc2_w 17, 3) := by decide +kernel
theorem d3_54 : decode method_2_code 54 = .ok (.lcmp, 1) := by decide +kernel
theorem d3_55 : decode method_2_code 55 = .ok (.ifCond .ge 6, 3) := by decide +kernel
theorem d3_58 : decode method_2_code 58 = .ok (.bipush 6, 2) := by decide +kernel
theorem d3_60 : decode method_2_code 60 = .ok (.ireturn, 1) := by decide +kernel
theorem d3_61 : decode method_2_code 61 = .ok (.lload_n 0, 1) := by decide +kernel
theorem d3_62 : decode method_2_code 62 = .ok (.ldc2_w 19, 3) := by decide +kernel
theorem d3_65 : decode method_2_code 65 = .ok (.lcmp, 1) := by decide +kernel
theorem d3_66 : decode method_2_code 66 = .ok (.ifCond .ge 6, 3) := by decide +kernel
theorem d3_69 : decode method_2_code 69 = .ok (.bipush 7, 2) := by decide +kernel
theorem d3_71 : decode method_2_code 71 = .ok (.ireturn, 1) := by decide +kernel
theorem d3_72 : decode method_2_code 72 = .ok (.lload_n 0, 1) := by decide +kernel
theorem d3_73 : decode method_2_code 73 = .ok (.ldc2_w 21, 3) := by decide +kernel
theorem d3_76 : decode method_2_code 76 = .ok (.lcmp, 1) := by decide +kernel
theorem d3_77 : decode method_2_code 77 = .ok (.ifCond .ge 6, 3) := by decide +kernel
theorem d3_80 : decode method_2_code 80 = .ok (.bipush 8, 2) := by decide +kernel
theorem d3_82 : decode method_2_code 82 = .ok (.ireturn, 1) := by decide +kernel
theorem d3_83 : decode method_2_code 83 = .ok (.bipush 9, 2) := by decide +kernel
theorem d3_85 : decode method_2_code 85 = .ok (.ireturn, 1) := by decide +kernel
theorem pn_1 : plainName "com/example/preamble/preamble/varint/VarintSizePinLaw" = true := by first | (simp [plainName, overriddenIn]; done) | decide +kernel
theorem ef_refL (m : MethodId) (x0 : Int64) : entryFrame m #[(.long x0)] 2 = mkF m 0 #[.val (.long x0), .second] [] := by first | (simp [entryFrame, mkF, argsToLocals, Value.category]; done) | rfl
def refL (p1 : Int64) : Int32 := (if p1 < (128 : Int64) then (1 : Int32) else (if p1 < (16384 : Int64) then (2 : Int32) else (if p1 < (2097152 : Int64) then (3 : Int32) else (if p1 < (268435456 : Int64) then (4 : Int32) else (if p1 < (34359738368 : Int64) then (5 : Int32) else (if p1 < (4398046511104 : Int64) then (6 : Int32) else (if p1 < (562949953421312 : Int64) then (7 : Int32) else (if p1 < (72057594037927936 : Int64) then (8 : Int32) else (9 : Int32)))))))))
def QrefL (RES : Int32) (h0 : Heap) (n0 : Nat) (v : Option Value) (h : Heap) (L : List Loc) : Prop := v = some (.int RES) ∧ Fr n0 L ∧ h = h0
set_option maxRecDepth 65536 in
set_option maxHeartbeats 40000000 in
theorem rm_refL (l : Launch) (Z : State) (a0 : Array Value) (hw : ∀ d ∈ tables_1, d.before a0 Z = true) (ws : List Jvm.Cond) (p1 : Int64)  (h0 : Heap) (n0 : Nat) (Z0 : n0 ≤ h0.size) :
    MetFree l (⟨"com/example/preamble/preamble/varint/VarintSizePinLaw", "reference", "(J)I"⟩ : MethodName) (head1 (Jvm.Cond.code (⟨"com/example/preamble/preamble/varint/VarintSizePinLaw", "reference", "(J)I"⟩ : MethodName) method_2_code 2 (some .int) :: ws) ({ frames := 0, cells := 0, slots := 0, locals := 0 } : Room)) (fun a U => a = #[(.long p1)] ∧ Z.Warmed39 U.vm ∧ U.heap = h0) (fun _ _ _ _ _ => True) (fun _ U o U' => ∃ v L, o = .returned v ∧ QrefL (refL p1) h0 n0 v U'.heap L ∧ FrameEnd U o U' L ({ frames := 0, cells := 0, slots := 0, locals := 0 } : Room).cells ({ frames := 0, cells := 0, slots := 0, locals := 0 } : Room).slots) := by
  refine MetFree.of_bodySF (plainFor_of_name pn_1) hisR ?_
  intro p e s m args below meth c s₁ Bd hml0 hP hK
  obtain ⟨rfl, hZ, hh⟩ := hP
  have hx := Bd.exec
  have hby := Bd.bytes
  have hml : c.maxLocals = 2 := hml0
  have hown : s.vm.findClass "com/example/preamble/preamble/varint/VarintSizePinLaw" = some m.cls := findClass_of_methodNamed Bd.named
  have hnm := (name_of_methodNamed Bd.named Bd.method).1
  have X0 : Stand p l e ({ frames := 0, cells := 0, slots := 0, locals := 0 } : Room) s m #[(.long p1)] below meth c s₁ [] 0 0 := Stand.of_body Bd
  have e0 : s₁.heap = h0 := by rw [← hh, Bd.state]; rfl
  have N0 := Fr.nil n0
  obtain ⟨RES, hf⟩ : ∃ z, z = refL p1 := ⟨_, rfl⟩
  rw [← hf]
  rw [refL] at hf
  suffices HGO : Go p e below s (QrefL RES h0 n0) ({ frames := 0, cells := 0, slots := 0, locals := 0 } : Room).cells ({ frames := 0, cells := 0, slots := 0, locals := 0 } : Room).slots s₁ (mkF m 0 #[.val (.long p1), .second] []) from Go.cast (ef_refL m p1) HGO
  refine Go.step (T' := s₁) (f' := (mkF m 5 #[.val (.long p1), .second] [(.int (lcmpW p1 (128 : Int64)))])) (fun t kt => ?_) ?_
  · show Steps p.tables e below (s₁.setTop (mkF m 0 #[.val (.long p1), .second] [])) _
    refine XS.lloadN X0.here hx rfl (hb hby d3_0) rfl ?_
    show Steps p.tables e below (s₁.setTop (mkF m 1 #[.val (.long p1), .second] [(.long p1)])) _
    refine X0.ldc2Long hx hown (mvT hZ (hw _ (List.mem_of_getElem? (i := 12) rfl))) (g := (mkF m 1 #[.val (.long p1), .second] [(.long p1)])) rfl (hb hby d3_1) _ ?_
    show Steps p.tables e below (s₁.setTop (mkF m 4 #[.val (.long p1), .second] [(.long (128 : Int64)), (.long p1)])) _
    refine XS.lcmp X0.here hx rfl (hb hby d3_4) rfl ?_
    exact kt
  by_cases hc1 : p1 < (128 : Int64)
  · rw [if_pos hc1] at hf
    refine Go.step (T' := s₁) (f' := (mkF m 8 #[.val (.long p1), .second] [])) (fun t kt => ?_) ?_
    · show Steps p.tables e below (s₁.setTop (mkF m 5 #[.val (.long p1), .second] [(.int (lcmpW p1 (128 : Int64)))])) _
      refine XS.ifNo X0.here hx rfl (hb hby d3_5) rfl ((if0 _ _).trans (tlt ((lw_lt _ _).mpr hc1)).2.1) ?_
      exact kt
    refine Go.step (T' := s₁) (f' := (mkF m 9 #[.val (.long p1), .second] [(.int (1 : Int32))])) (fun t kt => ?_) ?_
    · show Steps p.tables e below (s₁.setTop (mkF m 8 #[.val (.long p1), .second] [])) _
      refine XS.iconst X0.here hx rfl (hb hby d3_8) ?_
      exact kt
    refine Go.fin X0 (v := some (.int (1 : Int32))) (fun h => by rw [Bd.returns] at h; cases h) Bd.notSynchronized ?_ (Nat.le_trans (Nat.le_refl 0) (by decide)) (Nat.le_trans (Nat.le_refl 0) (by decide)) (fun fs hr => retI X0 hx Bd.returns (hb hby d3_9) hr)
    · exact ⟨by rw [hf], N0, e0⟩
  · rw [if_neg hc1] at hf
    refine Go.step (T' := s₁) (f' := (mkF m 10 #[.val (.long p1), .second] [])) (fun t kt => ?_) ?_
    · show Steps p.tables e below (s₁.setTop (mkF m 5 #[.val (.long p1), .second] [(.int (lcmpW p1 (128 : Int64)))])) _
      refine XS.ifYes X0.here hx rfl (pc0 := 5) (pc' := 10) rfl (hb hby d3_5) rfl ((if0 _ _).trans (flt (fun q => hc1 ((lw_lt _ _).mp q))).2.1) (by decide) (by decide) ?_
      exact kt
    refine Go.step (T' := s₁) (f' := (mkF m 15 #[.val (.long p1), .second] [(.int (lcmpW p1 (16384 : Int64)))])) (fun t kt => ?_) ?_
    · show Steps p.tables e below (s₁.setTop (mkF m 10 #[.val (.long p1), .second] [])) _
      refine XS.lloadN X0.here hx rfl (hb hby d3_10) rfl ?_
      show Steps p.tables e below (s₁.setTop (mkF m 11 #[.val (.long p1), .second] [(.long p1)])) _
      refine X0.ldc2Long hx hown (mvT hZ (hw _ (List.mem_of_getElem? (i := 13) rfl))) (g := (mkF m 11 #[.val (.long p1), .second] [(.long p1)])) rfl (hb hby d3_11) _ ?_
      show Steps p.tables e below (s₁.setTop (mkF m 14 #[.val (.long p1), .second] [(.long (16384 : Int64)), (.long p1)])) _
      refine XS.lcmp X0.here hx rfl (hb hby d3_14) rfl ?_
      exact kt
    by_cases hc2 : p1 < (16384 : Int64)
    · rw [if_pos hc2] at hf
      refine Go.step (T' := s₁) (f' := (mkF m 18 #[.val (.long p1), .second] [])) (fun t kt => ?_) ?_
      · show Steps p.tables e below (s₁.setTop (mkF m 15 #[.val (.long p1), .second] [(.int (lcmpW p1 (16384 : Int64)))])) _
        refine XS.ifNo X0.here hx rfl (hb hby d3_15) rfl ((if0 _ _).trans (tlt ((lw_lt _ _).mpr hc2)).2.1) ?_
        exact kt
      refine Go.step (T' := s₁) (f' := (mkF m 19 #[.val (.long p1), .second] [(.int (2 : Int32))])) (fun t kt => ?_) ?_
      · show Steps p.tables e below (s₁.setTop (mkF m 18 #[.val (.long p1), .second] [])) _
        refine XS.iconst X0.here hx rfl (hb hby d3_18) ?_
        exact kt
      refine Go.fin X0 (v := some (.int (2 : Int32))) (fun h => by rw [Bd.returns] at h; cases h) Bd.notSynchronized ?_ (Nat.le_trans (Nat.le_refl 0) (by decide)) (Nat.le_trans (Nat.le_refl 0) (by decide)) (fun fs hr => retI X0 hx Bd.returns (hb hby d3_19) hr)
      · exact ⟨by rw [hf], N0, e0⟩
    · rw [if_neg hc2] at hf
      refine Go.step (T' := s₁) (f' := (mkF m 20 #[.val (.long p1), .second] [])) (fun t kt => ?_) ?_
      · show Steps p.tables e below (s₁.setTop (mkF m 15 #[.val (.long p1), .second] [(.int (lcmpW p1 (16384 : Int64)))])) _
        refine XS.ifYes X0.here hx rfl (pc0 := 15) (pc' := 20) rfl (hb hby d3_15) rfl ((if0 _ _).trans (flt (fun q => hc2 ((lw_lt _ _).mp q))).2.1) (by decide) (by decide) ?_
        exact kt
      refine Go.step (T' := s₁) (f' := (mkF m 25 #[.val (.long p1), .second] [(.int (lcmpW p1 (2097152 : Int64)))])) (fun t kt => ?_) ?_
      · show Steps p.tables e below (s₁.setTop (mkF m 20 #[.val (.long p1), .second] [])) _
        refine XS.lloadN X0.here hx rfl (hb hby d3_20) rfl ?_
        show Steps p.tables e below (s₁.setTop (mkF m 21 #[.val (.long p1), .second] [(.long p1)])) _
        refine X0.ldc2Long hx hown (mvT hZ (hw _ (List.mem_of_getElem? (i := 14) rfl))) (g := (mkF m 21 #[.val (.long p1), .second] [(.long p1)])) rfl (hb hby d3_21) _ ?_
        show Steps p.tables e below (s₁.setTop (mkF m 24 #[.val (.long p1), .second] [(.long (2097152 : Int64)), (.long p1)])) _
        refine XS.lcmp X0.here hx rfl (hb hby d3_24) rfl ?_
        exact kt
      by_cases hc3 : p1 < (2097152 : Int64)
      · rw [if_pos hc3] at hf
        refine Go.step (T' := s₁) (f' := (mkF m 28 #[.val (.long p1), .second] [])) (fun t kt => ?_) ?_
        · show Steps p.tables e below (s₁.setTop (mkF m 25 #[.val (.long p1), .second] [(.int (lcmpW p1 (2097152 : Int64)))])) _
          refine XS.ifNo X0.here hx rfl (hb hby d3_25) rfl ((if0 _ _).trans (tlt ((lw_lt _ _).mpr hc3)).2.1) ?_
          exact kt
        refine Go.step (T' := s₁) (f' := (mkF m 29 #[.val (.long p1), .second] [(.int (3 : Int32))])) (fun t kt => ?_) ?_
        · show Steps p.tables e below (s₁.setTop (mkF m 28 #[.val (.long p1), .second] [])) _
          refine XS.iconst X0.here hx rfl (hb hby d3_28) ?_
          exact kt
        refine Go.fin X0 (v := some (.int (3 : Int32))) (fun h => by rw [Bd.returns] at h; cases h) Bd.notSynchronized ?_ (Nat.le_trans (Nat.le_refl 0) (by decide)) (Nat.le_trans (Nat.le_refl 0) (by decide)) (fun fs hr => retI X0 hx Bd.returns (hb hby d3_29) hr)
        · exact ⟨by rw [hf], N0, e0⟩
      · rw [if_neg hc3] at hf
        refine Go.step (T' := s₁) (f' := (mkF m 30 #[.val (.long p1), .second] [])) (fun t kt => ?_) ?_
        · show Steps p.tables e below (s₁.setTop (mkF m 25 #[.val (.long p1), .second] [(.int (lcmpW p1 (2097152 : Int64)))])) _
          refine XS.ifYes X0.here hx rfl (pc0 := 25) (pc' := 30) rfl (hb hby d3_25) rfl ((if0 _ _).trans (flt (fun q => hc3 ((lw_lt _ _).mp q))).2.1) (by decide) (by decide) ?_
          exact kt
        refine Go.step (T' := s₁) (f' := (mkF m 35 #[.val (.long p1), .second] [(.int (lcmpW p1 (268435456 : Int64)))])) (fun t kt => ?_) ?_
        · show Steps p.tables e below (s₁.setTop (mkF m 30 #[.val (.long p1), .second] [])) _
          refine XS.lloadN X0.here hx rfl (hb hby d3_30) rfl ?_
          show Steps p.tables e below (s₁.setTop (mkF m 31 #[.val (.long p1), .second] [(.long p1)])) _
          refine X0.ldc2Long hx hown (mvT hZ (hw _ (List.mem_of_getElem? (i := 15) rfl))) (g := (mkF m 31 #[.val (.long p1), .second] [(.long p1)])) rfl (hb hby d3_31) _ ?_
          show Steps p.tables e below (s₁.setTop (mkF m 34 #[.val (.long p1), .second] [(.long (268435456 : Int64)), (.long p1)])) _
          refine XS.lcmp X0.here hx rfl (hb hby d3_34) rfl ?_
          exact kt
        by_cases hc4 : p1 < (268435456 : Int64)
        · rw [if_pos hc4] at hf
          refine Go.step (T' := s₁) (f' := (mkF m 38 #[.val (.long p1), .second] [])) (fun t kt => ?_) ?_
          · show Steps p.tables e below (s₁.setTop (mkF m 35 #[.val (.long p1), .second] [(.int (lcmpW p1 (268435456 : Int64)))])) _
            refine XS.ifNo X0.here hx rfl (hb hby d3_35) rfl ((if0 _ _).trans (tlt ((lw_lt _ _).mpr hc4)).2.1) ?_
            exact kt
          refine Go.step (T' := s₁) (f' := (mkF m 39 #[.val (.long p1), .second] [(.int (4 : Int32))])) (fun t kt => ?_) ?_
          · show Steps p.tables e below (s₁.setTop (mkF m 38 #[.val (.long p1), .second] [])) _
            refine XS.iconst X0.here hx rfl (hb hby d3_38) ?_
            exact kt
          refine Go.fin X0 (v := some (.int (4 : Int32))) (fun h => by rw [Bd.returns] at h; cases h) Bd.notSynchronized ?_ (Nat.le_trans (Nat.le_refl 0) (by decide)) (Nat.le_trans (Nat.le_refl 0) (by decide)) (fun fs hr => retI X0 hx Bd.returns (hb hby d3_39) hr)
          · exact ⟨by rw [hf], N0, e0⟩
        · rw [if_neg hc4] at hf
          refine Go.step (T' := s₁) (f' := (mkF m 40 #[.val (.long p1), .second] [])) (fun t kt => ?_) ?_
          · show Steps p.tables e below (s₁.setTop (mkF m 35 #[.val (.long p1), .second] [(.int (lcmpW p1 (268435456 : Int64)))])) _
            refine XS.ifYes X0.here hx rfl (pc0 := 35) (pc' := 40) rfl (hb hby d3_35) rfl ((if0 _ _).trans (flt (fun q => hc4 ((lw_lt _ _).mp q))).2.1) (by decide) (by decide) ?_
            exact kt
          refine Go.step (T' := s₁) (f' := (mkF m 45 #[.val (.long p1), .second] [(.int (lcmpW p1 (34359738368 : Int64)))])) (fun t kt => ?_) ?_
          · show Steps p.tables e below (s₁.setTop (mkF m 40 #[.val (.long p1), .second] [])) _
            refine XS.lloadN X0.here hx rfl (hb hby d3_40) rfl ?_
            show Steps p.tables e below (s₁.setTop (mkF m 41 #[.val (.long p1), .second] [(.long p1)])) _
            refine X0.ldc2Long hx hown (mvT hZ (hw _ (List.mem_of_getElem? (i := 16) rfl))) (g := (mkF m 41 #[.val (.long p1), .second] [(.long p1)])) rfl (hb hby d3_41) _ ?_
            show Steps p.tables e below (s₁.setTop (mkF m 44 #[.val (.long p1), .second] [(.long (34359738368 : Int64)), (.long p1)])) _
            refine XS.lcmp X0.here hx rfl (hb hby d3_44) rfl ?_
            exact kt
          by_cases hc5 : p1 < (34359738368 : Int64)
          · rw [if_pos hc5] at hf
            refine Go.step (T' := s₁) (f' := (mkF m 48 #[.val (.long p1), .second] [])) (fun t kt => ?_) ?_
            · show Steps p.tables e below (s₁.setTop (mkF m 45 #[.val (.long p1), .second] [(.int (lcmpW p1 (34359738368 : Int64)))])) _
              refine XS.ifNo X0.here hx rfl (hb hby d3_45) rfl ((if0 _ _).trans (tlt ((lw_lt _ _).mpr hc5)).2.1) ?_
              exact kt
            refine Go.step (T' := s₁) (f' := (mkF m 49 #[.val (.long p1), .second] [(.int (5 : Int32))])) (fun t kt => ?_) ?_
            · show Steps p.tables e below (s₁.setTop (mkF m 48 #[.val (.long p1), .second] [])) _
              refine XS.iconst X0.here hx rfl (hb hby d3_48) ?_
              exact kt
            refine Go.fin X0 (v := some (.int (5 : Int32))) (fun h => by rw [Bd.returns] at h; cases h) Bd.notSynchronized ?_ (Nat.le_trans (Nat.le_refl 0) (by decide)) (Nat.le_trans (Nat.le_refl 0) (by decide)) (fun fs hr => retI X0 hx Bd.returns (hb hby d3_49) hr)
            · exact ⟨by rw [hf], N0, e0⟩
          · rw [if_neg hc5] at hf
            refine Go.step (T' := s₁) (f' := (mkF m 50 #[.val (.long p1), .second] [])) (fun t kt => ?_) ?_
            · show Steps p.tables e below (s₁.setTop (mkF m 45 #[.val (.long p1), .second] [(.int (lcmpW p1 (34359738368 : Int64)))])) _
              refine XS.ifYes X0.here hx rfl (pc0 := 45) (pc' := 50) rfl (hb hby d3_45) rfl ((if0 _ _).trans (flt (fun q => hc5 ((lw_lt _ _).mp q))).2.1) (by decide) (by decide) ?_
              exact kt
            refine Go.step (T' := s₁) (f' := (mkF m 55 #[.val (.long p1), .second] [(.int (lcmpW p1 (4398046511104 : Int64)))])) (fun t kt => ?_) ?_
            · show Steps p.tables e below (s₁.setTop (mkF m 50 #[.val (.long p1), .second] [])) _
              refine XS.lloadN X0.here hx rfl (hb hby d3_50) rfl ?_
              show Steps p.tables e below (s₁.setTop (mkF m 51 #[.val (.long p1), .second] [(.long p1)])) _
              refine X0.ldc2Long hx hown (mvT hZ (hw _ (List.mem_of_getElem? (i := 17) rfl))) (g := (mkF m 51 #[.val (.long p1), .second] [(.long p1)])) rfl (hb hby d3_51) _ ?_
              show Steps p.tables e below (s₁.setTop (mkF m 54 #[.val (.long p1), .second] [(.long (4398046511104 : Int64)), (.long p1)])) _
              refine XS.lcmp X0.here hx rfl (hb hby d3_54) rfl ?_
              exact kt
            by_cases hc6 : p1 < (4398046511104 : Int64)
            · rw [if_pos hc6] at hf
              refine Go.step (T' := s₁) (f' := (mkF m 58 #[.val (.long p1), .second] [])) (fun t kt => ?_) ?_
              · show Steps p.tables e below (s₁.setTop (mkF m 55 #[.val (.long p1), .second] [(.int (lcmpW p1 (4398046511104 : Int64)))])) _
                refine XS.ifNo X0.here hx rfl (hb hby d3_55) rfl ((if0 _ _).trans (tlt ((lw_lt _ _).mpr hc6)).2.1) ?_
                exact kt
              refine Go.step (T' := s₁) (f' := (mkF m 60 #[.val (.long p1), .second] [(.int (6 : Int32))])) (fun t kt => ?_) ?_
              · show Steps p.tables e below (s₁.setTop (mkF m 58 #[.val (.long p1), .second] [])) _
                refine XS.bipush X0.here hx rfl (hb hby d3_58) ?_
                exact kt
              refine Go.fin X0 (v := some (.int (6 : Int32))) (fun h => by rw [Bd.returns] at h; cases h) Bd.notSynchronized ?_ (Nat.le_trans (Nat.le_refl 0) (by decide)) (Nat.le_trans (Nat.le_refl 0) (by decide)) (fun fs hr => retI X0 hx Bd.returns (hb hby d3_60) hr)
              · exact ⟨by rw [hf], N0, e0⟩
            · rw [if_neg hc6] at hf
              refine Go.step (T' := s₁) (f' := (mkF m 61 #[.val (.long p1), .second] [])) (fun t kt => ?_) ?_
              · show Steps p.tables e below (s₁.setTop (mkF m 55 #[.val (.long p1), .second] [(.int (lcmpW p1 (4398046511104 : Int64)))])) _
                refine XS.ifYes X0.here hx rfl (pc0 := 55) (pc' := 61) rfl (hb hby d3_55) rfl ((if0 _ _).trans (flt (fun q => hc6 ((lw_lt _ _).mp q))).2.1) (by decide) (by decide) ?_
                exact kt
              refine Go.step (T' := s₁) (f' := (mkF m 66 #[.val (.long p1), .second] [(.int (lcmpW p1 (562949953421312 : Int64)))])) (fun t kt => ?_) ?_
              · show Steps p.tables e below (s₁.setTop (mkF m 61 #[.val (.long p1), .second] [])) _
                refine XS.lloadN X0.here hx rfl (hb hby d3_61) rfl ?_
                show Steps p.tables e below (s₁.setTop (mkF m 62 #[.val (.long p1), .second] [(.long p1)])) _
                refine X0.ldc2Long hx hown (mvT hZ (hw _ (List.mem_of_getElem? (i := 18) rfl))) (g := (mkF m 62 #[.val (.long p1), .second] [(.long p1)])) rfl (hb hby d3_62) _ ?_
                show Steps p.tables e below (s₁.setTop (mkF m 65 #[.val (.long p1), .second] [(.long (562949953421312 : Int64)), (.long p1)])) _
                refine XS.lcmp X0.here hx rfl (hb hby d3_65) rfl ?_
                exact kt
              by_cases hc7 : p1 < (562949953421312 : Int64)
              · rw [if_pos hc7] at hf
                refine Go.step (T' := s₁) (f' := (mkF m 69 #[.val (.long p1), .second] [])) (fun t kt => ?_) ?_
                · show Steps p.tables e below (s₁.setTop (mkF m 66 #[.val (.long p1), .second] [(.int (lcmpW p1 (562949953421312 : Int64)))])) _
                  refine XS.ifNo X0.here hx rfl (hb hby d3_66) rfl ((if0 _ _).trans (tlt ((lw_lt _ _).mpr hc7)).2.1) ?_
                  exact kt
                refine Go.step (T' := s₁) (f' := (mkF m 71 #[.val (.long p1), .second] [(.int (7 : Int32))])) (fun t kt => ?_) ?_
                · show Steps p.tables e below (s₁.setTop (mkF m 69 #[.val (.long p1), .second] [])) _
                  refine XS.bipush X0.here hx rfl (hb hby d3_69) ?_
                  exact kt
                refine Go.fin X0 (v := some (.int (7 : Int32))) (fun h => by rw [Bd.returns] at h; cases h) Bd.notSynchronized ?_ (Nat.le_trans (Nat.le_refl 0) (by decide)) (Nat.le_trans (Nat.le_refl 0) (by decide)) (fun fs hr => retI X0 hx Bd.returns (hb hby d3_71) hr)
                · exact ⟨by rw [hf], N0, e0⟩
              · rw [if_neg hc7] at hf
                refine Go.step (T' := s₁) (f' := (mkF m 72 #[.val (.long p1), .second] [])) (fun t kt => ?_) ?_
                · show Steps p.tables e below (s₁.setTop (mkF m 66 #[.val (.long p1), .second] [(.int (lcmpW p1 (562949953421312 : Int64)))])) _
                  refine XS.ifYes X0.here hx rfl (pc0 := 66) (pc' := 72) rfl (hb hby d3_66) rfl ((if0 _ _).trans (flt (fun q => hc7 ((lw_lt _ _).mp q))).2.1) (by decide) (by decide) ?_
                  exact kt
                refine Go.step (T' := s₁) (f' := (mkF m 77 #[.val (.long p1), .second] [(.int (lcmpW p1 (72057594037927936 : Int64)))])) (fun t kt => ?_) ?_
                · show Steps p.tables e below (s₁.setTop (mkF m 72 #[.val (.long p1), .second] [])) _
                  refine XS.lloadN X0.here hx rfl (hb hby d3_72) rfl ?_
                  show Steps p.tables e below (s₁.setTop (mkF m 73 #[.val (.long p1), .second] [(.long p1)])) _
                  refine X0.ldc2Long hx hown (mvT hZ (hw _ (List.mem_of_getElem? (i := 19) rfl))) (g := (mkF m 73 #[.val (.long p1), .second] [(.long p1)])) rfl (hb hby d3_73) _ ?_
                  show Steps p.tables e below (s₁.setTop (mkF m 76 #[.val (.long p1), .second] [(.long (72057594037927936 : Int64)), (.long p1)])) _
                  refine XS.lcmp X0.here hx rfl (hb hby d3_76) rfl ?_
                  exact kt
                by_cases hc8 : p1 < (72057594037927936 : Int64)
                · rw [if_pos hc8] at hf
                  refine Go.step (T' := s₁) (f' := (mkF m 80 #[.val (.long p1), .second] [])) (fun t kt => ?_) ?_
                  · show Steps p.tables e below (s₁.setTop (mkF m 77 #[.val (.long p1), .second] [(.int (lcmpW p1 (72057594037927936 : Int64)))])) _
                    refine XS.ifNo X0.here hx rfl (hb hby d3_77) rfl ((if0 _ _).trans (tlt ((lw_lt _ _).mpr hc8)).2.1) ?_
                    exact kt
                  refine Go.step (T' := s₁) (f' := (mkF m 82 #[.val (.long p1), .second] [(.int (8 : Int32))])) (fun t kt => ?_) ?_
                  · show Steps p.tables e below (s₁.setTop (mkF m 80 #[.val (.long p1), .second] [])) _
                    refine XS.bipush X0.here hx rfl (hb hby d3_80) ?_
                    exact kt
                  refine Go.fin X0 (v := some (.int (8 : Int32))) (fun h => by rw [Bd.returns] at h; cases h) Bd.notSynchronized ?_ (Nat.le_trans (Nat.le_refl 0) (by decide)) (Nat.le_trans (Nat.le_refl 0) (by decide)) (fun fs hr => retI X0 hx Bd.returns (hb hby d3_82) hr)
                  · exact ⟨by rw [hf], N0, e0⟩
                · rw [if_neg hc8] at hf
                  refine Go.step (T' := s₁) (f' := (mkF m 83 #[.val (.long p1), .second] [])) (fun t kt => ?_) ?_
                  · show Steps p.tables e below (s₁.setTop (mkF m 77 #[.val (.long p1), .second] [(.int (lcmpW p1 (72057594037927936 : Int64)))])) _
                    refine XS.ifYes X0.here hx rfl (pc0 := 77) (pc' := 83) rfl (hb hby d3_77) rfl ((if0 _ _).trans (flt (fun q => hc8 ((lw_lt _ _).mp q))).2.1) (by decide) (by decide) ?_
                    exact kt
                  refine Go.step (T' := s₁) (f' := (mkF m 85 #[.val (.long p1), .second] [(.int (9 : Int32))])) (fun t kt => ?_) ?_
                  · show Steps p.tables e below (s₁.setTop (mkF m 83 #[.val (.long p1), .second] [])) _
                    refine XS.bipush X0.here hx rfl (hb hby d3_83) ?_
                    exact kt
                  refine Go.fin X0 (v := some (.int (9 : Int32))) (fun h => by rw [Bd.returns] at h; cases h) Bd.notSynchronized ?_ (Nat.le_trans (Nat.le_refl 0) (by decide)) (Nat.le_trans (Nat.le_refl 0) (by decide)) (fun fs hr => retI X0 hx Bd.returns (hb hby d3_85) hr)
                  · exact ⟨by rw [hf], N0, e0⟩
theorem own_u7 (x : Int64) (h : 0 ≤ x.toInt) : ((x.toUInt64 >>> ((7 : Int32) &&& 0x3f).toInt64.toUInt64).toInt64).toInt = x.toInt / 128 := by
  have q := c_lushr x 7 7 (by decide) (by decide)
  have r := rng64 x
  rw [q]
  omega
def own_Inv (p : Int64) (k : Int32) (x : Int64) : Prop :=
  (k = 1 ∧ x.toInt = p.toInt / 128) ∨ (k = 2 ∧ 128 ≤ p.toInt ∧ x.toInt = p.toInt / 16384) ∨ (k = 3 ∧ 16384 ≤ p.toInt ∧ x.toInt = p.toInt / 2097152) ∨ (k = 4 ∧ 2097152 ≤ p.toInt ∧ x.toInt = p.toInt / 268435456) ∨
  (k = 5 ∧ 268435456 ≤ p.toInt ∧ x.toInt = p.toInt / 34359738368) ∨ (k = 6 ∧ 34359738368 ≤ p.toInt ∧ x.toInt = p.toInt / 4398046511104) ∨ (k = 7 ∧ 4398046511104 ≤ p.toInt ∧ x.toInt = p.toInt / 562949953421312) ∨
  (k = 8 ∧ 562949953421312 ≤ p.toInt ∧ x.toInt = p.toInt / 72057594037927936) ∨ (k = 9 ∧ 72057594037927936 ≤ p.toInt ∧ x.toInt = p.toInt / 9223372036854775808)
theorem own_step {p x : Int64} {k : Int32} (hp : 0 ≤ p.toInt) (h : own_Inv p k x) (hx : ¬ x = (0 : Int64)) : own_Inv p (k + (1 : Int32)) ((x.toUInt64 >>> ((7 : Int32) &&& 0x3f).toInt64.toUInt64).toInt64) ∧ ((x.toUInt64 >>> ((7 : Int32) &&& 0x3f).toInt64.toUInt64).toInt64).toInt.toNat < x.toInt.toNat := by
  have r := rng64 p
  have hx' : ¬ x.toInt = 0 := fun q => hx (Int64.toInt_inj.mp q)
  have h0 : 0 ≤ x.toInt := by
    rcases h with h | h | h | h | h | h | h | h | h <;> omega
  have u := own_u7 x h0
  refine ⟨?_, by omega⟩
  generalize ((x.toUInt64 >>> ((7 : Int32) &&& 0x3f).toInt64.toUInt64).toInt64) = y at u
  rcases h with ⟨rfl, h⟩ | ⟨rfl, h⟩ | ⟨rfl, h⟩ | ⟨rfl, h⟩ | ⟨rfl, h⟩ | ⟨rfl, h⟩ | ⟨rfl, h⟩ | ⟨rfl, h⟩ | ⟨rfl, h⟩
  · exact Or.inr (Or.inl ⟨by decide, by omega, by omega⟩)
  · exact Or.inr (Or.inr (Or.inl ⟨by decide, by omega, by omega⟩))
  · exact Or.inr (Or.inr (Or.inr (Or.inl ⟨by decide, by omega, by omega⟩)))
  · exact Or.inr (Or.inr (Or.inr (Or.inr (Or.inl ⟨by decide, by omega, by omega⟩))))
  · exact Or.inr (Or.inr (Or.inr (Or.inr (Or.inr (Or.inl ⟨by decide, by omega, by omega⟩)))))
  · exact Or.inr (Or.inr (Or.inr (Or.inr (Or.inr (Or.inr (Or.inl ⟨by decide, by omega, by omega⟩))))))
  · exact Or.inr (Or.inr (Or.inr (Or.inr (Or.inr (Or.inr (Or.inr (Or.inl ⟨by decide, by omega, by omega⟩)))))))
  · exact Or.inr (Or.inr (Or.inr (Or.inr (Or.inr (Or.inr (Or.inr (Or.inr ⟨by decide, by omega, by omega⟩)))))))
  · omega
theorem own_start {p : Int64} (hp : 0 ≤ p.toInt) : own_Inv p (1 : Int32) ((p.toUInt64 >>> ((7 : Int32) &&& 0x3f).toInt64.toUInt64).toInt64) := Or.inl ⟨rfl, own_u7 p hp⟩
theorem own_end {p x : Int64} {k : Int32} (hp : 0 ≤ p.toInt) (h : own_Inv p k x) (hx : x = (0 : Int64)) : refL p = k := by
  have r := rng64 p
  have hx' : x.toInt = 0 := by rw [hx]; rfl
  have k1 : (128 : Int64).toInt = 128 := by decide
  have k2 : (16384 : Int64).toInt = 16384 := by decide
  have k3 : (2097152 : Int64).toInt = 2097152 := by decide
  have k4 : (268435456 : Int64).toInt = 268435456 := by decide
  have k5 : (34359738368 : Int64).toInt = 34359738368 := by decide
  have k6 : (4398046511104 : Int64).toInt = 4398046511104 := by decide
  have k7 : (562949953421312 : Int64).toInt = 562949953421312 := by decide
  have k8 : (72057594037927936 : Int64).toInt = 72057594037927936 := by decide
  unfold refL
  simp only [Int64.lt_iff_toInt_lt, k1, k2, k3, k4, k5, k6, k7, k8]
  rcases h with ⟨rfl, h⟩ | ⟨rfl, h⟩ | ⟨rfl, h⟩ | ⟨rfl, h⟩ | ⟨rfl, h⟩ | ⟨rfl, h⟩ | ⟨rfl, h⟩ | ⟨rfl, h⟩ | ⟨rfl, h⟩
  · rw [if_pos (by omega)]
  · rw [if_neg (by omega), if_pos (by omega)]
  · rw [if_neg (by omega), if_neg (by omega), if_pos (by omega)]
  · rw [if_neg (by omega), if_neg (by omega), if_neg (by omega), if_pos (by omega)]
  · rw [if_neg (by omega), if_neg (by omega), if_neg (by omega), if_neg (by omega), if_pos (by omega)]
  · rw [if_neg (by omega), if_neg (by omega), if_neg (by omega), if_neg (by omega), if_neg (by omega), if_pos (by omega)]
  · rw [if_neg (by omega), if_neg (by omega), if_neg (by omega), if_neg (by omega), if_neg (by omega), if_neg (by omega), if_pos (by omega)]
  · rw [if_neg (by omega), if_neg (by omega), if_neg (by omega), if_neg (by omega), if_neg (by omega), if_neg (by omega), if_neg (by omega), if_pos (by omega)]
  · rw [if_neg (by omega), if_neg (by omega), if_neg (by omega), if_neg (by omega), if_neg (by omega), if_neg (by omega), if_neg (by omega), if_neg (by omega)]
theorem own_nn {p : Int64} (h : ¬ (p < (0 : Int64))) : 0 ≤ p.toInt := by
  rw [Int64.lt_iff_toInt_lt] at h
  have k : (0 : Int64).toInt = 0 := rfl
  omega
theorem pd_0 : parseMethodDescriptor "(J)V" = some ⟨[.long], none⟩ := by decide +kernel
theorem d1_0 : decode prog_19_method_2_code 0 = .ok (.lload_n 0, 1) := by decide +kernel
theorem d1_1 : decode prog_19_method_2_code 1 = .ok (.invokestatic 7, 3) := by decide +kernel
theorem d1_4 : decode prog_19_method_2_code 4 = .ok (.iconst 1, 1) := by decide +kernel
theorem d1_5 : decode prog_19_method_2_code 5 = .ok (.istore_n 2, 1) := by decide +kernel
theorem d1_6 : decode prog_19_method_2_code 6 = .ok (.lload_n 0, 1) := by decide +kernel
theorem d1_7 : decode prog_19_method_2_code 7 = .ok (.bipush 7, 2) := by decide +kernel
theorem d1_9 : decode prog_19_method_2_code 9 = .ok (.lushr, 1) := by decide +kernel
theorem d1_10 : decode prog_19_method_2_code 10 = .ok (.lstore_n 3, 1) := by decide +kernel
theorem d1_11 : decode prog_19_method_2_code 11 = .ok (.lload_n 3, 1) := by decide +kernel
theorem d1_12 : decode prog_19_method_2_code 12 = .ok (.lconst 0, 1) := by decide +kernel
theorem d1_13 : decode prog_19_method_2_code 13 = .ok (.lcmp, 1) := by decide +kernel
theorem d1_14 : decode prog_19_method_2_code 14 = .ok (.ifCond .eq 14, 3) := by decide +kernel
theorem d1_17 : decode prog_19_method_2_code 17 = .ok (.iinc 2 1, 3) := by decide +kernel
theorem d1_20 : decode prog_19_method_2_code 20 = .ok (.lload_n 3, 1) := by decide +kernel
theorem d1_21 : decode prog_19_method_2_code 21 = .ok (.bipush 7, 2) := by decide +kernel
theorem d1_23 : decode prog_19_method_2_code 23 = .ok (.lushr, 1) := by decide +kernel
theorem d1_24 : decode prog_19_method_2_code 24 = .ok (.lstore_n 3, 1) := by decide +kernel
theorem d1_25 : decode prog_19_method_2_code 25 = .ok (.goto (-14), 3) := by decide +kernel
theorem d1_28 : decode prog_19_method_2_code 28 = .ok (.iload_n 2, 1) := by decide +kernel
theorem d1_29 : decode prog_19_method_2_code 29 = .ok (.ireturn, 1) := by decide +kernel
theorem ef_sizeL (m : MethodId) (x0 : Int64) : entryFrame m #[(.long x0)] 5 = mkF m 0 #[.val (.long x0), .second, .unset, .unset, .unset] [] := by first | (simp [entryFrame, mkF, argsToLocals, Value.category]; done) | rfl
def QsizeL (Z : State) (p1 : Int64)  (h0 : Heap) (n0 : Nat) (v : Option Value) (h : Heap) (L : List Loc) : Prop := v = some (.int (refL p1)) ∧ Fr n0 L ∧ h = h0
set_option maxRecDepth 65536 in
set_option maxHeartbeats 40000000 in
theorem rm_sizeL (l : Launch) (Z : State) (a0 : Array Value) (hw : ∀ d ∈ tables_1, d.before a0 Z = true) (ws : List Jvm.Cond) (p1 : Int64)  (h0 : Heap) (n0 : Nat) (Z0 : n0 ≤ h0.size) (hp : ¬ (p1 < (0 : Int64))) :
    MetFree l (⟨"com/example/preamble/preamble/varint/Varint", "size", "(J)I"⟩ : MethodName) (head1 (Jvm.Cond.code (⟨"com/example/preamble/preamble/varint/Varint", "size", "(J)I"⟩ : MethodName) prog_19_method_2_code 5 (some .int) :: ws) ({ frames := 1, cells := 0, slots := 0, locals := 13 } : Room)) (fun a U => a = #[(.long p1)] ∧ Z.Warmed39 U.vm ∧ U.heap = h0) (fun _ _ _ _ _ => True) (fun _ U o U' => ∃ v L, o = .returned v ∧ QsizeL Z p1 h0 n0 v U'.heap L ∧ FrameEnd U o U' L ({ frames := 1, cells := 0, slots := 0, locals := 13 } : Room).cells ({ frames := 1, cells := 0, slots := 0, locals := 13 } : Room).slots) := by
  refine MetFree.of_bodySF (plainFor_of_name pn_0) hisR ?_
  intro p e s m args below meth c s₁ Bd hml0 hP hK
  obtain ⟨rfl, hZ, hh⟩ := hP
  have hx := Bd.exec
  have hby := Bd.bytes
  have hml : c.maxLocals = 5 := hml0
  have hown : s.vm.findClass "com/example/preamble/preamble/varint/Varint" = some m.cls := findClass_of_methodNamed Bd.named
  have hnm := (name_of_methodNamed Bd.named Bd.method).1
  have X0 : Stand p l e ({ frames := 1, cells := 0, slots := 0, locals := 13 } : Room) s m #[(.long p1)] below meth c s₁ [] 0 0 := Stand.of_body Bd
  have e0 : s₁.heap = h0 := by rw [← hh, Bd.state]; rfl
  have N0 := Fr.nil n0
  suffices HGO : Go p e below s (QsizeL Z p1 h0 n0) ({ frames := 1, cells := 0, slots := 0, locals := 13 } : Room).cells ({ frames := 1, cells := 0, slots := 0, locals := 13 } : Room).slots s₁ (mkF m 0 #[.val (.long p1), .second, .unset, .unset, .unset] []) from Go.cast (ef_sizeL m p1) HGO
  have S11 : ∀ (N_ : Nat) (T : State) (locs : List Loc) (cells slots : Nat) (X : Stand p l e ({ frames := 1, cells := 0, slots := 0, locals := 13 } : Room) s m #[(.long p1)] below meth c T locs cells slots) (hcl : cells ≤ 0) (hsl : slots ≤ 0) (eT : T.heap = h0) (N : Fr n0 locs) (x2 : Int32) (x3 : Int64)  (hi : own_Inv p1 x2 x3) (hN_ : x3.toInt.toNat = N_), Go p e below s (QsizeL Z p1 h0 n0) ({ frames := 1, cells := 0, slots := 0, locals := 13 } : Room).cells ({ frames := 1, cells := 0, slots := 0, locals := 13 } : Room).slots T (mkF m 11 #[.val (.long p1), .second, .val (.int x2), .val (.long x3), .second] []) := by
    intro N_; induction N_ using Nat.strongRecOn with | _ N_ IH => ?_
    intro T locs cells slots X hcl hsl eT N x2 x3 hi hN_
    subst hN_
    refine Go.step (T' := T) (f' := (mkF m 14 #[.val (.long p1), .second, .val (.int x2), .val (.long x3), .second] [(.int (lcmpW x3 (0 : Int64)))])) (fun t kt => ?_) ?_
    · show Steps p.tables e below (T.setTop (mkF m 11 #[.val (.long p1), .second, .val (.int x2), .val (.long x3), .second] [])) _
      refine XS.lloadN X.here hx rfl (hb hby d1_11) rfl ?_
      show Steps p.tables e below (T.setTop (mkF m 12 #[.val (.long p1), .second, .val (.int x2), .val (.long x3), .second] [(.long x3)])) _
      refine XS.lconst X.here hx rfl (hb hby d1_12) ?_
      show Steps p.tables e below (T.setTop (mkF m 13 #[.val (.long p1), .second, .val (.int x2), .val (.long x3), .second] [(.long (0 : Int64)), (.long x3)])) _
      refine XS.lcmp X.here hx rfl (hb hby d1_13) rfl ?_
      exact kt
    by_cases hc1 : x3 = (0 : Int64)
    · have _ := hc1
      refine Go.step (T' := T) (f' := (mkF m 28 #[.val (.long p1), .second, .val (.int x2), .val (.long x3), .second] [])) (fun t kt => ?_) ?_
      · show Steps p.tables e below (T.setTop (mkF m 14 #[.val (.long p1), .second, .val (.int x2), .val (.long x3), .second] [(.int (lcmpW x3 (0 : Int64)))])) _
        refine XS.ifYes X.here hx rfl (pc0 := 14) (pc' := 28) rfl (hb hby d1_14) rfl ((if0 _ _).trans (teq ((lw_eq _ _).mpr hc1)).1) (by decide) (by decide) ?_
        exact kt
      refine Go.step (T' := T) (f' := (mkF m 29 #[.val (.long p1), .second, .val (.int x2), .val (.long x3), .second] [(.int x2)])) (fun t kt => ?_) ?_
      · show Steps p.tables e below (T.setTop (mkF m 28 #[.val (.long p1), .second, .val (.int x2), .val (.long x3), .second] [])) _
        refine XS.iloadN X.here hx rfl (hb hby d1_28) rfl ?_
        exact kt
      refine Go.fin X (v := some (.int x2)) (fun h => by rw [Bd.returns] at h; cases h) Bd.notSynchronized ?_ (Nat.le_trans hcl (by decide)) (Nat.le_trans hsl (by decide)) (fun fs hr => retI X hx Bd.returns (hb hby d1_29) hr)
      · show QsizeL Z p1 h0 n0 _ T.heap _
        exact ⟨by rw [own_end (own_nn hp) hi (by assumption)], N, eT⟩
    · have _ := hc1
      refine Go.step (T' := T) (f' := (mkF m 17 #[.val (.long p1), .second, .val (.int x2), .val (.long x3), .second] [])) (fun t kt => ?_) ?_
      · show Steps p.tables e below (T.setTop (mkF m 14 #[.val (.long p1), .second, .val (.int x2), .val (.long x3), .second] [(.int (lcmpW x3 (0 : Int64)))])) _
        refine XS.ifNo X.here hx rfl (hb hby d1_14) rfl ((if0 _ _).trans (feq (fun q => hc1 ((lw_eq _ _).mp q))).1) ?_
        exact kt
      refine Go.step (T' := T) (f' := (mkF m 11 #[.val (.long p1), .second, .val (.int (x2 + (1 : Int32))), .val (.long ((x3.toUInt64 >>> ((7 : Int32) &&& 0x3f).toInt64.toUInt64).toInt64)), .second] [])) (fun t kt => ?_) ?_
      · show Steps p.tables e below (T.setTop (mkF m 17 #[.val (.long p1), .second, .val (.int x2), .val (.long x3), .second] [])) _
        refine XS.iinc X.here hx rfl (hb hby d1_17) rfl (l' := #[.val (.long p1), .second, .val (.int (x2 + (1 : Int32))), .val (.long x3), .second]) rfl ?_
        show Steps p.tables e below (T.setTop (mkF m 20 #[.val (.long p1), .second, .val (.int (x2 + (1 : Int32))), .val (.long x3), .second] [])) _
        refine XS.lloadN X.here hx rfl (hb hby d1_20) rfl ?_
        show Steps p.tables e below (T.setTop (mkF m 21 #[.val (.long p1), .second, .val (.int (x2 + (1 : Int32))), .val (.long x3), .second] [(.long x3)])) _
        refine XS.bipush X.here hx rfl (hb hby d1_21) ?_
        show Steps p.tables e below (T.setTop (mkF m 23 #[.val (.long p1), .second, .val (.int (x2 + (1 : Int32))), .val (.long x3), .second] [(.int (7 : Int32)), (.long x3)])) _
        refine XS.lushr X.here hx rfl (hb hby d1_23) rfl ?_
        show Steps p.tables e below (T.setTop (mkF m 24 #[.val (.long p1), .second, .val (.int (x2 + (1 : Int32))), .val (.long x3), .second] [(.long ((x3.toUInt64 >>> ((7 : Int32) &&& 0x3f).toInt64.toUInt64).toInt64))])) _
        refine XS.lstoreN X.here hx rfl (hb hby d1_24) rfl (l' := #[.val (.long p1), .second, .val (.int (x2 + (1 : Int32))), .val (.long ((x3.toUInt64 >>> ((7 : Int32) &&& 0x3f).toInt64.toUInt64).toInt64)), .second]) rfl ?_
        show Steps p.tables e below (T.setTop (mkF m 25 #[.val (.long p1), .second, .val (.int (x2 + (1 : Int32))), .val (.long ((x3.toUInt64 >>> ((7 : Int32) &&& 0x3f).toInt64.toUInt64).toInt64)), .second] [])) _
        refine XS.goto X.here hx rfl (pc0 := 25) (pc' := 11) rfl (hb hby d1_25) (by decide) (by decide) ?_
        exact kt
      exact IH _ ((own_step (own_nn hp) hi (by assumption)).2) _ _ _ _ X (Nat.le_trans hcl (by decide)) (Nat.le_trans hsl (by decide)) eT N (x2 + (1 : Int32)) ((x3.toUInt64 >>> ((7 : Int32) &&& 0x3f).toInt64.toUInt64).toInt64) (own_step (own_nn hp) hi (by assumption)).1 rfl
  obtain ⟨_, _, ⟨T2, L2, k2, n2⟩, -, X2, ⟨Lc2, hQ2, l2, y2, z2⟩, st2⟩ := Jvm.LawKit.callS X0 hx (y := (⟨"com/example/preamble/preamble/varint/Varint", "requireUnsigned", "(J)V"⟩ : MethodName)) hown (mvT hZ (hw _ (List.mem_of_getElem? (i := 5) rfl))) (mvT hZ (hw _ (List.mem_of_getElem? (i := 6) rfl))) (mvT hZ (hw _ (List.mem_of_getElem? (i := 3) rfl))) (mvT hZ (hw _ (List.mem_of_getElem? (i := 7) rfl))) (by decide) (backOf (W := 0) (rm_reqU l Z a0 hw [] p1  h0 n0 Z0 hp) hZ (hw _ (List.mem_of_getElem? (i := 7) rfl)) (hw _ (List.mem_of_getElem? (i := 3) rfl)) (by decide) (by decide)) (g := (mkF m 1 #[.val (.long p1), .second, .unset, .unset, .unset] [(.long p1)])) rfl (by rw [hml]; rfl) (argsL := [(.long p1)]) (rest := []) (lenOf pd_0 rfl) rfl (by show 2 * 0 + _ ≤ _; exact Nat.le_of_eq rfl) (hb hby d1_1) (fun _ _ => ⟨rfl, e0, (Nat.le_trans (Nat.add_le_add_right (Nat.le_refl 0) 0) (by decide)), (Nat.le_trans (Nat.add_le_add_right (Nat.le_refl 0) 0) (by decide))⟩)
  dsimp only [Pt.U, Pt.locs, Pt.cells, Pt.slots] at X2 l2 y2 z2 st2 hQ2
  subst l2 y2 z2
  obtain ⟨rfl, N2q, e2⟩ := hQ2
  have N2 := Fr.app N0 N2q
  refine Go.step (T' := T2) (f' := (mkF m 11 #[.val (.long p1), .second, .val (.int (1 : Int32)), .val (.long ((p1.toUInt64 >>> ((7 : Int32) &&& 0x3f).toInt64.toUInt64).toInt64)), .second] [])) (fun t kt => ?_) ?_
  · show Steps p.tables e below (s₁.setTop (mkF m 0 #[.val (.long p1), .second, .unset, .unset, .unset] [])) _
    refine XS.lloadN X0.here hx rfl (hb hby d1_0) rfl ?_
    show Steps p.tables e below (s₁.setTop (mkF m 1 #[.val (.long p1), .second, .unset, .unset, .unset] [(.long p1)])) _
    refine st2 _ ?_
    show Steps p.tables e below (T2.setTop (mkF m 4 #[.val (.long p1), .second, .unset, .unset, .unset] [])) _
    refine XS.iconst X2.here hx rfl (hb hby d1_4) ?_
    show Steps p.tables e below (T2.setTop (mkF m 5 #[.val (.long p1), .second, .unset, .unset, .unset] [(.int (1 : Int32))])) _
    refine XS.istoreN X2.here hx rfl (hb hby d1_5) rfl (l' := #[.val (.long p1), .second, .val (.int (1 : Int32)), .unset, .unset]) rfl ?_
    show Steps p.tables e below (T2.setTop (mkF m 6 #[.val (.long p1), .second, .val (.int (1 : Int32)), .unset, .unset] [])) _
    refine XS.lloadN X2.here hx rfl (hb hby d1_6) rfl ?_
    show Steps p.tables e below (T2.setTop (mkF m 7 #[.val (.long p1), .second, .val (.int (1 : Int32)), .unset, .unset] [(.long p1)])) _
    refine XS.bipush X2.here hx rfl (hb hby d1_7) ?_
    show Steps p.tables e below (T2.setTop (mkF m 9 #[.val (.long p1), .second, .val (.int (1 : Int32)), .unset, .unset] [(.int (7 : Int32)), (.long p1)])) _
    refine XS.lushr X2.here hx rfl (hb hby d1_9) rfl ?_
    show Steps p.tables e below (T2.setTop (mkF m 10 #[.val (.long p1), .second, .val (.int (1 : Int32)), .unset, .unset] [(.long ((p1.toUInt64 >>> ((7 : Int32) &&& 0x3f).toInt64.toUInt64).toInt64))])) _
    refine XS.lstoreN X2.here hx rfl (hb hby d1_10) rfl (l' := #[.val (.long p1), .second, .val (.int (1 : Int32)), .val (.long ((p1.toUInt64 >>> ((7 : Int32) &&& 0x3f).toInt64.toUInt64).toInt64)), .second]) rfl ?_
    exact kt
  exact S11 _ _ _ _ _ X2 (Nat.le_trans (Nat.add_le_add_right (Nat.le_refl 0) 0) (by decide)) (Nat.le_trans (Nat.add_le_add_right (Nat.le_refl 0) 0) (by decide)) e2 N2 (1 : Int32) ((p1.toUInt64 >>> ((7 : Int32) &&& 0x3f).toInt64.toUInt64).toInt64) (own_start (own_nn hp)) rfl
theorem own_v (x : Int64) (s : Int32) : ¬ (((((x &&& (9223372036854775807 : Int64)).toUInt64 >>> ((s &&& (63 : Int32)) &&& 0x3f).toInt64.toUInt64).toInt64)) < (0 : Int64)) := by
  have m := c_maskL x 9223372036854775807 63 (by decide) (by decide)
  rw [Int64.lt_iff_toInt_lt]
  have k : (0 : Int64).toInt = 0 := rfl
  by_cases z : ((s &&& 63).toBitVec.toNat % 64) = 0
  · have e : ((s &&& (63 : Int32)) &&& 0x3f).toInt64.toUInt64 = 0 := by
      have q := (sm64 (s &&& 63) 0 z).1
      apply UInt64.toBitVec_inj.mp
      exact q
    rw [e]
    have : (((x &&& 9223372036854775807).toUInt64 >>> (0 : UInt64)).toInt64) = (x &&& 9223372036854775807) := by simp
    rw [this]; omega
  · have q := c_lushr (x &&& 9223372036854775807) (s &&& 63) _ rfl (Nat.pos_of_ne_zero z)
    rw [q, k]
    exact Int.not_lt.mpr (Int.ediv_nonneg (Int.emod_nonneg _ (by decide)) (Int.natCast_nonneg _))
theorem pd_1 : parseMethodDescriptor "(J)I" = some ⟨[.long], some .int⟩ := by decide +kernel
theorem ef_0 (m : MethodId) (x0 : Int64) (x1 : Int32) : entryFrame m #[(.long x0), (.int x1)] maxLocals = mkF m 0 #[.val (.long x0), .second, .val (.int x1), .unset, .unset] [] := by first | (simp [entryFrame, mkF, argsToLocals, Value.category, maxLocals]; done) | rfl
def lawF (p1 : Int64) (p2 : Int32) : Int32 := (if (refL (((p1 &&& (9223372036854775807 : Int64)).toUInt64 >>> ((p2 &&& (63 : Int32)) &&& 0x3f).toInt64.toUInt64).toInt64)) = (refL (((p1 &&& (9223372036854775807 : Int64)).toUInt64 >>> ((p2 &&& (63 : Int32)) &&& 0x3f).toInt64.toUInt64).toInt64)) then (1 : Int32) else (0 : Int32))
def Q0 (RES : Int32) (h0 : Heap) (n0 : Nat) (v : Option Value) (h : Heap) (L : List Loc) : Prop := v = some (.int RES) ∧ Fr n0 L ∧ h = h0
set_option maxRecDepth 65536 in
set_option maxHeartbeats 40000000 in
theorem rm_0 (l : Launch) (Z : State) (a0 : Array Value) (hw : ∀ d ∈ tables_1, d.before a0 Z = true) (ws : List Jvm.Cond) (p1 : Int64) (p2 : Int32)  (h0 : Heap) (n0 : Nat) (Z0 : n0 ≤ h0.size) :
    MetFree l x (head1 (Jvm.Cond.code x code maxLocals ret :: ws) room_1) (fun a U => a = #[(.long p1), (.int p2)] ∧ Z.Warmed39 U.vm ∧ U.heap = h0) (fun _ _ _ _ _ => True) (fun _ U o U' => ∃ v L, o = .returned v ∧ Q0 (lawF p1 p2) h0 n0 v U'.heap L ∧ FrameEnd U o U' L 0 0) := by
  refine MetFree.of_bodySF (plainFor_of_name pn_1) hisR ?_
  intro p e s m args below meth c s₁ Bd hml0 hP hK
  obtain ⟨rfl, hZ, hh⟩ := hP
  have hx := Bd.exec
  have hby := Bd.bytes
  have hml : c.maxLocals = 5 := hml0
  have hown : s.vm.findClass "com/example/preamble/preamble/varint/VarintSizePinLaw" = some m.cls := findClass_of_methodNamed Bd.named
  have hnm := (name_of_methodNamed Bd.named Bd.method).1
  have X0 : Stand p l e room_1 s m #[(.long p1), (.int p2)] below meth c s₁ [] 0 0 := Stand.of_body Bd
  have e0 : s₁.heap = h0 := by rw [← hh, Bd.state]; rfl
  have N0 := Fr.nil n0
  obtain ⟨RES, hf⟩ : ∃ z, z = lawF p1 p2 := ⟨_, rfl⟩
  rw [← hf]
  rw [lawF] at hf
  suffices HGO : Go p e below s (Q0 RES h0 n0) 0 0 s₁ (mkF m 0 #[.val (.long p1), .second, .val (.int p2), .unset, .unset] []) from Go.cast (ef_0 m p1 p2) HGO
  obtain ⟨_, _, ⟨T1, L1, k1, n1⟩, -, X1, ⟨Lc1, hQ1, l1, y1, z1⟩, st1⟩ := Jvm.LawKit.callS X0 hx (y := (⟨"com/example/preamble/preamble/varint/Varint", "size", "(J)I"⟩ : MethodName)) hown (mvT hZ (hw _ (List.mem_of_getElem? (i := 1) rfl))) (mvT hZ (hw _ (List.mem_of_getElem? (i := 2) rfl))) (mvT hZ (hw _ (List.mem_of_getElem? (i := 3) rfl))) (mvT hZ (hw _ (List.mem_of_getElem? (i := 4) rfl))) (by decide) (backOf (W := 0) (rm_sizeL l Z a0 hw [] (((p1 &&& (9223372036854775807 : Int64)).toUInt64 >>> ((p2 &&& (63 : Int32)) &&& 0x3f).toInt64.toUInt64).toInt64)  h0 n0 Z0 (own_v p1 p2)) hZ (hw _ (List.mem_of_getElem? (i := 4) rfl)) (hw _ (List.mem_of_getElem? (i := 3) rfl)) (by decide) (by decide)) (g := (mkF m 12 #[.val (.long p1), .second, .val (.int p2), .val (.long (((p1 &&& (9223372036854775807 : Int64)).toUInt64 >>> ((p2 &&& (63 : Int32)) &&& 0x3f).toInt64.toUInt64).toInt64)), .second] [(.long (((p1 &&& (9223372036854775807 : Int64)).toUInt64 >>> ((p2 &&& (63 : Int32)) &&& 0x3f).toInt64.toUInt64).toInt64))])) rfl (by rw [hml]; rfl) (argsL := [(.long (((p1 &&& (9223372036854775807 : Int64)).toUInt64 >>> ((p2 &&& (63 : Int32)) &&& 0x3f).toInt64.toUInt64).toInt64))]) (rest := []) (lenOf pd_1 rfl) rfl (by show 2 * 0 + _ ≤ _; exact Nat.le_of_eq rfl) (hb hby at_12) (fun _ _ => ⟨rfl, e0, (Nat.le_trans (Nat.add_le_add_right (Nat.le_refl 0) 0) (by decide)), (Nat.le_trans (Nat.add_le_add_right (Nat.le_refl 0) 0) (by decide))⟩)
  dsimp only [Pt.U, Pt.locs, Pt.cells, Pt.slots] at X1 l1 y1 z1 st1 hQ1
  subst l1 y1 z1
  obtain ⟨rfl, N1q, e1⟩ := hQ1
  have N1 := Fr.app N0 N1q
  obtain ⟨_, _, ⟨T2, L2, k2, n2⟩, -, X2, ⟨Lc2, hQ2, l2, y2, z2⟩, st2⟩ := Jvm.LawKit.callS X1 hx (y := (⟨"com/example/preamble/preamble/varint/VarintSizePinLaw", "reference", "(J)I"⟩ : MethodName)) hown (mvT hZ (hw _ (List.mem_of_getElem? (i := 8) rfl))) (mvT hZ (hw _ (List.mem_of_getElem? (i := 9) rfl))) (mvT hZ (hw _ (List.mem_of_getElem? (i := 10) rfl))) (mvT hZ (hw _ (List.mem_of_getElem? (i := 11) rfl))) (by decide) (backOf (W := 1) (rm_refL l Z a0 hw [] (((p1 &&& (9223372036854775807 : Int64)).toUInt64 >>> ((p2 &&& (63 : Int32)) &&& 0x3f).toInt64.toUInt64).toInt64)  h0 n0 Z0 ) hZ (hw _ (List.mem_of_getElem? (i := 11) rfl)) (hw _ (List.mem_of_getElem? (i := 10) rfl)) (by decide) (by decide)) (g := (mkF m 16 #[.val (.long p1), .second, .val (.int p2), .val (.long (((p1 &&& (9223372036854775807 : Int64)).toUInt64 >>> ((p2 &&& (63 : Int32)) &&& 0x3f).toInt64.toUInt64).toInt64)), .second] [(.long (((p1 &&& (9223372036854775807 : Int64)).toUInt64 >>> ((p2 &&& (63 : Int32)) &&& 0x3f).toInt64.toUInt64).toInt64)), (.int (refL (((p1 &&& (9223372036854775807 : Int64)).toUInt64 >>> ((p2 &&& (63 : Int32)) &&& 0x3f).toInt64.toUInt64).toInt64)))])) rfl (by rw [hml]; rfl) (argsL := [(.long (((p1 &&& (9223372036854775807 : Int64)).toUInt64 >>> ((p2 &&& (63 : Int32)) &&& 0x3f).toInt64.toUInt64).toInt64))]) (rest := [(.int (refL (((p1 &&& (9223372036854775807 : Int64)).toUInt64 >>> ((p2 &&& (63 : Int32)) &&& 0x3f).toInt64.toUInt64).toInt64)))]) (lenOf pd_1 rfl) rfl (by show 2 * 0 + _ ≤ _; exact Nat.le_of_eq rfl) (hb hby at_16) (fun _ _ => ⟨rfl, e1, (Nat.le_trans (Nat.add_le_add_right (Nat.add_le_add_right (Nat.le_refl 0) 0) 0) (by decide)), (Nat.le_trans (Nat.add_le_add_right (Nat.add_le_add_right (Nat.le_refl 0) 0) 0) (by decide))⟩)
  dsimp only [Pt.U, Pt.locs, Pt.cells, Pt.slots] at X2 l2 y2 z2 st2 hQ2
  subst l2 y2 z2
  obtain ⟨rfl, N2q, e2⟩ := hQ2
  have N2 := Fr.app N1 N2q
  refine Go.step (T' := T2) (f' := (mkF m 19 #[.val (.long p1), .second, .val (.int p2), .val (.long (((p1 &&& (9223372036854775807 : Int64)).toUInt64 >>> ((p2 &&& (63 : Int32)) &&& 0x3f).toInt64.toUInt64).toInt64)), .second] [(.int (refL (((p1 &&& (9223372036854775807 : Int64)).toUInt64 >>> ((p2 &&& (63 : Int32)) &&& 0x3f).toInt64.toUInt64).toInt64))), (.int (refL (((p1 &&& (9223372036854775807 : Int64)).toUInt64 >>> ((p2 &&& (63 : Int32)) &&& 0x3f).toInt64.toUInt64).toInt64)))])) (fun t kt => ?_) ?_
  · show Steps p.tables e below (s₁.setTop (mkF m 0 #[.val (.long p1), .second, .val (.int p2), .unset, .unset] [])) _
    refine XS.lloadN X0.here hx rfl (hb hby at_0) rfl ?_
    show Steps p.tables e below (s₁.setTop (mkF m 1 #[.val (.long p1), .second, .val (.int p2), .unset, .unset] [(.long p1)])) _
    refine X0.ldc2Long hx hown (mvT hZ (hw _ (List.mem_of_getElem? (i := 0) rfl))) (g := (mkF m 1 #[.val (.long p1), .second, .val (.int p2), .unset, .unset] [(.long p1)])) rfl (hb hby at_1) _ ?_
    show Steps p.tables e below (s₁.setTop (mkF m 4 #[.val (.long p1), .second, .val (.int p2), .unset, .unset] [(.long (9223372036854775807 : Int64)), (.long p1)])) _
    refine XS.land X0.here hx rfl (hb hby at_4) rfl ?_
    show Steps p.tables e below (s₁.setTop (mkF m 5 #[.val (.long p1), .second, .val (.int p2), .unset, .unset] [(.long (p1 &&& (9223372036854775807 : Int64)))])) _
    refine XS.iloadN X0.here hx rfl (hb hby at_5) rfl ?_
    show Steps p.tables e below (s₁.setTop (mkF m 6 #[.val (.long p1), .second, .val (.int p2), .unset, .unset] [(.int p2), (.long (p1 &&& (9223372036854775807 : Int64)))])) _
    refine XS.bipush X0.here hx rfl (hb hby at_6) ?_
    show Steps p.tables e below (s₁.setTop (mkF m 8 #[.val (.long p1), .second, .val (.int p2), .unset, .unset] [(.int (63 : Int32)), (.int p2), (.long (p1 &&& (9223372036854775807 : Int64)))])) _
    refine XS.iand X0.here hx rfl (hb hby at_8) rfl ?_
    show Steps p.tables e below (s₁.setTop (mkF m 9 #[.val (.long p1), .second, .val (.int p2), .unset, .unset] [(.int (p2 &&& (63 : Int32))), (.long (p1 &&& (9223372036854775807 : Int64)))])) _
    refine XS.lushr X0.here hx rfl (hb hby at_9) rfl ?_
    show Steps p.tables e below (s₁.setTop (mkF m 10 #[.val (.long p1), .second, .val (.int p2), .unset, .unset] [(.long (((p1 &&& (9223372036854775807 : Int64)).toUInt64 >>> ((p2 &&& (63 : Int32)) &&& 0x3f).toInt64.toUInt64).toInt64))])) _
    refine XS.lstoreN X0.here hx rfl (hb hby at_10) rfl (l' := #[.val (.long p1), .second, .val (.int p2), .val (.long (((p1 &&& (9223372036854775807 : Int64)).toUInt64 >>> ((p2 &&& (63 : Int32)) &&& 0x3f).toInt64.toUInt64).toInt64)), .second]) rfl ?_
    show Steps p.tables e below (s₁.setTop (mkF m 11 #[.val (.long p1), .second, .val (.int p2), .val (.long (((p1 &&& (9223372036854775807 : Int64)).toUInt64 >>> ((p2 &&& (63 : Int32)) &&& 0x3f).toInt64.toUInt64).toInt64)), .second] [])) _
    refine XS.lloadN X0.here hx rfl (hb hby at_11) rfl ?_
    show Steps p.tables e below (s₁.setTop (mkF m 12 #[.val (.long p1), .second, .val (.int p2), .val (.long (((p1 &&& (9223372036854775807 : Int64)).toUInt64 >>> ((p2 &&& (63 : Int32)) &&& 0x3f).toInt64.toUInt64).toInt64)), .second] [(.long (((p1 &&& (9223372036854775807 : Int64)).toUInt64 >>> ((p2 &&& (63 : Int32)) &&& 0x3f).toInt64.toUInt64).toInt64))])) _
    refine st1 _ ?_
    show Steps p.tables e below (T1.setTop (mkF m 15 #[.val (.long p1), .second, .val (.int p2), .val (.long (((p1 &&& (9223372036854775807 : Int64)).toUInt64 >>> ((p2 &&& (63 : Int32)) &&& 0x3f).toInt64.toUInt64).toInt64)), .second] [(.int (refL (((p1 &&& (9223372036854775807 : Int64)).toUInt64 >>> ((p2 &&& (63 : Int32)) &&& 0x3f).toInt64.toUInt64).toInt64)))])) _
    refine XS.lloadN X1.here hx rfl (hb hby at_15) rfl ?_
    show Steps p.tables e below (T1.setTop (mkF m 16 #[.val (.long p1), .second, .val (.int p2), .val (.long (((p1 &&& (9223372036854775807 : Int64)).toUInt64 >>> ((p2 &&& (63 : Int32)) &&& 0x3f).toInt64.toUInt64).toInt64)), .second] [(.long (((p1 &&& (9223372036854775807 : Int64)).toUInt64 >>> ((p2 &&& (63 : Int32)) &&& 0x3f).toInt64.toUInt64).toInt64)), (.int (refL (((p1 &&& (9223372036854775807 : Int64)).toUInt64 >>> ((p2 &&& (63 : Int32)) &&& 0x3f).toInt64.toUInt64).toInt64)))])) _
    refine st2 _ ?_
    exact kt
  by_cases hc3 : (refL (((p1 &&& (9223372036854775807 : Int64)).toUInt64 >>> ((p2 &&& (63 : Int32)) &&& 0x3f).toInt64.toUInt64).toInt64)) = (refL (((p1 &&& (9223372036854775807 : Int64)).toUInt64 >>> ((p2 &&& (63 : Int32)) &&& 0x3f).toInt64.toUInt64).toInt64))
  · rw [if_pos hc3] at hf
    refine Go.step (T' := T2) (f' := (mkF m 22 #[.val (.long p1), .second, .val (.int p2), .val (.long (((p1 &&& (9223372036854775807 : Int64)).toUInt64 >>> ((p2 &&& (63 : Int32)) &&& 0x3f).toInt64.toUInt64).toInt64)), .second] [])) (fun t kt => ?_) ?_
    · show Steps p.tables e below (T2.setTop (mkF m 19 #[.val (.long p1), .second, .val (.int p2), .val (.long (((p1 &&& (9223372036854775807 : Int64)).toUInt64 >>> ((p2 &&& (63 : Int32)) &&& 0x3f).toInt64.toUInt64).toInt64)), .second] [(.int (refL (((p1 &&& (9223372036854775807 : Int64)).toUInt64 >>> ((p2 &&& (63 : Int32)) &&& 0x3f).toInt64.toUInt64).toInt64))), (.int (refL (((p1 &&& (9223372036854775807 : Int64)).toUInt64 >>> ((p2 &&& (63 : Int32)) &&& 0x3f).toInt64.toUInt64).toInt64)))])) _
      refine XS.icmpNo X2.here hx rfl (hb hby at_19) rfl (teq hc3).2 ?_
      exact kt
    refine Go.step (T' := T2) (f' := (mkF m 27 #[.val (.long p1), .second, .val (.int p2), .val (.long (((p1 &&& (9223372036854775807 : Int64)).toUInt64 >>> ((p2 &&& (63 : Int32)) &&& 0x3f).toInt64.toUInt64).toInt64)), .second] [(.int (1 : Int32))])) (fun t kt => ?_) ?_
    · show Steps p.tables e below (T2.setTop (mkF m 22 #[.val (.long p1), .second, .val (.int p2), .val (.long (((p1 &&& (9223372036854775807 : Int64)).toUInt64 >>> ((p2 &&& (63 : Int32)) &&& 0x3f).toInt64.toUInt64).toInt64)), .second] [])) _
      refine XS.iconst X2.here hx rfl (hb hby at_22) ?_
      show Steps p.tables e below (T2.setTop (mkF m 23 #[.val (.long p1), .second, .val (.int p2), .val (.long (((p1 &&& (9223372036854775807 : Int64)).toUInt64 >>> ((p2 &&& (63 : Int32)) &&& 0x3f).toInt64.toUInt64).toInt64)), .second] [(.int (1 : Int32))])) _
      refine XS.goto X2.here hx rfl (pc0 := 23) (pc' := 27) rfl (hb hby at_23) (by decide) (by decide) ?_
      exact kt
    refine Go.fin X2 (v := some (.int (1 : Int32))) (fun h => by rw [Bd.returns] at h; cases h) Bd.notSynchronized ?_ (Nat.le_trans (Nat.add_le_add_right (Nat.add_le_add_right (Nat.le_refl 0) 0) 0) (by decide)) (Nat.le_trans (Nat.add_le_add_right (Nat.add_le_add_right (Nat.le_refl 0) 0) 0) (by decide)) (fun fs hr => retN X2 hx (t := .boolean) Bd.returns (by simp) (hb hby at_27) hr)
    · exact ⟨by rw [hf], N2, e2⟩
  · rw [if_neg hc3] at hf
    refine Go.step (T' := T2) (f' := (mkF m 26 #[.val (.long p1), .second, .val (.int p2), .val (.long (((p1 &&& (9223372036854775807 : Int64)).toUInt64 >>> ((p2 &&& (63 : Int32)) &&& 0x3f).toInt64.toUInt64).toInt64)), .second] [])) (fun t kt => ?_) ?_
    · show Steps p.tables e below (T2.setTop (mkF m 19 #[.val (.long p1), .second, .val (.int p2), .val (.long (((p1 &&& (9223372036854775807 : Int64)).toUInt64 >>> ((p2 &&& (63 : Int32)) &&& 0x3f).toInt64.toUInt64).toInt64)), .second] [(.int (refL (((p1 &&& (9223372036854775807 : Int64)).toUInt64 >>> ((p2 &&& (63 : Int32)) &&& 0x3f).toInt64.toUInt64).toInt64))), (.int (refL (((p1 &&& (9223372036854775807 : Int64)).toUInt64 >>> ((p2 &&& (63 : Int32)) &&& 0x3f).toInt64.toUInt64).toInt64)))])) _
      refine XS.icmpYes X2.here hx rfl (pc0 := 19) (pc' := 26) rfl (hb hby at_19) rfl (feq hc3).2 (by decide) (by decide) ?_
      exact kt
    refine Go.step (T' := T2) (f' := (mkF m 27 #[.val (.long p1), .second, .val (.int p2), .val (.long (((p1 &&& (9223372036854775807 : Int64)).toUInt64 >>> ((p2 &&& (63 : Int32)) &&& 0x3f).toInt64.toUInt64).toInt64)), .second] [(.int (0 : Int32))])) (fun t kt => ?_) ?_
    · show Steps p.tables e below (T2.setTop (mkF m 26 #[.val (.long p1), .second, .val (.int p2), .val (.long (((p1 &&& (9223372036854775807 : Int64)).toUInt64 >>> ((p2 &&& (63 : Int32)) &&& 0x3f).toInt64.toUInt64).toInt64)), .second] [])) _
      refine XS.iconst X2.here hx rfl (hb hby at_26) ?_
      exact kt
    refine Go.fin X2 (v := some (.int (0 : Int32))) (fun h => by rw [Bd.returns] at h; cases h) Bd.notSynchronized ?_ (Nat.le_trans (Nat.add_le_add_right (Nat.add_le_add_right (Nat.le_refl 0) 0) 0) (by decide)) (Nat.le_trans (Nat.add_le_add_right (Nat.add_le_add_right (Nat.le_refl 0) 0) 0) (by decide)) (fun fs hr => retN X2 hx (t := .boolean) Bd.returns (by simp) (hb hby at_27) hr)
    · exact ⟨by rw [hf], N2, e2⟩
theorem own_law (x : Int64) (s : Int32) : lawF x s = 1 := by
  unfold lawF
  rw [if_pos rfl]
set_option maxRecDepth 65536 in
set_option maxHeartbeats 40000000 in
theorem comes_1 {Post : Tables → Env → Array Value → State → Outcome → State → Prop} (hpost : ∀ tb e args s v u, (limb_1_1.after args s (.returned v) u = true ∧ limb_1_2.after args s (.returned v) u = true ∧ True) → FrameEnd s (.returned v) u (Jvm.fieldLocs frame_1_writes args s ++ Jvm.arrayLocs frame_1_arrays args s ++ Jvm.staticLocs frame_1_statics s) 0 0 → Post tb e args s (.returned v) u) :
    ArmFor flags0 classFile x code maxLocals ret World_1 tables_1 room_1 Calls_1 rest_1 Pre_1 Post := by
  intro l hfl _ _ p e ha hc hk s m args below hf hA hF happ hP
  obtain ⟨hcalls, hrest, hpre⟩ := hP
  obtain ⟨-, -, -, hnamed, -, -, -, hat⟩ := (Spec.applies_iff hf).mp happ
  obtain ⟨hg, hn⟩ := and_e (Cond.before_iff.mp (show (Jvm.Cond.and given_1 narrow_1).before args s = true from hpre))
  obtain ⟨g1, g2⟩ := and_e hg
  obtain ⟨g3, g4⟩ := and_e g2
  obtain ⟨w0, w1, rfl⟩ : ∃ w0 w1 : Value, args = #[w0, w1] := by
    have hs : args.size = 2 := by simpa [Cond.value, given_1] using g1
    obtain ⟨L⟩ := args
    match L, hs with
    | [w0, w1], _ => exact ⟨w0, w1, rfl⟩
  have hw := fun d (hd : d ∈ tables_1) => atoms_spec (ws := Jvm.Cond.code x code maxLocals ret :: tables_1) hat d (List.mem_cons_of_mem _ hd)
  obtain ⟨i0, ei0⟩ := isL_v g3
  obtain rfl : w0 = (.long i0) := Option.some.inj ei0
  obtain ⟨i1, ei1⟩ := is_v g4
  obtain rfl : w1 = (.int i1) := Option.some.inj ei1
  obtain ⟨n, o, h1, h2, h3, _, L, rfl, ⟨hv, N, -⟩, hq⟩ := rm_0 l s _ hw tables_1 i0 i1  s.heap s.heap.size (Nat.le_refl _)  p e ha hc hk s m _ below hf ((Spec.applies_iff_loose hf).mp happ).1 ⟨rfl, State.Warmed39.refl s, rfl⟩ trivial
  rw [own_law] at hv
  subst hv
  refine ⟨n, _, h1, h2, h3, hpost _ _ _ _ _ _ ⟨Cond.after_iff.mpr rfl, Cond.after_iff.mpr (eq_i res_at (Term.int_eval (1)) rfl), trivial⟩ ⟨hq.1, hq.2.1, (hq.2.2.sift fun y hy => Or.inr (N y hy)).mono (by decide) (by decide)⟩⟩
theorem main_1_1 : Claimed_1_1 := comes_1 fun _ _ _ _ _ _ h hF => ⟨h.1, hF⟩
theorem main_1_2 : Claimed_1_2 := comes_1 fun _ _ _ _ _ _ h hF => ⟨h.2.1, hF⟩
end Jvm.Pilot.@@N@@
namespace Jvm.Pilot.@@N@@
open Jvm Jvm.ClassFile Sem Op Lib Jvm.Free Jvm.Stand Jvm.Pilot.@@N@@.Jvm.D
/-! MADE BY PROGRAM (witnessworld.py) out of the Statement's table words and the real class files: 9 classes; the members and pool entries that the words name. The judged class is class 1, her method 2. -/
namespace start1
open Jvm.ClassFile
def u (s : String) : CpInfo := .utf8 (stringToUtf16 s)
/-- a pool by its gaps: so many unusable entries, then the entry; so many at the end -/
def gap : Nat → List CpInfo → List CpInfo
  | 0, r => r
  | n + 1, r => .unusable :: gap n r
def poolList (es : List (Nat × CpInfo)) (last : Nat) : List CpInfo := es.foldr (fun e r => gap e.1 (e.2 :: r)) (gap last [])
def pool (es : List (Nat × CpInfo)) (last : Nat) : Array CpInfo := ⟨poolList es last⟩
def fileOf (pool : Array CpInfo) (this : Nat) (attrs : Array Attribute := #[]) (ms : Array MethodInfo := #[]) (fl : Nat := 33) (sup : Nat := 0) (ifs : Array Nat := #[]) (fds : Array FieldInfo := #[]) : ClassFile where
  minorVersion := 0
  majorVersion := 65
  constantPool := pool
  accessFlags := fl
  thisClass := this
  superClass := sup
  interfaces := ifs
  fields := fds
  methods := ms
  attributes := attrs
def plain (name : String) (sup : Option ClassId) : Class where
  name := name
  kind := .ordinary
  loader := none
  accessFlags := 33
  super := sup
  interfaces := #[]
  cf := none
  fields := #[]
  methods := #[]
  instanceTypes := #[]
  staticTypes := #[]
  resolved := #[]
  callSites := []
  init := .initialized
  statics := none
  mirror := none

def pool0 : Array CpInfo := pool [(5, u "<init>"), (0, u "()V"), (1, .class_ 10), (1, u "java/lang/Object")] 113

def k0m0 : Method := { name := "<init>", desc := "()V", sig := { parameters := [], returnType := none }, accessFlags := 1, code := none }
/-- java/lang/Object -/
def k0 : Class := { plain "java/lang/Object" none with
  accessFlags := 33
  interfaces := #[]
  cf := some (fileOf pool0 8 #[] #[{ accessFlags := 1, nameIndex := 5, descriptorIndex := 6, attributes := #[] }] 33 0 #[] #[])
  fields := #[]
  methods := #[k0m0]
  instanceTypes := #[]
  staticTypes := #[]
  resolved := Array.replicate 124 none
  statics := none }

def pool1 : Array CpInfo := pool [(2, .class_ 4), (1, u "java/lang/Object"), (0, u "<init>"), (0, u "()V"), (0, .long 128), (1, .long 16384), (1, .long 2097152), (1, .long 268435456), (1, .long 34359738368), (1, .long 4398046511104), (1, .long 562949953421312), (1, .long 72057594037927936), (3, .long 9223372036854775807), (1, .methodref 28 29), (0, .class_ 30), (0, .nameAndType 31 32), (0, u "com/example/preamble/preamble/varint/Varint"), (0, u "size"), (0, u "(J)I"), (0, .methodref 34 35), (0, .class_ 36), (0, .nameAndType 37 32), (0, u "com/example/preamble/preamble/varint/VarintSizePinLaw"), (0, u "reference"), (3, u "law"), (0, u "(JI)Z")] 2

def k1m0 : Method := { name := "<init>", desc := "()V", sig := { parameters := [], returnType := none }, accessFlags := 2, code := none }
def k1c1 : Code := { maxStack := 4, maxLocals := 2, code := method_2_code, exceptionTable := #[], attributes := #[] }
def k1m1 : Method := { name := "reference", desc := "(J)I", sig := { parameters := [.long], returnType := some .int }, accessFlags := 10, code := some k1c1 }
def k1c2 : Code := { maxStack := 4, maxLocals := 5, code := code, exceptionTable := #[], attributes := #[] }
def k1m2 : Method := { name := "law", desc := "(JI)Z", sig := { parameters := [.long, .int], returnType := some .boolean }, accessFlags := 9, code := some k1c2 }
/-- com/example/preamble/preamble/varint/VarintSizePinLaw -/
def k1 : Class := { plain "com/example/preamble/preamble/varint/VarintSizePinLaw" (some 0) with
  accessFlags := 49
  interfaces := #[]
  cf := some (fileOf pool1 34 #[] #[{ accessFlags := 2, nameIndex := 5, descriptorIndex := 6, attributes := #[] }, { accessFlags := 10, nameIndex := 37, descriptorIndex := 32, attributes := #[] }, { accessFlags := 9, nameIndex := 41, descriptorIndex := 42, attributes := #[] }] 49 2 #[] #[])
  fields := #[]
  methods := #[k1m0, k1m1, k1m2]
  instanceTypes := #[]
  staticTypes := #[]
  resolved := Array.replicate 45 none
  statics := none }

def pool2 : Array CpInfo := pool [(2, .class_ 4), (1, u "java/lang/Object"), (0, u "<init>"), (0, u "()V"), (0, .methodref 8 9), (0, .class_ 10), (0, .nameAndType 11 12), (0, u "com/example/preamble/preamble/varint/Varint"), (0, u "requireUnsigned"), (0, u "(J)V"), (2, u "size"), (0, u "(J)I"), (14, .class_ 33), (1, u "com/example/preamble/preamble/varint/Varint$Decoded"), (3, .class_ 39), (1, u "com/example/preamble/preamble/varint/Varint$Source"), (25, u "MAX_LENGTH"), (0, u "I")] 58

def k2m0 : Method := { name := "<init>", desc := "()V", sig := { parameters := [], returnType := none }, accessFlags := 2, code := none }
def k2c1 : Code := { maxStack := 4, maxLocals := 5, code := prog_19_method_2_code, exceptionTable := #[], attributes := #[] }
def k2m1 : Method := { name := "size", desc := "(J)I", sig := { parameters := [.long], returnType := some .int }, accessFlags := 9, code := some k2c1 }
def k2c2 : Code := { maxStack := 4, maxLocals := 2, code := prog_19_method_7_code, exceptionTable := #[], attributes := #[] }
def k2m2 : Method := { name := "requireUnsigned", desc := "(J)V", sig := { parameters := [.long], returnType := none }, accessFlags := 10, code := some k2c2 }
/-- com/example/preamble/preamble/varint/Varint -/
def k2 : Class := { plain "com/example/preamble/preamble/varint/Varint" (some 0) with
  accessFlags := 49
  interfaces := #[]
  cf := some (fileOf pool2 8 #[.nestMembers #[37, 31]] #[{ accessFlags := 2, nameIndex := 5, descriptorIndex := 6, attributes := #[] }, { accessFlags := 9, nameIndex := 15, descriptorIndex := 16, attributes := #[] }, { accessFlags := 10, nameIndex := 11, descriptorIndex := 12, attributes := #[] }] 49 2 #[] #[{ accessFlags := 25, nameIndex := 65, descriptorIndex := 66, attributes := #[] }])
  fields := #[{ name := "MAX_LENGTH", type := .int, accessFlags := 25, slot := 0, constantValue := 0 }]
  methods := #[k2m0, k2m1, k2m2]
  instanceTypes := #[]
  staticTypes := #[.int]
  resolved := Array.replicate 125 none
  statics := none }

def pool3 : Array CpInfo := pool [(1, u "java/lang/Cloneable"), (0, .class_ 1), (0, u "java/lang/Object"), (0, .class_ 3)] 3

/-- java/lang/Cloneable -/
def k3 : Class := { plain "java/lang/Cloneable" (some 0) with
  accessFlags := 1537
  interfaces := #[]
  cf := some (fileOf pool3 2 #[] #[] 1537 4 #[] #[])
  fields := #[]
  methods := #[]
  instanceTypes := #[]
  staticTypes := #[]
  resolved := Array.replicate 8 none
  statics := none }

def pool4 : Array CpInfo := pool [(1, u "java/io/Serializable"), (0, .class_ 1), (0, u "java/lang/Object"), (0, .class_ 3)] 3

/-- java/io/Serializable -/
def k4 : Class := { plain "java/io/Serializable" (some 0) with
  accessFlags := 1537
  interfaces := #[]
  cf := some (fileOf pool4 2 #[] #[] 1537 4 #[] #[])
  fields := #[]
  methods := #[]
  instanceTypes := #[]
  staticTypes := #[]
  resolved := Array.replicate 8 none
  statics := none }

/-- the primitive byte -/
def k5 : Class := { plain "byte" none with kind := .primitive 'B', accessFlags := 0x411 }
/-- [B -/
def k6 : Class := { plain "[B" (some 0) with kind := .array 5 .byte, interfaces := #[3, 4], accessFlags := 1041 }

/-- the primitive int -/
def k7 : Class := { plain "int" none with kind := .primitive 'I', accessFlags := 0x411 }
/-- [I -/
def k8 : Class := { plain "[I" (some 0) with kind := .array 7 .int, interfaces := #[3, 4], accessFlags := 1041 }

def heap : Heap := #[]
def classes : Array Class := #[k0, k1, k2, k3, k4, k5, k6, k7, k8]
def interned : List (Array UInt16 × Addr) := []
def slotsUsed : Nat := 0
def theMethod : MethodId := ⟨1, 2⟩
def args0 : Array Value := #[.long 5, .int 3]
def aboutOver (below : List Frame) : State where
  vm := { classes := classes, interned := interned.toArray }
  heap := heap
  slotsUsed := slotsUsed
  threads := #[{ frames := .invoking theMethod args0 :: below }]
def below0 : List Frame := [.native { method := ⟨0, 0⟩, args := #[] }]
def about1 : State := aboutOver below0
def p0 : Program := .bare "" "" ""
def e0 : Env := launch0.env 0 0 0
theorem w_frames : about1.frames = Frame.invoking theMethod args0 :: below0 := rfl
set_option maxRecDepth 65536 in
theorem w_args : argsFit about1.vm theMethod args0 = true := by decide +kernel
set_option maxRecDepth 65536 in
theorem w_heap : heapFits about1 = true := by decide +kernel
set_option maxRecDepth 65536 in
theorem w_runnable : about1.curStatus? = some .runnable := by decide +kernel
set_option maxRecDepth 65536 in
theorem w_alone : about1.alone = true := by decide +kernel
set_option maxRecDepth 65536 in
theorem w_named : about1.methodNamed? x = some theMethod := by decide +kernel
set_option maxRecDepth 65536 in
theorem w_hears : about1.hears theMethod below0 = true := by decide +kernel
set_option maxRecDepth 65536 in
theorem w_ripe : about1.ripe theMethod args0 below0 = true := by decide +kernel
theorem w_running : about1.status = .running := rfl
set_option maxRecDepth 65536 in
theorem w_room : about1.hasRoom e0.platform room_1 = true :=
  launch0.hasRoom_least _ room_1 (by decide +kernel) (by decide +kernel) (by decide +kernel) (by decide +kernel) (by decide +kernel) (by decide +kernel)
theorem allAtoms_all (ts : List Jvm.Cond) (a : Array Jvm.Value) (st : Jvm.State) : (allAtoms ts).before a st = ts.all (fun c => c.before a st) := by
  induction ts with
  | nil => rfl
  | cons c t ih =>
    show (Jvm.Cond.and c (allAtoms t)).before a st = _
    rw [Jvm.Cond.before_and, ih, List.all_cons]
def words1 : List Jvm.Cond := Jvm.Cond.code x code maxLocals ret :: tables_1
/-- a 'code' word, met by the world's own term for the bytes: nothing is compared byte by byte -/
theorem code_word {y : MethodName} {bytes : ByteArray} {mx : Nat} {rt : Option FieldType} {a : Array Value} {s : State} {m : MethodId} {meth : Method} {c : Code} (h1 : s.methodNamed? y = some m) (h2 : s.vm.method? m = some meth) (h3 : meth.code = some c) (h4 : c.code = bytes)
    (h5 : (c.maxLocals == mx && c.exceptionTable.isEmpty && decide (c.maxStack ≤ mostOperands) && decide (meth.sig.returnType = rt) && !meth.locks && decide (parseMethodDescriptor y.desc = some meth.sig)) = true) : (Jvm.Cond.code y bytes mx rt).before a s = true := by
  simp only [Bool.and_eq_true, beq_iff_eq, Bool.not_eq_true', decide_eq_true_eq] at h5
  obtain ⟨⟨⟨⟨⟨g1, g2⟩, g3⟩, g4⟩, g5⟩, g6⟩ := h5
  simp [Cond.before, Cond.holds, Cond.value, h1, h2, h3, h4, g1, g2, g3, g4, g5, g6]
def isCode : Jvm.Cond → Bool
  | .code _ _ _ _ => true
  | _ => false
theorem all_split {L : List Jvm.Cond} {P : Jvm.Cond → Bool} (h1 : L.all (fun c => isCode c || P c) = true) (h2 : ∀ c ∈ L.filter isCode, P c = true) : L.all P = true := by
  refine List.all_eq_true.mpr fun c hc => ?_
  have h := List.all_eq_true.mp h1 c hc
  rcases Bool.eq_false_or_eq_true (isCode c) with hi | hi
  · exact h2 c (List.mem_filter.mpr ⟨hc, hi⟩)
  · simpa [hi] using h
set_option maxRecDepth 65536 in
theorem w_c0 : (Jvm.Cond.code x code maxLocals ret).before args0 about1 = true := code_word (m := ⟨1, 2⟩) (meth := k1m2) (c := k1c2) (by decide +kernel) rfl rfl rfl (by decide +kernel)
set_option maxRecDepth 65536 in
theorem w_c1 : (Jvm.Cond.code ({ cls := "com/example/preamble/preamble/varint/Varint", name := "size", desc := "(J)I" } : Jvm.MethodName) prog_19_method_2_code (5 : Nat) (Option.some Jvm.ClassFile.FieldType.int)).before args0 about1 = true := code_word (m := ⟨2, 1⟩) (meth := k2m1) (c := k2c1) (by decide +kernel) rfl rfl rfl (by decide +kernel)
set_option maxRecDepth 65536 in
theorem w_c2 : (Jvm.Cond.code ({ cls := "com/example/preamble/preamble/varint/Varint", name := "requireUnsigned", desc := "(J)V" } : Jvm.MethodName) prog_19_method_7_code (2 : Nat) (Option.none : Option Jvm.ClassFile.FieldType)).before args0 about1 = true := code_word (m := ⟨2, 2⟩) (meth := k2m2) (c := k2c2) (by decide +kernel) rfl rfl rfl (by decide +kernel)
set_option maxRecDepth 65536 in
theorem w_c3 : (Jvm.Cond.code ({ cls := "com/example/preamble/preamble/varint/VarintSizePinLaw", name := "reference", desc := "(J)I" } : Jvm.MethodName) method_2_code (2 : Nat) (Option.some Jvm.ClassFile.FieldType.int)).before args0 about1 = true := code_word (m := ⟨1, 1⟩) (meth := k1m1) (c := k1c1) (by decide +kernel) rfl rfl rfl (by decide +kernel)
def codes1 : List Jvm.Cond := [Jvm.Cond.code x code maxLocals ret, Jvm.Cond.code ({ cls := "com/example/preamble/preamble/varint/Varint", name := "size", desc := "(J)I" } : Jvm.MethodName) prog_19_method_2_code (5 : Nat) (Option.some Jvm.ClassFile.FieldType.int), Jvm.Cond.code ({ cls := "com/example/preamble/preamble/varint/Varint", name := "requireUnsigned", desc := "(J)V" } : Jvm.MethodName) prog_19_method_7_code (2 : Nat) (Option.none : Option Jvm.ClassFile.FieldType), Jvm.Cond.code ({ cls := "com/example/preamble/preamble/varint/VarintSizePinLaw", name := "reference", desc := "(J)I" } : Jvm.MethodName) method_2_code (2 : Nat) (Option.some Jvm.ClassFile.FieldType.int)]
set_option maxRecDepth 65536 in
theorem codes_eq : words1.filter isCode = codes1 := rfl
theorem w_codes : ∀ c ∈ words1.filter isCode, c.before args0 about1 = true := by
  rw [codes_eq]
  intro c hc
  simp only [codes1, List.mem_cons, List.not_mem_nil, or_false] at hc
  rcases hc with rfl | rfl | rfl | rfl
  · exact w_c0
  · exact w_c1
  · exact w_c2
  · exact w_c3
set_option maxRecDepth 65536 in
theorem w_t1 : words1.all (fun c => isCode c || c.before args0 about1) = true := by decide +kernel
theorem w_tables : (allAtoms (Jvm.Cond.code x code maxLocals ret :: tables_1)).before args0 about1 = true := by
  rw [allAtoms_all]
  show words1.all (fun c => c.before args0 about1) = true
  refine all_split ?_ w_codes
  rw [w_t1]
set_option maxRecDepth 65536 in
theorem w_case : (Jvm.Cond.and given_1 narrow_1).before args0 about1 = true := by decide +kernel
theorem w_applies : (headSpec (Jvm.Cond.code x code maxLocals ret :: tables_1) room_1).applies x e0.platform about1 = true :=
  (Spec.applies_iff w_frames).mpr ⟨w_running, w_runnable, w_alone, w_named, w_hears, w_ripe, w_room, w_tables⟩
theorem atStart : AtStart classFile x code maxLocals ret World_1 tables_1 room_1 Calls_1 rest_1 Pre_1 launch0 p0 e0 about1 theMethod args0 below0 :=
  ⟨lists_1, trivial, launch0.admits_env _ _ _, launch0.least_env, fairChoices_fair.cas, fairChoices_fair.clock, w_frames, w_args, w_heap, w_applies, trivial, trivial, w_case⟩
end start1
theorem witness_1 : WitnessClaimed_1 := ⟨start1.p0, start1.e0, start1.about1, start1.theMethod, start1.args0, start1.below0, start1.atStart⟩
end Jvm.Pilot.@@N@@
