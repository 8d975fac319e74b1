import JvmDerived
import JvmDerived.Pilot.@@N@@Statement
import JvmDerived.Pilot.@@N@@Code
set_option linter.unusedVariables false
set_option linter.unusedSimpArgs false
namespace Jvm.RoadKit
open Sem ClassFile Op Lib Jvm.Stand Jvm.Free Jvm.LawKit
section New
variable {p : Program} {l : Launch} {e : Env} {R : Room} {s : State} {m : MethodId} {args : Array Value} {below : List Frame} {meth : Method} {c : Code} {T : State} {locs : List Loc} {cells slots : Nat}
theorem retI (X : Stand p l e R s m args below meth c T locs cells slots) (hx : p.tables.exec = Jvm.exec) {pc : Nat} {Ls : Array Slot} {z : Int32} {rest : List Value} (hret : meth.sig.returnType = some .int) (hd : decode c.code pc = .ok (.ireturn, 1)) {fs : List Frame}
    (hl : ∀ (f : JFrame) (acts : List Action), f.method = m → f.locked = none → f.entered = [] → (doReturn e (T.setTop f) acts (some (.int z))).1 = T.setFrames fs) : Steps p.tables e below (T.setTop (mkF m pc Ls (.int z :: rest))) (T.setFrames fs) := by
  have hm' : T.vm.method? m = some meth := X.method'
  have hn : narrow .int (.int z) = .int z := rfl
  show Steps p.tables e below (T.setTop { method := m, pc := pc, locals := Ls, stack := _ :: rest, locked := none }) _
  jvm_step X.here [X.here.top, hx, hd, hm', hret, hn]
  first | (intro acts; rw [hl _ acts rfl rfl rfl]) | rw [hl _ _ rfl rfl rfl]
  exact Steps.refl _
/-- from here the walk comes to a good end -/
def Go (p : Program) (e : Env) (below : List Frame) (s : State) (Q : Option Value → Heap → List Loc → Prop) (C S : Nat) (T : State) (f : JFrame) : Prop :=
  ∃ s₂ o, Steps p.tables e below (T.setTop f) s₂ ∧ s₂.status = .running ∧ Ended s₂ below o ∧ ∃ v L, o = .returned v ∧ Q v s₂.heap L ∧ FrameEnd s o s₂ L C S
theorem Go.step {Q : Option Value → Heap → List Loc → Prop} {C S : Nat} {T' : State} {f f' : JFrame} (k : ∀ t, Steps p.tables e below (T'.setTop f') t → Steps p.tables e below (T.setTop f) t) (h : Go p e below s Q C S T' f') : Go p e below s Q C S T f := by
  obtain ⟨s₂, o, h1, h2⟩ := h
  exact ⟨s₂, o, k _ h1, h2⟩
theorem Go.cast {Q : Option Value → Heap → List Loc → Prop} {C S : Nat} {f f' : JFrame} (q : f = f') (h : Go p e below s Q C S T f') : Go p e below s Q C S T f := q ▸ h
theorem Go.fin (X : Stand p l e R s m args below meth c T locs cells slots) {Q : Option Value → Heap → List Loc → Prop} {C S : Nat} {f : JFrame} {v : Option Value} (hv : meth.sig.returnType = none → v = none) (hl : meth.locks = false) (hQ : Q v T.heap locs) (hc : cells ≤ C) (hs : slots ≤ S)
    (k : ∀ fs, (∀ (f : JFrame) (acts : List Action), f.method = m → f.locked = none → f.entered = [] → (doReturn e (T.setTop f) acts v).1 = T.setFrames fs) → Steps p.tables e below (T.setTop f) (T.setFrames fs)) : Go p e below s Q C S T f := by
  obtain ⟨fs, hr, hrun, hended, hW, hsame⟩ := X.leave (v := v) hv hl
  exact ⟨_, _, k fs hr, hrun, hended, v, locs, rfl, hQ, ⟨_, rfl⟩, hW, hsame.mono hc hs⟩
theorem own_lrem (x y : Int64) : x - (x / y) * y = x % y := lrem_mod x y
theorem own_irem (x y : Int32) : x - (x / y) * y = x % y := by
  apply Int32.toInt_inj.mp
  have h1 := Int32.le_toInt (x % y)
  have h2 := Int32.toInt_lt (x % y)
  rw [Int32.toInt_sub, Int32.toInt_mul, Int32.toInt_div, Int.bmod_mul_bmod, Int.sub_bmod_bmod, Int.mul_comm (x.toInt.tdiv y.toInt), ← Int.tmod_def, ← Int32.toInt_mod]
  exact Int.bmod_eq_of_le_mul_two (by omega) (by omega)
theorem own_fin {x : Int32} {n : Nat} (h0 : 0 ≤ x.toInt) (h1 : x.toInt < n) (h2 : n ≤ 2147483648) : ∃ k : Fin n, x = Int32.ofNat k.val := by
  refine ⟨⟨x.toInt.toNat, by omega⟩, Int32.toInt_inj.mp ?_⟩
  have q : (x.toInt.toNat).toInt32.toInt = x.toInt.toNat := len_toInt (by omega)
  show x.toInt = (x.toInt.toNat).toInt32.toInt
  rw [q]; omega
theorem own_i2c {x : Int32} (h0 : 0 ≤ x.toInt) (h1 : x.toInt < 65536) : x.toUInt32.toUInt16.toUInt32.toInt32 = x := Int32.toInt_inj.mp (by have := c_i2c x; omega)
theorem own_rem (x y : Int32) (h0 : 0 ≤ x.toInt) : (x % y).toInt = x.toInt % y.toInt := by rw [Int32.toInt_mod, (tr _ _).1 h0]
theorem own_remL (x y : Int64) (h0 : 0 ≤ x.toInt) : (x % y).toInt = x.toInt % y.toInt := by rw [Int64.toInt_mod, (tr _ _).1 h0]
theorem own_div (x y : Int32) (h0 : 0 ≤ x.toInt) (h1 : 0 < y.toInt) : (x / y).toInt = x.toInt / y.toInt := (c_idiv x y _ rfl (fun q => by rw [q] at h1; exact absurd h1 (by decide))).1 h0
theorem own_add {x y : Int32} (h0 : -2147483648 ≤ x.toInt + y.toInt) (h1 : x.toInt + y.toInt < 2147483648) : (x + y).toInt = x.toInt + y.toInt := by have := c_iadd x y; have := rng32 (x + y); omega
theorem own_sub {x y : Int32} (h0 : -2147483648 ≤ x.toInt - y.toInt) (h1 : x.toInt - y.toInt < 2147483648) : (x - y).toInt = x.toInt - y.toInt := by have := c_isub x y; have := rng32 (x - y); omega
theorem own_mul {x y : Int32} (h0 : -2147483648 ≤ x.toInt * y.toInt) (h1 : x.toInt * y.toInt < 2147483648) : (x * y).toInt = x.toInt * y.toInt := by have := c_imul x y; have := rng32 (x * y); omega
theorem own_nat {j : Int32} (h0 : 0 ≤ j.toInt) : (j.toNatClampNeg : Int) = j.toInt := by simp only [Int32.toNatClampNeg]; omega
end New
end Jvm.RoadKit
namespace Jvm.Pilot.@@N@@
open Jvm Jvm.ClassFile Sem Op Lib Jvm.Free Jvm.Stand Jvm.LawKit Jvm.RoadKit Bundle Jvm.Pilot.@@N@@.Jvm.D
theorem d1_0 : decode prog_26_method_3_code 0 = .ok (.iload_n 0, 1) := by decide +kernel
theorem d1_1 : decode prog_26_method_3_code 1 = .ok (.bipush 13, 2) := by decide +kernel
theorem d1_3 : decode prog_26_method_3_code 3 = .ok (.if_icmp .eq 27, 3) := by decide +kernel
theorem d1_6 : decode prog_26_method_3_code 6 = .ok (.iload_n 0, 1) := by decide +kernel
theorem d1_7 : decode prog_26_method_3_code 7 = .ok (.bipush 10, 2) := by decide +kernel
theorem d1_9 : decode prog_26_method_3_code 9 = .ok (.if_icmp .eq 21, 3) := by decide +kernel
theorem d1_12 : decode prog_26_method_3_code 12 = .ok (.iload_n 1, 1) := by decide +kernel
theorem d1_13 : decode prog_26_method_3_code 13 = .ok (.ifCond .eq 21, 3) := by decide +kernel
theorem d1_16 : decode prog_26_method_3_code 16 = .ok (.iload_n 0, 1) := by decide +kernel
theorem d1_17 : decode prog_26_method_3_code 17 = .ok (.sipush 133, 3) := by decide +kernel
theorem d1_20 : decode prog_26_method_3_code 20 = .ok (.if_icmp .eq 10, 3) := by decide +kernel
theorem d1_23 : decode prog_26_method_3_code 23 = .ok (.iload_n 0, 1) := by decide +kernel
theorem d1_24 : decode prog_26_method_3_code 24 = .ok (.sipush 8232, 3) := by decide +kernel
theorem d1_27 : decode prog_26_method_3_code 27 = .ok (.if_icmp .ne 7, 3) := by decide +kernel
theorem d1_30 : decode prog_26_method_3_code 30 = .ok (.iconst 1, 1) := by decide +kernel
theorem d1_31 : decode prog_26_method_3_code 31 = .ok (.goto 4, 3) := by decide +kernel
theorem d1_34 : decode prog_26_method_3_code 34 = .ok (.iconst 0, 1) := by decide +kernel
theorem d1_35 : decode prog_26_method_3_code 35 = .ok (.ireturn, 1) := by decide +kernel
theorem pn_0 : plainName "com/example/plumbline/plumbline/io/TextLines" = true := by first | (simp [plainName, overriddenIn]; done) | decide +kernel
theorem ef_endsL (m : MethodId) (x0 : Int32) (x1 : Int32) : entryFrame m #[(.int x0), (.int x1)] 2 = mkF m 0 #[.val (.int x0), .val (.int x1)] [] := by first | (simp [entryFrame, mkF, argsToLocals, Value.category]; done) | rfl
def endsL (p1 : Int32) (p2 : Int32) : Int32 := (if p1 = (13 : Int32) then (1 : Int32) else (if p1 = (10 : Int32) then (1 : Int32) else (if p2 = (0 : Int32) then (0 : Int32) else (if p1 = (133 : Int32) then (1 : Int32) else (if p1 = (8232 : Int32) then (1 : Int32) else (0 : Int32))))))
def QendsL (RES : Int32) (h0 : Heap) (n0 : Nat) (v : Option Value) (h : Heap) (L : List Loc) : Prop := v = some (.int RES) ∧ Fr n0 L ∧ h = h0
set_option maxRecDepth 65536 in
set_option maxHeartbeats 40000000 in
theorem rm_endsL (l : Launch) (Z : State) (a0 : Array Value) (hw : ∀ d ∈ tables_1, d.before a0 Z = true) (ws : List Jvm.Cond) (p1 : Int32) (p2 : Int32)  (h0 : Heap) (n0 : Nat) (Z0 : n0 ≤ h0.size) :
    MetFree l (⟨"com/example/plumbline/plumbline/io/TextLines", "endsLine", "(CZ)Z"⟩ : MethodName) (head1 (Jvm.Cond.code (⟨"com/example/plumbline/plumbline/io/TextLines", "endsLine", "(CZ)Z"⟩ : MethodName) prog_26_method_3_code 2 (some .boolean) :: ws) ({ frames := 0, cells := 0, slots := 0, locals := 0 } : Room)) (fun a U => a = #[(.int p1), (.int p2)] ∧ Z.Warmed39 U.vm ∧ U.heap = h0) (fun _ _ _ _ _ => True) (fun _ U o U' => ∃ v L, o = .returned v ∧ QendsL (endsL p1 p2) h0 n0 v U'.heap L ∧ FrameEnd U o U' L ({ frames := 0, cells := 0, slots := 0, locals := 0 } : Room).cells ({ frames := 0, cells := 0, slots := 0, locals := 0 } : Room).slots) := by
  refine MetFree.of_bodySF (plainFor_of_name pn_0) hisR ?_
  intro p e s m args below meth c s₁ Bd hml0 hP hK
  obtain ⟨rfl, hZ, hh⟩ := hP
  have hx := Bd.exec
  have hby := Bd.bytes
  have hml : c.maxLocals = 2 := hml0
  have hown : s.vm.findClass "com/example/plumbline/plumbline/io/TextLines" = some m.cls := findClass_of_methodNamed Bd.named
  have hnm := (name_of_methodNamed Bd.named Bd.method).1
  have X0 : Stand p l e ({ frames := 0, cells := 0, slots := 0, locals := 0 } : Room) s m #[(.int p1), (.int p2)] below meth c s₁ [] 0 0 := Stand.of_body Bd
  have e0 : s₁.heap = h0 := by rw [← hh, Bd.state]; rfl
  have N0 := Fr.nil n0
  obtain ⟨RES, hf⟩ : ∃ z, z = endsL p1 p2 := ⟨_, rfl⟩
  rw [← hf]
  rw [endsL] at hf
  suffices HGO : Go p e below s (QendsL RES h0 n0) ({ frames := 0, cells := 0, slots := 0, locals := 0 } : Room).cells ({ frames := 0, cells := 0, slots := 0, locals := 0 } : Room).slots s₁ (mkF m 0 #[.val (.int p1), .val (.int p2)] []) from Go.cast (ef_endsL m p1 p2) HGO
  refine Go.step (T' := s₁) (f' := (mkF m 3 #[.val (.int p1), .val (.int p2)] [(.int (13 : Int32)), (.int p1)])) (fun t kt => ?_) ?_
  · show Steps p.tables e below (s₁.setTop (mkF m 0 #[.val (.int p1), .val (.int p2)] [])) _
    refine XS.iloadN X0.here hx rfl (hb hby d1_0) rfl ?_
    show Steps p.tables e below (s₁.setTop (mkF m 1 #[.val (.int p1), .val (.int p2)] [(.int p1)])) _
    refine XS.bipush X0.here hx rfl (hb hby d1_1) ?_
    exact kt
  by_cases hc1 : p1 = (13 : Int32)
  · rw [if_pos hc1] at hf
    refine Go.step (T' := s₁) (f' := (mkF m 30 #[.val (.int p1), .val (.int p2)] [])) (fun t kt => ?_) ?_
    · show Steps p.tables e below (s₁.setTop (mkF m 3 #[.val (.int p1), .val (.int p2)] [(.int (13 : Int32)), (.int p1)])) _
      refine XS.icmpYes X0.here hx rfl (pc0 := 3) (pc' := 30) rfl (hb hby d1_3) rfl (teq hc1).1 (by decide) (by decide) ?_
      exact kt
    refine Go.step (T' := s₁) (f' := (mkF m 35 #[.val (.int p1), .val (.int p2)] [(.int (1 : Int32))])) (fun t kt => ?_) ?_
    · show Steps p.tables e below (s₁.setTop (mkF m 30 #[.val (.int p1), .val (.int p2)] [])) _
      refine XS.iconst X0.here hx rfl (hb hby d1_30) ?_
      show Steps p.tables e below (s₁.setTop (mkF m 31 #[.val (.int p1), .val (.int p2)] [(.int (1 : Int32))])) _
      refine XS.goto X0.here hx rfl (pc0 := 31) (pc' := 35) rfl (hb hby d1_31) (by decide) (by decide) ?_
      exact kt
    refine Go.fin X0 (v := some (.int (1 : Int32))) (fun h => by rw [Bd.returns] at h; cases h) Bd.notSynchronized ?_ (Nat.le_trans (Nat.le_refl 0) (by decide)) (Nat.le_trans (Nat.le_refl 0) (by decide)) (fun fs hr => retN X0 hx (t := .boolean) Bd.returns (by simp) (hb hby d1_35) hr)
    · exact ⟨by rw [hf], N0, e0⟩
  · rw [if_neg hc1] at hf
    refine Go.step (T' := s₁) (f' := (mkF m 6 #[.val (.int p1), .val (.int p2)] [])) (fun t kt => ?_) ?_
    · show Steps p.tables e below (s₁.setTop (mkF m 3 #[.val (.int p1), .val (.int p2)] [(.int (13 : Int32)), (.int p1)])) _
      refine XS.icmpNo X0.here hx rfl (hb hby d1_3) rfl (feq hc1).1 ?_
      exact kt
    refine Go.step (T' := s₁) (f' := (mkF m 9 #[.val (.int p1), .val (.int p2)] [(.int (10 : Int32)), (.int p1)])) (fun t kt => ?_) ?_
    · show Steps p.tables e below (s₁.setTop (mkF m 6 #[.val (.int p1), .val (.int p2)] [])) _
      refine XS.iloadN X0.here hx rfl (hb hby d1_6) rfl ?_
      show Steps p.tables e below (s₁.setTop (mkF m 7 #[.val (.int p1), .val (.int p2)] [(.int p1)])) _
      refine XS.bipush X0.here hx rfl (hb hby d1_7) ?_
      exact kt
    by_cases hc2 : p1 = (10 : Int32)
    · rw [if_pos hc2] at hf
      refine Go.step (T' := s₁) (f' := (mkF m 30 #[.val (.int p1), .val (.int p2)] [])) (fun t kt => ?_) ?_
      · show Steps p.tables e below (s₁.setTop (mkF m 9 #[.val (.int p1), .val (.int p2)] [(.int (10 : Int32)), (.int p1)])) _
        refine XS.icmpYes X0.here hx rfl (pc0 := 9) (pc' := 30) rfl (hb hby d1_9) rfl (teq hc2).1 (by decide) (by decide) ?_
        exact kt
      refine Go.step (T' := s₁) (f' := (mkF m 35 #[.val (.int p1), .val (.int p2)] [(.int (1 : Int32))])) (fun t kt => ?_) ?_
      · show Steps p.tables e below (s₁.setTop (mkF m 30 #[.val (.int p1), .val (.int p2)] [])) _
        refine XS.iconst X0.here hx rfl (hb hby d1_30) ?_
        show Steps p.tables e below (s₁.setTop (mkF m 31 #[.val (.int p1), .val (.int p2)] [(.int (1 : Int32))])) _
        refine XS.goto X0.here hx rfl (pc0 := 31) (pc' := 35) rfl (hb hby d1_31) (by decide) (by decide) ?_
        exact kt
      refine Go.fin X0 (v := some (.int (1 : Int32))) (fun h => by rw [Bd.returns] at h; cases h) Bd.notSynchronized ?_ (Nat.le_trans (Nat.le_refl 0) (by decide)) (Nat.le_trans (Nat.le_refl 0) (by decide)) (fun fs hr => retN X0 hx (t := .boolean) Bd.returns (by simp) (hb hby d1_35) hr)
      · exact ⟨by rw [hf], N0, e0⟩
    · rw [if_neg hc2] at hf
      refine Go.step (T' := s₁) (f' := (mkF m 12 #[.val (.int p1), .val (.int p2)] [])) (fun t kt => ?_) ?_
      · show Steps p.tables e below (s₁.setTop (mkF m 9 #[.val (.int p1), .val (.int p2)] [(.int (10 : Int32)), (.int p1)])) _
        refine XS.icmpNo X0.here hx rfl (hb hby d1_9) rfl (feq hc2).1 ?_
        exact kt
      refine Go.step (T' := s₁) (f' := (mkF m 13 #[.val (.int p1), .val (.int p2)] [(.int p2)])) (fun t kt => ?_) ?_
      · show Steps p.tables e below (s₁.setTop (mkF m 12 #[.val (.int p1), .val (.int p2)] [])) _
        refine XS.iloadN X0.here hx rfl (hb hby d1_12) rfl ?_
        exact kt
      by_cases hc3 : p2 = (0 : Int32)
      · rw [if_pos hc3] at hf
        refine Go.step (T' := s₁) (f' := (mkF m 34 #[.val (.int p1), .val (.int p2)] [])) (fun t kt => ?_) ?_
        · show Steps p.tables e below (s₁.setTop (mkF m 13 #[.val (.int p1), .val (.int p2)] [(.int p2)])) _
          refine XS.ifYes X0.here hx rfl (pc0 := 13) (pc' := 34) rfl (hb hby d1_13) rfl ((if0 _ _).trans (teq hc3).1) (by decide) (by decide) ?_
          exact kt
        refine Go.step (T' := s₁) (f' := (mkF m 35 #[.val (.int p1), .val (.int p2)] [(.int (0 : Int32))])) (fun t kt => ?_) ?_
        · show Steps p.tables e below (s₁.setTop (mkF m 34 #[.val (.int p1), .val (.int p2)] [])) _
          refine XS.iconst X0.here hx rfl (hb hby d1_34) ?_
          exact kt
        refine Go.fin X0 (v := some (.int (0 : Int32))) (fun h => by rw [Bd.returns] at h; cases h) Bd.notSynchronized ?_ (Nat.le_trans (Nat.le_refl 0) (by decide)) (Nat.le_trans (Nat.le_refl 0) (by decide)) (fun fs hr => retN X0 hx (t := .boolean) Bd.returns (by simp) (hb hby d1_35) hr)
        · exact ⟨by rw [hf], N0, e0⟩
      · rw [if_neg hc3] at hf
        refine Go.step (T' := s₁) (f' := (mkF m 16 #[.val (.int p1), .val (.int p2)] [])) (fun t kt => ?_) ?_
        · show Steps p.tables e below (s₁.setTop (mkF m 13 #[.val (.int p1), .val (.int p2)] [(.int p2)])) _
          refine XS.ifNo X0.here hx rfl (hb hby d1_13) rfl ((if0 _ _).trans (feq hc3).1) ?_
          exact kt
        refine Go.step (T' := s₁) (f' := (mkF m 20 #[.val (.int p1), .val (.int p2)] [(.int (133 : Int32)), (.int p1)])) (fun t kt => ?_) ?_
        · show Steps p.tables e below (s₁.setTop (mkF m 16 #[.val (.int p1), .val (.int p2)] [])) _
          refine XS.iloadN X0.here hx rfl (hb hby d1_16) rfl ?_
          show Steps p.tables e below (s₁.setTop (mkF m 17 #[.val (.int p1), .val (.int p2)] [(.int p1)])) _
          refine XS.sipush X0.here hx rfl (hb hby d1_17) ?_
          exact kt
        by_cases hc4 : p1 = (133 : Int32)
        · rw [if_pos hc4] at hf
          refine Go.step (T' := s₁) (f' := (mkF m 30 #[.val (.int p1), .val (.int p2)] [])) (fun t kt => ?_) ?_
          · show Steps p.tables e below (s₁.setTop (mkF m 20 #[.val (.int p1), .val (.int p2)] [(.int (133 : Int32)), (.int p1)])) _
            refine XS.icmpYes X0.here hx rfl (pc0 := 20) (pc' := 30) rfl (hb hby d1_20) rfl (teq hc4).1 (by decide) (by decide) ?_
            exact kt
          refine Go.step (T' := s₁) (f' := (mkF m 35 #[.val (.int p1), .val (.int p2)] [(.int (1 : Int32))])) (fun t kt => ?_) ?_
          · show Steps p.tables e below (s₁.setTop (mkF m 30 #[.val (.int p1), .val (.int p2)] [])) _
            refine XS.iconst X0.here hx rfl (hb hby d1_30) ?_
            show Steps p.tables e below (s₁.setTop (mkF m 31 #[.val (.int p1), .val (.int p2)] [(.int (1 : Int32))])) _
            refine XS.goto X0.here hx rfl (pc0 := 31) (pc' := 35) rfl (hb hby d1_31) (by decide) (by decide) ?_
            exact kt
          refine Go.fin X0 (v := some (.int (1 : Int32))) (fun h => by rw [Bd.returns] at h; cases h) Bd.notSynchronized ?_ (Nat.le_trans (Nat.le_refl 0) (by decide)) (Nat.le_trans (Nat.le_refl 0) (by decide)) (fun fs hr => retN X0 hx (t := .boolean) Bd.returns (by simp) (hb hby d1_35) hr)
          · exact ⟨by rw [hf], N0, e0⟩
        · rw [if_neg hc4] at hf
          refine Go.step (T' := s₁) (f' := (mkF m 23 #[.val (.int p1), .val (.int p2)] [])) (fun t kt => ?_) ?_
          · show Steps p.tables e below (s₁.setTop (mkF m 20 #[.val (.int p1), .val (.int p2)] [(.int (133 : Int32)), (.int p1)])) _
            refine XS.icmpNo X0.here hx rfl (hb hby d1_20) rfl (feq hc4).1 ?_
            exact kt
          refine Go.step (T' := s₁) (f' := (mkF m 27 #[.val (.int p1), .val (.int p2)] [(.int (8232 : Int32)), (.int p1)])) (fun t kt => ?_) ?_
          · show Steps p.tables e below (s₁.setTop (mkF m 23 #[.val (.int p1), .val (.int p2)] [])) _
            refine XS.iloadN X0.here hx rfl (hb hby d1_23) rfl ?_
            show Steps p.tables e below (s₁.setTop (mkF m 24 #[.val (.int p1), .val (.int p2)] [(.int p1)])) _
            refine XS.sipush X0.here hx rfl (hb hby d1_24) ?_
            exact kt
          by_cases hc5 : p1 = (8232 : Int32)
          · rw [if_pos hc5] at hf
            refine Go.step (T' := s₁) (f' := (mkF m 30 #[.val (.int p1), .val (.int p2)] [])) (fun t kt => ?_) ?_
            · show Steps p.tables e below (s₁.setTop (mkF m 27 #[.val (.int p1), .val (.int p2)] [(.int (8232 : Int32)), (.int p1)])) _
              refine XS.icmpNo X0.here hx rfl (hb hby d1_27) rfl (teq hc5).2 ?_
              exact kt
            refine Go.step (T' := s₁) (f' := (mkF m 35 #[.val (.int p1), .val (.int p2)] [(.int (1 : Int32))])) (fun t kt => ?_) ?_
            · show Steps p.tables e below (s₁.setTop (mkF m 30 #[.val (.int p1), .val (.int p2)] [])) _
              refine XS.iconst X0.here hx rfl (hb hby d1_30) ?_
              show Steps p.tables e below (s₁.setTop (mkF m 31 #[.val (.int p1), .val (.int p2)] [(.int (1 : Int32))])) _
              refine XS.goto X0.here hx rfl (pc0 := 31) (pc' := 35) rfl (hb hby d1_31) (by decide) (by decide) ?_
              exact kt
            refine Go.fin X0 (v := some (.int (1 : Int32))) (fun h => by rw [Bd.returns] at h; cases h) Bd.notSynchronized ?_ (Nat.le_trans (Nat.le_refl 0) (by decide)) (Nat.le_trans (Nat.le_refl 0) (by decide)) (fun fs hr => retN X0 hx (t := .boolean) Bd.returns (by simp) (hb hby d1_35) hr)
            · exact ⟨by rw [hf], N0, e0⟩
          · rw [if_neg hc5] at hf
            refine Go.step (T' := s₁) (f' := (mkF m 34 #[.val (.int p1), .val (.int p2)] [])) (fun t kt => ?_) ?_
            · show Steps p.tables e below (s₁.setTop (mkF m 27 #[.val (.int p1), .val (.int p2)] [(.int (8232 : Int32)), (.int p1)])) _
              refine XS.icmpYes X0.here hx rfl (pc0 := 27) (pc' := 34) rfl (hb hby d1_27) rfl (feq hc5).2 (by decide) (by decide) ?_
              exact kt
            refine Go.step (T' := s₁) (f' := (mkF m 35 #[.val (.int p1), .val (.int p2)] [(.int (0 : Int32))])) (fun t kt => ?_) ?_
            · show Steps p.tables e below (s₁.setTop (mkF m 34 #[.val (.int p1), .val (.int p2)] [])) _
              refine XS.iconst X0.here hx rfl (hb hby d1_34) ?_
              exact kt
            refine Go.fin X0 (v := some (.int (0 : Int32))) (fun h => by rw [Bd.returns] at h; cases h) Bd.notSynchronized ?_ (Nat.le_trans (Nat.le_refl 0) (by decide)) (Nat.le_trans (Nat.le_refl 0) (by decide)) (fun fs hr => retN X0 hx (t := .boolean) Bd.returns (by simp) (hb hby d1_35) hr)
            · exact ⟨by rw [hf], N0, e0⟩
theorem pd_0 : parseMethodDescriptor "(CZ)Z" = some ⟨[.char, .boolean], some .boolean⟩ := by decide +kernel
theorem pn_1 : plainName "com/example/plumbline/plumbline/io/TextLinesEndsLinePinLaw" = true := by first | (simp [plainName, overriddenIn]; done) | decide +kernel
theorem ef_0 (m : MethodId) (x0 : Int32) (x1 : Int32) (x2 : Int32) : entryFrame m #[(.int x0), (.int x1), (.int x2)] maxLocals = mkF m 0 #[.val (.int x0), .val (.int x1), .val (.int x2), .unset, .unset, .unset, .unset, .unset, .unset, .unset, .unset, .unset] [] := by first | (simp [entryFrame, mkF, argsToLocals, Value.category, maxLocals]; done) | rfl
def lawF_155  (x3 : Int32) (x4 : Int32) (x5 : Int32) (x6 : Int32) (x7 : Int32) : Int32 := (if (endsL x5 (0 : Int32)) = (0 : Int32) then (if (endsL x5 x3) = x7 then (1 : Int32) else (0 : Int32)) else (if (endsL x5 (1 : Int32)) = (0 : Int32) then (if (endsL x5 x3) = x7 then (0 : Int32) else (0 : Int32)) else (if (endsL x5 x3) = x7 then (1 : Int32) else (0 : Int32))))
def lawF_106  (x3 : Int32) (x4 : Int32) (x5 : Int32) : Int32 := (if x5 = (13 : Int32) then (lawF_155  x3 x4 x5 x5 (1 : Int32)) else (if x5 = (10 : Int32) then (lawF_155  x3 x4 x5 x5 (1 : Int32)) else (if x5 = (133 : Int32) then (lawF_155  x3 x4 x5 x5 x3) else (if x5 = (8232 : Int32) then (lawF_155  x3 x4 x5 x5 x3) else (lawF_155  x3 x4 x5 x5 (0 : Int32))))))
def lawF_11 (p1 : Int32) (p2 : Int32) (t0 : Int32) : Int32 := (if (p1 &&& (7 : Int32)) = (0 : Int32) then (lawF_106  t0 (p1 &&& (7 : Int32)) (13 : Int32)) else (if (p1 &&& (7 : Int32)) = (1 : Int32) then (lawF_106  t0 (p1 &&& (7 : Int32)) (10 : Int32)) else (if (p1 &&& (7 : Int32)) = (2 : Int32) then (lawF_106  t0 (p1 &&& (7 : Int32)) (133 : Int32)) else (if (p1 &&& (7 : Int32)) = (3 : Int32) then (lawF_106  t0 (p1 &&& (7 : Int32)) (8232 : Int32)) else (if (p1 &&& (7 : Int32)) = (4 : Int32) then (lawF_106  t0 (p1 &&& (7 : Int32)) (8233 : Int32)) else (if (p1 &&& (7 : Int32)) = (5 : Int32) then (lawF_106  t0 (p1 &&& (7 : Int32)) ((p2 &&& (255 : Int32)).toUInt32.toUInt16.toUInt32.toInt32)) else (lawF_106  t0 (p1 &&& (7 : Int32)) (p2.toUInt32.toUInt16.toUInt32.toInt32))))))))
def lawF (p1 : Int32) (p2 : Int32) (p3 : Int32) : Int32 := (if (p3 &&& (1 : Int32)) = (0 : Int32) then (lawF_11 p1 p2 (0 : Int32)) else (lawF_11 p1 p2 (1 : Int32)))
def Q0 (RES : Int32) (h0 : Heap) (n0 : Nat) (v : Option Value) (h : Heap) (L : List Loc) : Prop := v = some (.int RES) ∧ Fr n0 L ∧ h = h0
set_option maxRecDepth 65536 in
set_option maxHeartbeats 40000000 in
theorem rm_0 (l : Launch) (Z : State) (a0 : Array Value) (hw : ∀ d ∈ tables_1, d.before a0 Z = true) (ws : List Jvm.Cond) (p1 : Int32) (p2 : Int32) (p3 : Int32)  (h0 : Heap) (n0 : Nat) (Z0 : n0 ≤ h0.size) :
    MetFree l x (head1 (Jvm.Cond.code x code maxLocals ret :: ws) room_1) (fun a U => a = #[(.int p1), (.int p2), (.int p3)] ∧ Z.Warmed39 U.vm ∧ U.heap = h0) (fun _ _ _ _ _ => True) (fun _ U o U' => ∃ v L, o = .returned v ∧ Q0 (lawF p1 p2 p3) h0 n0 v U'.heap L ∧ FrameEnd U o U' L 0 0) := by
  refine MetFree.of_bodySF (plainFor_of_name pn_1) hisR ?_
  intro p e s m args below meth c s₁ Bd hml0 hP hK
  obtain ⟨rfl, hZ, hh⟩ := hP
  have hx := Bd.exec
  have hby := Bd.bytes
  have hml : c.maxLocals = 12 := hml0
  have hown : s.vm.findClass "com/example/plumbline/plumbline/io/TextLinesEndsLinePinLaw" = some m.cls := findClass_of_methodNamed Bd.named
  have hnm := (name_of_methodNamed Bd.named Bd.method).1
  have X0 : Stand p l e room_1 s m #[(.int p1), (.int p2), (.int p3)] below meth c s₁ [] 0 0 := Stand.of_body Bd
  have e0 : s₁.heap = h0 := by rw [← hh, Bd.state]; rfl
  have N0 := Fr.nil n0
  obtain ⟨RES, hf⟩ : ∃ z, z = lawF p1 p2 p3 := ⟨_, rfl⟩
  rw [← hf]
  rw [lawF] at hf
  suffices HGO : Go p e below s (Q0 RES h0 n0) 0 0 s₁ (mkF m 0 #[.val (.int p1), .val (.int p2), .val (.int p3), .unset, .unset, .unset, .unset, .unset, .unset, .unset, .unset, .unset] []) from Go.cast (ef_0 m p1 p2 p3) HGO
  have S155 : ∀ (T : State) (locs : List Loc) (cells slots : Nat) (X : Stand p l e room_1 s m #[(.int p1), (.int p2), (.int p3)] below meth c T locs cells slots) (hcl : cells ≤ 0) (hsl : slots ≤ 0) (eT : T.heap = h0) (N : Fr n0 locs) (x3 : Int32) (x4 : Int32) (x5 : Int32) (x6 : Int32) (x7 : Int32)  (hf : RES = lawF_155  x3 x4 x5 x6 x7), Go p e below s (Q0 RES h0 n0) 0 0 T (mkF m 155 #[.val (.int p1), .val (.int p2), .val (.int p3), .val (.int x3), .val (.int x4), .val (.int x5), .val (.int x6), .val (.int x7), .unset, .unset, .unset, .unset] []) := by
    intro T locs cells slots X hcl hsl eT N x3 x4 x5 x6 x7 hf
    rw [lawF_155] at hf
    obtain ⟨_, _, ⟨T1, L1, k1, n1⟩, -, X1, ⟨Lc1, hQ1, l1, y1, z1⟩, st1⟩ := Jvm.LawKit.callS X hx (y := (⟨"com/example/plumbline/plumbline/io/TextLines", "endsLine", "(CZ)Z"⟩ : MethodName)) hown (mvT hZ (hw _ (List.mem_of_getElem? (i := 0) rfl))) (mvT hZ (hw _ (List.mem_of_getElem? (i := 1) rfl))) (mvT hZ (hw _ (List.mem_of_getElem? (i := 2) rfl))) (mvT hZ (hw _ (List.mem_of_getElem? (i := 3) rfl))) (by decide) (backOf (W := 0) (rm_endsL l Z a0 hw [] x5 x3  h0 n0 Z0 ) hZ (hw _ (List.mem_of_getElem? (i := 3) rfl)) (hw _ (List.mem_of_getElem? (i := 2) rfl)) (by decide) (by decide)) (g := (mkF m 158 #[.val (.int p1), .val (.int p2), .val (.int p3), .val (.int x3), .val (.int x4), .val (.int x5), .val (.int x6), .val (.int x7), .unset, .unset, .unset, .unset] [(.int x3), (.int x5)])) rfl (by rw [hml]; rfl) (argsL := [(.int x5), (.int x3)]) (rest := []) (lenOf pd_0 rfl) rfl (by show 2 * 0 + _ ≤ _; exact Nat.le_of_eq rfl) (hb hby at_158) (fun _ _ => ⟨rfl, eT, (Nat.le_trans (Nat.add_le_add_right hcl 0) (by decide)), (Nat.le_trans (Nat.add_le_add_right hsl 0) (by decide))⟩)
    dsimp only [Pt.U, Pt.locs, Pt.cells, Pt.slots] at X1 l1 y1 z1 st1 hQ1
    subst l1 y1 z1
    obtain ⟨rfl, N1q, e1⟩ := hQ1
    have N1 := Fr.app N N1q
    obtain ⟨_, _, ⟨T2, L2, k2, n2⟩, -, X2, ⟨Lc2, hQ2, l2, y2, z2⟩, st2⟩ := Jvm.LawKit.callS X1 hx (y := (⟨"com/example/plumbline/plumbline/io/TextLines", "endsLine", "(CZ)Z"⟩ : MethodName)) hown (mvT hZ (hw _ (List.mem_of_getElem? (i := 0) rfl))) (mvT hZ (hw _ (List.mem_of_getElem? (i := 1) rfl))) (mvT hZ (hw _ (List.mem_of_getElem? (i := 2) rfl))) (mvT hZ (hw _ (List.mem_of_getElem? (i := 3) rfl))) (by decide) (backOf (W := 0) (rm_endsL l Z a0 hw [] x5 (0 : Int32)  h0 n0 Z0 ) hZ (hw _ (List.mem_of_getElem? (i := 3) rfl)) (hw _ (List.mem_of_getElem? (i := 2) rfl)) (by decide) (by decide)) (g := (mkF m 166 #[.val (.int p1), .val (.int p2), .val (.int p3), .val (.int x3), .val (.int x4), .val (.int x5), .val (.int x6), .val (.int x7), .val (.int (endsL x5 x3)), .unset, .unset, .unset] [(.int (0 : Int32)), (.int x5)])) rfl (by rw [hml]; rfl) (argsL := [(.int x5), (.int (0 : Int32))]) (rest := []) (lenOf pd_0 rfl) rfl (by show 2 * 0 + _ ≤ _; exact Nat.le_of_eq rfl) (hb hby at_166) (fun _ _ => ⟨rfl, e1, (Nat.le_trans (Nat.add_le_add_right (Nat.add_le_add_right hcl 0) 0) (by decide)), (Nat.le_trans (Nat.add_le_add_right (Nat.add_le_add_right hsl 0) 0) (by decide))⟩)
    dsimp only [Pt.U, Pt.locs, Pt.cells, Pt.slots] at X2 l2 y2 z2 st2 hQ2
    subst l2 y2 z2
    obtain ⟨rfl, N2q, e2⟩ := hQ2
    have N2 := Fr.app N1 N2q
    obtain ⟨_, _, ⟨T3, L3, k3, n3⟩, -, X3, ⟨Lc3, hQ3, l3, y3, z3⟩, st3⟩ := Jvm.LawKit.callS X2 hx (y := (⟨"com/example/plumbline/plumbline/io/TextLines", "endsLine", "(CZ)Z"⟩ : MethodName)) hown (mvT hZ (hw _ (List.mem_of_getElem? (i := 0) rfl))) (mvT hZ (hw _ (List.mem_of_getElem? (i := 1) rfl))) (mvT hZ (hw _ (List.mem_of_getElem? (i := 2) rfl))) (mvT hZ (hw _ (List.mem_of_getElem? (i := 3) rfl))) (by decide) (backOf (W := 0) (rm_endsL l Z a0 hw [] x5 (1 : Int32)  h0 n0 Z0 ) hZ (hw _ (List.mem_of_getElem? (i := 3) rfl)) (hw _ (List.mem_of_getElem? (i := 2) rfl)) (by decide) (by decide)) (g := (mkF m 174 #[.val (.int p1), .val (.int p2), .val (.int p3), .val (.int x3), .val (.int x4), .val (.int x5), .val (.int x6), .val (.int x7), .val (.int (endsL x5 x3)), .val (.int (endsL x5 (0 : Int32))), .unset, .unset] [(.int (1 : Int32)), (.int x5)])) rfl (by rw [hml]; rfl) (argsL := [(.int x5), (.int (1 : Int32))]) (rest := []) (lenOf pd_0 rfl) rfl (by show 2 * 0 + _ ≤ _; exact Nat.le_of_eq rfl) (hb hby at_174) (fun _ _ => ⟨rfl, e2, (Nat.le_trans (Nat.add_le_add_right (Nat.add_le_add_right (Nat.add_le_add_right hcl 0) 0) 0) (by decide)), (Nat.le_trans (Nat.add_le_add_right (Nat.add_le_add_right (Nat.add_le_add_right hsl 0) 0) 0) (by decide))⟩)
    dsimp only [Pt.U, Pt.locs, Pt.cells, Pt.slots] at X3 l3 y3 z3 st3 hQ3
    subst l3 y3 z3
    obtain ⟨rfl, N3q, e3⟩ := hQ3
    have N3 := Fr.app N2 N3q
    refine Go.step (T' := T3) (f' := (mkF m 181 #[.val (.int p1), .val (.int p2), .val (.int p3), .val (.int x3), .val (.int x4), .val (.int x5), .val (.int x6), .val (.int x7), .val (.int (endsL x5 x3)), .val (.int (endsL x5 (0 : Int32))), .val (.int (endsL x5 (1 : Int32))), .unset] [(.int (endsL x5 (0 : Int32)))])) (fun t kt => ?_) ?_
    · show Steps p.tables e below (T.setTop (mkF m 155 #[.val (.int p1), .val (.int p2), .val (.int p3), .val (.int x3), .val (.int x4), .val (.int x5), .val (.int x6), .val (.int x7), .unset, .unset, .unset, .unset] [])) _
      refine XS.iload X.here hx rfl (hb hby at_155) rfl ?_
      show Steps p.tables e below (T.setTop (mkF m 157 #[.val (.int p1), .val (.int p2), .val (.int p3), .val (.int x3), .val (.int x4), .val (.int x5), .val (.int x6), .val (.int x7), .unset, .unset, .unset, .unset] [(.int x5)])) _
      refine XS.iloadN X.here hx rfl (hb hby at_157) rfl ?_
      show Steps p.tables e below (T.setTop (mkF m 158 #[.val (.int p1), .val (.int p2), .val (.int p3), .val (.int x3), .val (.int x4), .val (.int x5), .val (.int x6), .val (.int x7), .unset, .unset, .unset, .unset] [(.int x3), (.int x5)])) _
      refine st1 _ ?_
      show Steps p.tables e below (T1.setTop (mkF m 161 #[.val (.int p1), .val (.int p2), .val (.int p3), .val (.int x3), .val (.int x4), .val (.int x5), .val (.int x6), .val (.int x7), .unset, .unset, .unset, .unset] [(.int (endsL x5 x3))])) _
      refine XS.istore X1.here hx rfl (hb hby at_161) rfl (l' := #[.val (.int p1), .val (.int p2), .val (.int p3), .val (.int x3), .val (.int x4), .val (.int x5), .val (.int x6), .val (.int x7), .val (.int (endsL x5 x3)), .unset, .unset, .unset]) rfl ?_
      show Steps p.tables e below (T1.setTop (mkF m 163 #[.val (.int p1), .val (.int p2), .val (.int p3), .val (.int x3), .val (.int x4), .val (.int x5), .val (.int x6), .val (.int x7), .val (.int (endsL x5 x3)), .unset, .unset, .unset] [])) _
      refine XS.iload X1.here hx rfl (hb hby at_163) rfl ?_
      show Steps p.tables e below (T1.setTop (mkF m 165 #[.val (.int p1), .val (.int p2), .val (.int p3), .val (.int x3), .val (.int x4), .val (.int x5), .val (.int x6), .val (.int x7), .val (.int (endsL x5 x3)), .unset, .unset, .unset] [(.int x5)])) _
      refine XS.iconst X1.here hx rfl (hb hby at_165) ?_
      show Steps p.tables e below (T1.setTop (mkF m 166 #[.val (.int p1), .val (.int p2), .val (.int p3), .val (.int x3), .val (.int x4), .val (.int x5), .val (.int x6), .val (.int x7), .val (.int (endsL x5 x3)), .unset, .unset, .unset] [(.int (0 : Int32)), (.int x5)])) _
      refine st2 _ ?_
      show Steps p.tables e below (T2.setTop (mkF m 169 #[.val (.int p1), .val (.int p2), .val (.int p3), .val (.int x3), .val (.int x4), .val (.int x5), .val (.int x6), .val (.int x7), .val (.int (endsL x5 x3)), .unset, .unset, .unset] [(.int (endsL x5 (0 : Int32)))])) _
      refine XS.istore X2.here hx rfl (hb hby at_169) rfl (l' := #[.val (.int p1), .val (.int p2), .val (.int p3), .val (.int x3), .val (.int x4), .val (.int x5), .val (.int x6), .val (.int x7), .val (.int (endsL x5 x3)), .val (.int (endsL x5 (0 : Int32))), .unset, .unset]) rfl ?_
      show Steps p.tables e below (T2.setTop (mkF m 171 #[.val (.int p1), .val (.int p2), .val (.int p3), .val (.int x3), .val (.int x4), .val (.int x5), .val (.int x6), .val (.int x7), .val (.int (endsL x5 x3)), .val (.int (endsL x5 (0 : Int32))), .unset, .unset] [])) _
      refine XS.iload X2.here hx rfl (hb hby at_171) rfl ?_
      show Steps p.tables e below (T2.setTop (mkF m 173 #[.val (.int p1), .val (.int p2), .val (.int p3), .val (.int x3), .val (.int x4), .val (.int x5), .val (.int x6), .val (.int x7), .val (.int (endsL x5 x3)), .val (.int (endsL x5 (0 : Int32))), .unset, .unset] [(.int x5)])) _
      refine XS.iconst X2.here hx rfl (hb hby at_173) ?_
      show Steps p.tables e below (T2.setTop (mkF m 174 #[.val (.int p1), .val (.int p2), .val (.int p3), .val (.int x3), .val (.int x4), .val (.int x5), .val (.int x6), .val (.int x7), .val (.int (endsL x5 x3)), .val (.int (endsL x5 (0 : Int32))), .unset, .unset] [(.int (1 : Int32)), (.int x5)])) _
      refine st3 _ ?_
      show Steps p.tables e below (T3.setTop (mkF m 177 #[.val (.int p1), .val (.int p2), .val (.int p3), .val (.int x3), .val (.int x4), .val (.int x5), .val (.int x6), .val (.int x7), .val (.int (endsL x5 x3)), .val (.int (endsL x5 (0 : Int32))), .unset, .unset] [(.int (endsL x5 (1 : Int32)))])) _
      refine XS.istore X3.here hx rfl (hb hby at_177) rfl (l' := #[.val (.int p1), .val (.int p2), .val (.int p3), .val (.int x3), .val (.int x4), .val (.int x5), .val (.int x6), .val (.int x7), .val (.int (endsL x5 x3)), .val (.int (endsL x5 (0 : Int32))), .val (.int (endsL x5 (1 : Int32))), .unset]) rfl ?_
      show Steps p.tables e below (T3.setTop (mkF m 179 #[.val (.int p1), .val (.int p2), .val (.int p3), .val (.int x3), .val (.int x4), .val (.int x5), .val (.int x6), .val (.int x7), .val (.int (endsL x5 x3)), .val (.int (endsL x5 (0 : Int32))), .val (.int (endsL x5 (1 : Int32))), .unset] [])) _
      refine XS.iload X3.here hx rfl (hb hby at_179) rfl ?_
      exact kt
    by_cases hc4 : (endsL x5 (0 : Int32)) = (0 : Int32)
    · rw [if_pos hc4] at hf
      refine Go.step (T' := T3) (f' := (mkF m 189 #[.val (.int p1), .val (.int p2), .val (.int p3), .val (.int x3), .val (.int x4), .val (.int x5), .val (.int x6), .val (.int x7), .val (.int (endsL x5 x3)), .val (.int (endsL x5 (0 : Int32))), .val (.int (endsL x5 (1 : Int32))), .unset] [])) (fun t kt => ?_) ?_
      · show Steps p.tables e below (T3.setTop (mkF m 181 #[.val (.int p1), .val (.int p2), .val (.int p3), .val (.int x3), .val (.int x4), .val (.int x5), .val (.int x6), .val (.int x7), .val (.int (endsL x5 x3)), .val (.int (endsL x5 (0 : Int32))), .val (.int (endsL x5 (1 : Int32))), .unset] [(.int (endsL x5 (0 : Int32)))])) _
        refine XS.ifYes X3.here hx rfl (pc0 := 181) (pc' := 189) rfl (hb hby at_181) rfl ((if0 _ _).trans (teq hc4).1) (by decide) (by decide) ?_
        exact kt
      refine Go.step (T' := T3) (f' := (mkF m 200 #[.val (.int p1), .val (.int p2), .val (.int p3), .val (.int x3), .val (.int x4), .val (.int x5), .val (.int x6), .val (.int x7), .val (.int (endsL x5 x3)), .val (.int (endsL x5 (0 : Int32))), .val (.int (endsL x5 (1 : Int32))), .val (.int (1 : Int32))] [(.int x7), (.int (endsL x5 x3))])) (fun t kt => ?_) ?_
      · show Steps p.tables e below (T3.setTop (mkF m 189 #[.val (.int p1), .val (.int p2), .val (.int p3), .val (.int x3), .val (.int x4), .val (.int x5), .val (.int x6), .val (.int x7), .val (.int (endsL x5 x3)), .val (.int (endsL x5 (0 : Int32))), .val (.int (endsL x5 (1 : Int32))), .unset] [])) _
        refine XS.iconst X3.here hx rfl (hb hby at_189) ?_
        show Steps p.tables e below (T3.setTop (mkF m 190 #[.val (.int p1), .val (.int p2), .val (.int p3), .val (.int x3), .val (.int x4), .val (.int x5), .val (.int x6), .val (.int x7), .val (.int (endsL x5 x3)), .val (.int (endsL x5 (0 : Int32))), .val (.int (endsL x5 (1 : Int32))), .unset] [(.int (1 : Int32))])) _
        refine XS.goto X3.here hx rfl (pc0 := 190) (pc' := 194) rfl (hb hby at_190) (by decide) (by decide) ?_
        show Steps p.tables e below (T3.setTop (mkF m 194 #[.val (.int p1), .val (.int p2), .val (.int p3), .val (.int x3), .val (.int x4), .val (.int x5), .val (.int x6), .val (.int x7), .val (.int (endsL x5 x3)), .val (.int (endsL x5 (0 : Int32))), .val (.int (endsL x5 (1 : Int32))), .unset] [(.int (1 : Int32))])) _
        refine XS.istore X3.here hx rfl (hb hby at_194) rfl (l' := #[.val (.int p1), .val (.int p2), .val (.int p3), .val (.int x3), .val (.int x4), .val (.int x5), .val (.int x6), .val (.int x7), .val (.int (endsL x5 x3)), .val (.int (endsL x5 (0 : Int32))), .val (.int (endsL x5 (1 : Int32))), .val (.int (1 : Int32))]) rfl ?_
        show Steps p.tables e below (T3.setTop (mkF m 196 #[.val (.int p1), .val (.int p2), .val (.int p3), .val (.int x3), .val (.int x4), .val (.int x5), .val (.int x6), .val (.int x7), .val (.int (endsL x5 x3)), .val (.int (endsL x5 (0 : Int32))), .val (.int (endsL x5 (1 : Int32))), .val (.int (1 : Int32))] [])) _
        refine XS.iload X3.here hx rfl (hb hby at_196) rfl ?_
        show Steps p.tables e below (T3.setTop (mkF m 198 #[.val (.int p1), .val (.int p2), .val (.int p3), .val (.int x3), .val (.int x4), .val (.int x5), .val (.int x6), .val (.int x7), .val (.int (endsL x5 x3)), .val (.int (endsL x5 (0 : Int32))), .val (.int (endsL x5 (1 : Int32))), .val (.int (1 : Int32))] [(.int (endsL x5 x3))])) _
        refine XS.iload X3.here hx rfl (hb hby at_198) rfl ?_
        exact kt
      by_cases hc5 : (endsL x5 x3) = x7
      · rw [if_pos hc5] at hf
        refine Go.step (T' := T3) (f' := (mkF m 203 #[.val (.int p1), .val (.int p2), .val (.int p3), .val (.int x3), .val (.int x4), .val (.int x5), .val (.int x6), .val (.int x7), .val (.int (endsL x5 x3)), .val (.int (endsL x5 (0 : Int32))), .val (.int (endsL x5 (1 : Int32))), .val (.int (1 : Int32))] [])) (fun t kt => ?_) ?_
        · show Steps p.tables e below (T3.setTop (mkF m 200 #[.val (.int p1), .val (.int p2), .val (.int p3), .val (.int x3), .val (.int x4), .val (.int x5), .val (.int x6), .val (.int x7), .val (.int (endsL x5 x3)), .val (.int (endsL x5 (0 : Int32))), .val (.int (endsL x5 (1 : Int32))), .val (.int (1 : Int32))] [(.int x7), (.int (endsL x5 x3))])) _
          refine XS.icmpNo X3.here hx rfl (hb hby at_200) rfl (teq hc5).2 ?_
          exact kt
        refine Go.step (T' := T3) (f' := (mkF m 213 #[.val (.int p1), .val (.int p2), .val (.int p3), .val (.int x3), .val (.int x4), .val (.int x5), .val (.int x6), .val (.int x7), .val (.int (endsL x5 x3)), .val (.int (endsL x5 (0 : Int32))), .val (.int (endsL x5 (1 : Int32))), .val (.int (1 : Int32))] [(.int (1 : Int32))])) (fun t kt => ?_) ?_
        · show Steps p.tables e below (T3.setTop (mkF m 203 #[.val (.int p1), .val (.int p2), .val (.int p3), .val (.int x3), .val (.int x4), .val (.int x5), .val (.int x6), .val (.int x7), .val (.int (endsL x5 x3)), .val (.int (endsL x5 (0 : Int32))), .val (.int (endsL x5 (1 : Int32))), .val (.int (1 : Int32))] [])) _
          refine XS.iload X3.here hx rfl (hb hby at_203) rfl ?_
          show Steps p.tables e below (T3.setTop (mkF m 205 #[.val (.int p1), .val (.int p2), .val (.int p3), .val (.int x3), .val (.int x4), .val (.int x5), .val (.int x6), .val (.int x7), .val (.int (endsL x5 x3)), .val (.int (endsL x5 (0 : Int32))), .val (.int (endsL x5 (1 : Int32))), .val (.int (1 : Int32))] [(.int (1 : Int32))])) _
          refine XS.ifNo X3.here hx rfl (hb hby at_205) rfl ((if0 _ _).trans (feq (by decide : ¬ ((1 : Int32) = (0 : Int32)))).1) ?_
          show Steps p.tables e below (T3.setTop (mkF m 208 #[.val (.int p1), .val (.int p2), .val (.int p3), .val (.int x3), .val (.int x4), .val (.int x5), .val (.int x6), .val (.int x7), .val (.int (endsL x5 x3)), .val (.int (endsL x5 (0 : Int32))), .val (.int (endsL x5 (1 : Int32))), .val (.int (1 : Int32))] [])) _
          refine XS.iconst X3.here hx rfl (hb hby at_208) ?_
          show Steps p.tables e below (T3.setTop (mkF m 209 #[.val (.int p1), .val (.int p2), .val (.int p3), .val (.int x3), .val (.int x4), .val (.int x5), .val (.int x6), .val (.int x7), .val (.int (endsL x5 x3)), .val (.int (endsL x5 (0 : Int32))), .val (.int (endsL x5 (1 : Int32))), .val (.int (1 : Int32))] [(.int (1 : Int32))])) _
          refine XS.goto X3.here hx rfl (pc0 := 209) (pc' := 213) rfl (hb hby at_209) (by decide) (by decide) ?_
          exact kt
        refine Go.fin X3 (v := some (.int (1 : Int32))) (fun h => by rw [Bd.returns] at h; cases h) Bd.notSynchronized ?_ (Nat.le_trans (Nat.add_le_add_right (Nat.add_le_add_right (Nat.add_le_add_right hcl 0) 0) 0) (by decide)) (Nat.le_trans (Nat.add_le_add_right (Nat.add_le_add_right (Nat.add_le_add_right hsl 0) 0) 0) (by decide)) (fun fs hr => retN X3 hx (t := .boolean) Bd.returns (by simp) (hb hby at_213) hr)
        · exact ⟨by rw [hf], N3, e3⟩
      · rw [if_neg hc5] at hf
        refine Go.step (T' := T3) (f' := (mkF m 212 #[.val (.int p1), .val (.int p2), .val (.int p3), .val (.int x3), .val (.int x4), .val (.int x5), .val (.int x6), .val (.int x7), .val (.int (endsL x5 x3)), .val (.int (endsL x5 (0 : Int32))), .val (.int (endsL x5 (1 : Int32))), .val (.int (1 : Int32))] [])) (fun t kt => ?_) ?_
        · show Steps p.tables e below (T3.setTop (mkF m 200 #[.val (.int p1), .val (.int p2), .val (.int p3), .val (.int x3), .val (.int x4), .val (.int x5), .val (.int x6), .val (.int x7), .val (.int (endsL x5 x3)), .val (.int (endsL x5 (0 : Int32))), .val (.int (endsL x5 (1 : Int32))), .val (.int (1 : Int32))] [(.int x7), (.int (endsL x5 x3))])) _
          refine XS.icmpYes X3.here hx rfl (pc0 := 200) (pc' := 212) rfl (hb hby at_200) rfl (feq hc5).2 (by decide) (by decide) ?_
          exact kt
        refine Go.step (T' := T3) (f' := (mkF m 213 #[.val (.int p1), .val (.int p2), .val (.int p3), .val (.int x3), .val (.int x4), .val (.int x5), .val (.int x6), .val (.int x7), .val (.int (endsL x5 x3)), .val (.int (endsL x5 (0 : Int32))), .val (.int (endsL x5 (1 : Int32))), .val (.int (1 : Int32))] [(.int (0 : Int32))])) (fun t kt => ?_) ?_
        · show Steps p.tables e below (T3.setTop (mkF m 212 #[.val (.int p1), .val (.int p2), .val (.int p3), .val (.int x3), .val (.int x4), .val (.int x5), .val (.int x6), .val (.int x7), .val (.int (endsL x5 x3)), .val (.int (endsL x5 (0 : Int32))), .val (.int (endsL x5 (1 : Int32))), .val (.int (1 : Int32))] [])) _
          refine XS.iconst X3.here hx rfl (hb hby at_212) ?_
          exact kt
        refine Go.fin X3 (v := some (.int (0 : Int32))) (fun h => by rw [Bd.returns] at h; cases h) Bd.notSynchronized ?_ (Nat.le_trans (Nat.add_le_add_right (Nat.add_le_add_right (Nat.add_le_add_right hcl 0) 0) 0) (by decide)) (Nat.le_trans (Nat.add_le_add_right (Nat.add_le_add_right (Nat.add_le_add_right hsl 0) 0) 0) (by decide)) (fun fs hr => retN X3 hx (t := .boolean) Bd.returns (by simp) (hb hby at_213) hr)
        · exact ⟨by rw [hf], N3, e3⟩
    · rw [if_neg hc4] at hf
      refine Go.step (T' := T3) (f' := (mkF m 184 #[.val (.int p1), .val (.int p2), .val (.int p3), .val (.int x3), .val (.int x4), .val (.int x5), .val (.int x6), .val (.int x7), .val (.int (endsL x5 x3)), .val (.int (endsL x5 (0 : Int32))), .val (.int (endsL x5 (1 : Int32))), .unset] [])) (fun t kt => ?_) ?_
      · show Steps p.tables e below (T3.setTop (mkF m 181 #[.val (.int p1), .val (.int p2), .val (.int p3), .val (.int x3), .val (.int x4), .val (.int x5), .val (.int x6), .val (.int x7), .val (.int (endsL x5 x3)), .val (.int (endsL x5 (0 : Int32))), .val (.int (endsL x5 (1 : Int32))), .unset] [(.int (endsL x5 (0 : Int32)))])) _
        refine XS.ifNo X3.here hx rfl (hb hby at_181) rfl ((if0 _ _).trans (feq hc4).1) ?_
        exact kt
      refine Go.step (T' := T3) (f' := (mkF m 186 #[.val (.int p1), .val (.int p2), .val (.int p3), .val (.int x3), .val (.int x4), .val (.int x5), .val (.int x6), .val (.int x7), .val (.int (endsL x5 x3)), .val (.int (endsL x5 (0 : Int32))), .val (.int (endsL x5 (1 : Int32))), .unset] [(.int (endsL x5 (1 : Int32)))])) (fun t kt => ?_) ?_
      · show Steps p.tables e below (T3.setTop (mkF m 184 #[.val (.int p1), .val (.int p2), .val (.int p3), .val (.int x3), .val (.int x4), .val (.int x5), .val (.int x6), .val (.int x7), .val (.int (endsL x5 x3)), .val (.int (endsL x5 (0 : Int32))), .val (.int (endsL x5 (1 : Int32))), .unset] [])) _
        refine XS.iload X3.here hx rfl (hb hby at_184) rfl ?_
        exact kt
      by_cases hc6 : (endsL x5 (1 : Int32)) = (0 : Int32)
      · rw [if_pos hc6] at hf
        refine Go.step (T' := T3) (f' := (mkF m 193 #[.val (.int p1), .val (.int p2), .val (.int p3), .val (.int x3), .val (.int x4), .val (.int x5), .val (.int x6), .val (.int x7), .val (.int (endsL x5 x3)), .val (.int (endsL x5 (0 : Int32))), .val (.int (endsL x5 (1 : Int32))), .unset] [])) (fun t kt => ?_) ?_
        · show Steps p.tables e below (T3.setTop (mkF m 186 #[.val (.int p1), .val (.int p2), .val (.int p3), .val (.int x3), .val (.int x4), .val (.int x5), .val (.int x6), .val (.int x7), .val (.int (endsL x5 x3)), .val (.int (endsL x5 (0 : Int32))), .val (.int (endsL x5 (1 : Int32))), .unset] [(.int (endsL x5 (1 : Int32)))])) _
          refine XS.ifYes X3.here hx rfl (pc0 := 186) (pc' := 193) rfl (hb hby at_186) rfl ((if0 _ _).trans (teq hc6).1) (by decide) (by decide) ?_
          exact kt
        refine Go.step (T' := T3) (f' := (mkF m 200 #[.val (.int p1), .val (.int p2), .val (.int p3), .val (.int x3), .val (.int x4), .val (.int x5), .val (.int x6), .val (.int x7), .val (.int (endsL x5 x3)), .val (.int (endsL x5 (0 : Int32))), .val (.int (endsL x5 (1 : Int32))), .val (.int (0 : Int32))] [(.int x7), (.int (endsL x5 x3))])) (fun t kt => ?_) ?_
        · show Steps p.tables e below (T3.setTop (mkF m 193 #[.val (.int p1), .val (.int p2), .val (.int p3), .val (.int x3), .val (.int x4), .val (.int x5), .val (.int x6), .val (.int x7), .val (.int (endsL x5 x3)), .val (.int (endsL x5 (0 : Int32))), .val (.int (endsL x5 (1 : Int32))), .unset] [])) _
          refine XS.iconst X3.here hx rfl (hb hby at_193) ?_
          show Steps p.tables e below (T3.setTop (mkF m 194 #[.val (.int p1), .val (.int p2), .val (.int p3), .val (.int x3), .val (.int x4), .val (.int x5), .val (.int x6), .val (.int x7), .val (.int (endsL x5 x3)), .val (.int (endsL x5 (0 : Int32))), .val (.int (endsL x5 (1 : Int32))), .unset] [(.int (0 : Int32))])) _
          refine XS.istore X3.here hx rfl (hb hby at_194) rfl (l' := #[.val (.int p1), .val (.int p2), .val (.int p3), .val (.int x3), .val (.int x4), .val (.int x5), .val (.int x6), .val (.int x7), .val (.int (endsL x5 x3)), .val (.int (endsL x5 (0 : Int32))), .val (.int (endsL x5 (1 : Int32))), .val (.int (0 : Int32))]) rfl ?_
          show Steps p.tables e below (T3.setTop (mkF m 196 #[.val (.int p1), .val (.int p2), .val (.int p3), .val (.int x3), .val (.int x4), .val (.int x5), .val (.int x6), .val (.int x7), .val (.int (endsL x5 x3)), .val (.int (endsL x5 (0 : Int32))), .val (.int (endsL x5 (1 : Int32))), .val (.int (0 : Int32))] [])) _
          refine XS.iload X3.here hx rfl (hb hby at_196) rfl ?_
          show Steps p.tables e below (T3.setTop (mkF m 198 #[.val (.int p1), .val (.int p2), .val (.int p3), .val (.int x3), .val (.int x4), .val (.int x5), .val (.int x6), .val (.int x7), .val (.int (endsL x5 x3)), .val (.int (endsL x5 (0 : Int32))), .val (.int (endsL x5 (1 : Int32))), .val (.int (0 : Int32))] [(.int (endsL x5 x3))])) _
          refine XS.iload X3.here hx rfl (hb hby at_198) rfl ?_
          exact kt
        by_cases hc7 : (endsL x5 x3) = x7
        · rw [if_pos hc7] at hf
          refine Go.step (T' := T3) (f' := (mkF m 203 #[.val (.int p1), .val (.int p2), .val (.int p3), .val (.int x3), .val (.int x4), .val (.int x5), .val (.int x6), .val (.int x7), .val (.int (endsL x5 x3)), .val (.int (endsL x5 (0 : Int32))), .val (.int (endsL x5 (1 : Int32))), .val (.int (0 : Int32))] [])) (fun t kt => ?_) ?_
          · show Steps p.tables e below (T3.setTop (mkF m 200 #[.val (.int p1), .val (.int p2), .val (.int p3), .val (.int x3), .val (.int x4), .val (.int x5), .val (.int x6), .val (.int x7), .val (.int (endsL x5 x3)), .val (.int (endsL x5 (0 : Int32))), .val (.int (endsL x5 (1 : Int32))), .val (.int (0 : Int32))] [(.int x7), (.int (endsL x5 x3))])) _
            refine XS.icmpNo X3.here hx rfl (hb hby at_200) rfl (teq hc7).2 ?_
            exact kt
          refine Go.step (T' := T3) (f' := (mkF m 213 #[.val (.int p1), .val (.int p2), .val (.int p3), .val (.int x3), .val (.int x4), .val (.int x5), .val (.int x6), .val (.int x7), .val (.int (endsL x5 x3)), .val (.int (endsL x5 (0 : Int32))), .val (.int (endsL x5 (1 : Int32))), .val (.int (0 : Int32))] [(.int (0 : Int32))])) (fun t kt => ?_) ?_
          · show Steps p.tables e below (T3.setTop (mkF m 203 #[.val (.int p1), .val (.int p2), .val (.int p3), .val (.int x3), .val (.int x4), .val (.int x5), .val (.int x6), .val (.int x7), .val (.int (endsL x5 x3)), .val (.int (endsL x5 (0 : Int32))), .val (.int (endsL x5 (1 : Int32))), .val (.int (0 : Int32))] [])) _
            refine XS.iload X3.here hx rfl (hb hby at_203) rfl ?_
            show Steps p.tables e below (T3.setTop (mkF m 205 #[.val (.int p1), .val (.int p2), .val (.int p3), .val (.int x3), .val (.int x4), .val (.int x5), .val (.int x6), .val (.int x7), .val (.int (endsL x5 x3)), .val (.int (endsL x5 (0 : Int32))), .val (.int (endsL x5 (1 : Int32))), .val (.int (0 : Int32))] [(.int (0 : Int32))])) _
            refine XS.ifYes X3.here hx rfl (pc0 := 205) (pc' := 212) rfl (hb hby at_205) rfl ((if0 _ _).trans (teq (by decide : ((0 : Int32) = (0 : Int32)))).1) (by decide) (by decide) ?_
            show Steps p.tables e below (T3.setTop (mkF m 212 #[.val (.int p1), .val (.int p2), .val (.int p3), .val (.int x3), .val (.int x4), .val (.int x5), .val (.int x6), .val (.int x7), .val (.int (endsL x5 x3)), .val (.int (endsL x5 (0 : Int32))), .val (.int (endsL x5 (1 : Int32))), .val (.int (0 : Int32))] [])) _
            refine XS.iconst X3.here hx rfl (hb hby at_212) ?_
            exact kt
          refine Go.fin X3 (v := some (.int (0 : Int32))) (fun h => by rw [Bd.returns] at h; cases h) Bd.notSynchronized ?_ (Nat.le_trans (Nat.add_le_add_right (Nat.add_le_add_right (Nat.add_le_add_right hcl 0) 0) 0) (by decide)) (Nat.le_trans (Nat.add_le_add_right (Nat.add_le_add_right (Nat.add_le_add_right hsl 0) 0) 0) (by decide)) (fun fs hr => retN X3 hx (t := .boolean) Bd.returns (by simp) (hb hby at_213) hr)
          · exact ⟨by rw [hf], N3, e3⟩
        · rw [if_neg hc7] at hf
          refine Go.step (T' := T3) (f' := (mkF m 212 #[.val (.int p1), .val (.int p2), .val (.int p3), .val (.int x3), .val (.int x4), .val (.int x5), .val (.int x6), .val (.int x7), .val (.int (endsL x5 x3)), .val (.int (endsL x5 (0 : Int32))), .val (.int (endsL x5 (1 : Int32))), .val (.int (0 : Int32))] [])) (fun t kt => ?_) ?_
          · show Steps p.tables e below (T3.setTop (mkF m 200 #[.val (.int p1), .val (.int p2), .val (.int p3), .val (.int x3), .val (.int x4), .val (.int x5), .val (.int x6), .val (.int x7), .val (.int (endsL x5 x3)), .val (.int (endsL x5 (0 : Int32))), .val (.int (endsL x5 (1 : Int32))), .val (.int (0 : Int32))] [(.int x7), (.int (endsL x5 x3))])) _
            refine XS.icmpYes X3.here hx rfl (pc0 := 200) (pc' := 212) rfl (hb hby at_200) rfl (feq hc7).2 (by decide) (by decide) ?_
            exact kt
          refine Go.step (T' := T3) (f' := (mkF m 213 #[.val (.int p1), .val (.int p2), .val (.int p3), .val (.int x3), .val (.int x4), .val (.int x5), .val (.int x6), .val (.int x7), .val (.int (endsL x5 x3)), .val (.int (endsL x5 (0 : Int32))), .val (.int (endsL x5 (1 : Int32))), .val (.int (0 : Int32))] [(.int (0 : Int32))])) (fun t kt => ?_) ?_
          · show Steps p.tables e below (T3.setTop (mkF m 212 #[.val (.int p1), .val (.int p2), .val (.int p3), .val (.int x3), .val (.int x4), .val (.int x5), .val (.int x6), .val (.int x7), .val (.int (endsL x5 x3)), .val (.int (endsL x5 (0 : Int32))), .val (.int (endsL x5 (1 : Int32))), .val (.int (0 : Int32))] [])) _
            refine XS.iconst X3.here hx rfl (hb hby at_212) ?_
            exact kt
          refine Go.fin X3 (v := some (.int (0 : Int32))) (fun h => by rw [Bd.returns] at h; cases h) Bd.notSynchronized ?_ (Nat.le_trans (Nat.add_le_add_right (Nat.add_le_add_right (Nat.add_le_add_right hcl 0) 0) 0) (by decide)) (Nat.le_trans (Nat.add_le_add_right (Nat.add_le_add_right (Nat.add_le_add_right hsl 0) 0) 0) (by decide)) (fun fs hr => retN X3 hx (t := .boolean) Bd.returns (by simp) (hb hby at_213) hr)
          · exact ⟨by rw [hf], N3, e3⟩
      · rw [if_neg hc6] at hf
        refine Go.step (T' := T3) (f' := (mkF m 189 #[.val (.int p1), .val (.int p2), .val (.int p3), .val (.int x3), .val (.int x4), .val (.int x5), .val (.int x6), .val (.int x7), .val (.int (endsL x5 x3)), .val (.int (endsL x5 (0 : Int32))), .val (.int (endsL x5 (1 : Int32))), .unset] [])) (fun t kt => ?_) ?_
        · show Steps p.tables e below (T3.setTop (mkF m 186 #[.val (.int p1), .val (.int p2), .val (.int p3), .val (.int x3), .val (.int x4), .val (.int x5), .val (.int x6), .val (.int x7), .val (.int (endsL x5 x3)), .val (.int (endsL x5 (0 : Int32))), .val (.int (endsL x5 (1 : Int32))), .unset] [(.int (endsL x5 (1 : Int32)))])) _
          refine XS.ifNo X3.here hx rfl (hb hby at_186) rfl ((if0 _ _).trans (feq hc6).1) ?_
          exact kt
        refine Go.step (T' := T3) (f' := (mkF m 200 #[.val (.int p1), .val (.int p2), .val (.int p3), .val (.int x3), .val (.int x4), .val (.int x5), .val (.int x6), .val (.int x7), .val (.int (endsL x5 x3)), .val (.int (endsL x5 (0 : Int32))), .val (.int (endsL x5 (1 : Int32))), .val (.int (1 : Int32))] [(.int x7), (.int (endsL x5 x3))])) (fun t kt => ?_) ?_
        · show Steps p.tables e below (T3.setTop (mkF m 189 #[.val (.int p1), .val (.int p2), .val (.int p3), .val (.int x3), .val (.int x4), .val (.int x5), .val (.int x6), .val (.int x7), .val (.int (endsL x5 x3)), .val (.int (endsL x5 (0 : Int32))), .val (.int (endsL x5 (1 : Int32))), .unset] [])) _
          refine XS.iconst X3.here hx rfl (hb hby at_189) ?_
          show Steps p.tables e below (T3.setTop (mkF m 190 #[.val (.int p1), .val (.int p2), .val (.int p3), .val (.int x3), .val (.int x4), .val (.int x5), .val (.int x6), .val (.int x7), .val (.int (endsL x5 x3)), .val (.int (endsL x5 (0 : Int32))), .val (.int (endsL x5 (1 : Int32))), .unset] [(.int (1 : Int32))])) _
          refine XS.goto X3.here hx rfl (pc0 := 190) (pc' := 194) rfl (hb hby at_190) (by decide) (by decide) ?_
          show Steps p.tables e below (T3.setTop (mkF m 194 #[.val (.int p1), .val (.int p2), .val (.int p3), .val (.int x3), .val (.int x4), .val (.int x5), .val (.int x6), .val (.int x7), .val (.int (endsL x5 x3)), .val (.int (endsL x5 (0 : Int32))), .val (.int (endsL x5 (1 : Int32))), .unset] [(.int (1 : Int32))])) _
          refine XS.istore X3.here hx rfl (hb hby at_194) rfl (l' := #[.val (.int p1), .val (.int p2), .val (.int p3), .val (.int x3), .val (.int x4), .val (.int x5), .val (.int x6), .val (.int x7), .val (.int (endsL x5 x3)), .val (.int (endsL x5 (0 : Int32))), .val (.int (endsL x5 (1 : Int32))), .val (.int (1 : Int32))]) rfl ?_
          show Steps p.tables e below (T3.setTop (mkF m 196 #[.val (.int p1), .val (.int p2), .val (.int p3), .val (.int x3), .val (.int x4), .val (.int x5), .val (.int x6), .val (.int x7), .val (.int (endsL x5 x3)), .val (.int (endsL x5 (0 : Int32))), .val (.int (endsL x5 (1 : Int32))), .val (.int (1 : Int32))] [])) _
          refine XS.iload X3.here hx rfl (hb hby at_196) rfl ?_
          show Steps p.tables e below (T3.setTop (mkF m 198 #[.val (.int p1), .val (.int p2), .val (.int p3), .val (.int x3), .val (.int x4), .val (.int x5), .val (.int x6), .val (.int x7), .val (.int (endsL x5 x3)), .val (.int (endsL x5 (0 : Int32))), .val (.int (endsL x5 (1 : Int32))), .val (.int (1 : Int32))] [(.int (endsL x5 x3))])) _
          refine XS.iload X3.here hx rfl (hb hby at_198) rfl ?_
          exact kt
        by_cases hc8 : (endsL x5 x3) = x7
        · rw [if_pos hc8] at hf
          refine Go.step (T' := T3) (f' := (mkF m 203 #[.val (.int p1), .val (.int p2), .val (.int p3), .val (.int x3), .val (.int x4), .val (.int x5), .val (.int x6), .val (.int x7), .val (.int (endsL x5 x3)), .val (.int (endsL x5 (0 : Int32))), .val (.int (endsL x5 (1 : Int32))), .val (.int (1 : Int32))] [])) (fun t kt => ?_) ?_
          · show Steps p.tables e below (T3.setTop (mkF m 200 #[.val (.int p1), .val (.int p2), .val (.int p3), .val (.int x3), .val (.int x4), .val (.int x5), .val (.int x6), .val (.int x7), .val (.int (endsL x5 x3)), .val (.int (endsL x5 (0 : Int32))), .val (.int (endsL x5 (1 : Int32))), .val (.int (1 : Int32))] [(.int x7), (.int (endsL x5 x3))])) _
            refine XS.icmpNo X3.here hx rfl (hb hby at_200) rfl (teq hc8).2 ?_
            exact kt
          refine Go.step (T' := T3) (f' := (mkF m 213 #[.val (.int p1), .val (.int p2), .val (.int p3), .val (.int x3), .val (.int x4), .val (.int x5), .val (.int x6), .val (.int x7), .val (.int (endsL x5 x3)), .val (.int (endsL x5 (0 : Int32))), .val (.int (endsL x5 (1 : Int32))), .val (.int (1 : Int32))] [(.int (1 : Int32))])) (fun t kt => ?_) ?_
          · show Steps p.tables e below (T3.setTop (mkF m 203 #[.val (.int p1), .val (.int p2), .val (.int p3), .val (.int x3), .val (.int x4), .val (.int x5), .val (.int x6), .val (.int x7), .val (.int (endsL x5 x3)), .val (.int (endsL x5 (0 : Int32))), .val (.int (endsL x5 (1 : Int32))), .val (.int (1 : Int32))] [])) _
            refine XS.iload X3.here hx rfl (hb hby at_203) rfl ?_
            show Steps p.tables e below (T3.setTop (mkF m 205 #[.val (.int p1), .val (.int p2), .val (.int p3), .val (.int x3), .val (.int x4), .val (.int x5), .val (.int x6), .val (.int x7), .val (.int (endsL x5 x3)), .val (.int (endsL x5 (0 : Int32))), .val (.int (endsL x5 (1 : Int32))), .val (.int (1 : Int32))] [(.int (1 : Int32))])) _
            refine XS.ifNo X3.here hx rfl (hb hby at_205) rfl ((if0 _ _).trans (feq (by decide : ¬ ((1 : Int32) = (0 : Int32)))).1) ?_
            show Steps p.tables e below (T3.setTop (mkF m 208 #[.val (.int p1), .val (.int p2), .val (.int p3), .val (.int x3), .val (.int x4), .val (.int x5), .val (.int x6), .val (.int x7), .val (.int (endsL x5 x3)), .val (.int (endsL x5 (0 : Int32))), .val (.int (endsL x5 (1 : Int32))), .val (.int (1 : Int32))] [])) _
            refine XS.iconst X3.here hx rfl (hb hby at_208) ?_
            show Steps p.tables e below (T3.setTop (mkF m 209 #[.val (.int p1), .val (.int p2), .val (.int p3), .val (.int x3), .val (.int x4), .val (.int x5), .val (.int x6), .val (.int x7), .val (.int (endsL x5 x3)), .val (.int (endsL x5 (0 : Int32))), .val (.int (endsL x5 (1 : Int32))), .val (.int (1 : Int32))] [(.int (1 : Int32))])) _
            refine XS.goto X3.here hx rfl (pc0 := 209) (pc' := 213) rfl (hb hby at_209) (by decide) (by decide) ?_
            exact kt
          refine Go.fin X3 (v := some (.int (1 : Int32))) (fun h => by rw [Bd.returns] at h; cases h) Bd.notSynchronized ?_ (Nat.le_trans (Nat.add_le_add_right (Nat.add_le_add_right (Nat.add_le_add_right hcl 0) 0) 0) (by decide)) (Nat.le_trans (Nat.add_le_add_right (Nat.add_le_add_right (Nat.add_le_add_right hsl 0) 0) 0) (by decide)) (fun fs hr => retN X3 hx (t := .boolean) Bd.returns (by simp) (hb hby at_213) hr)
          · exact ⟨by rw [hf], N3, e3⟩
        · rw [if_neg hc8] at hf
          refine Go.step (T' := T3) (f' := (mkF m 212 #[.val (.int p1), .val (.int p2), .val (.int p3), .val (.int x3), .val (.int x4), .val (.int x5), .val (.int x6), .val (.int x7), .val (.int (endsL x5 x3)), .val (.int (endsL x5 (0 : Int32))), .val (.int (endsL x5 (1 : Int32))), .val (.int (1 : Int32))] [])) (fun t kt => ?_) ?_
          · show Steps p.tables e below (T3.setTop (mkF m 200 #[.val (.int p1), .val (.int p2), .val (.int p3), .val (.int x3), .val (.int x4), .val (.int x5), .val (.int x6), .val (.int x7), .val (.int (endsL x5 x3)), .val (.int (endsL x5 (0 : Int32))), .val (.int (endsL x5 (1 : Int32))), .val (.int (1 : Int32))] [(.int x7), (.int (endsL x5 x3))])) _
            refine XS.icmpYes X3.here hx rfl (pc0 := 200) (pc' := 212) rfl (hb hby at_200) rfl (feq hc8).2 (by decide) (by decide) ?_
            exact kt
          refine Go.step (T' := T3) (f' := (mkF m 213 #[.val (.int p1), .val (.int p2), .val (.int p3), .val (.int x3), .val (.int x4), .val (.int x5), .val (.int x6), .val (.int x7), .val (.int (endsL x5 x3)), .val (.int (endsL x5 (0 : Int32))), .val (.int (endsL x5 (1 : Int32))), .val (.int (1 : Int32))] [(.int (0 : Int32))])) (fun t kt => ?_) ?_
          · show Steps p.tables e below (T3.setTop (mkF m 212 #[.val (.int p1), .val (.int p2), .val (.int p3), .val (.int x3), .val (.int x4), .val (.int x5), .val (.int x6), .val (.int x7), .val (.int (endsL x5 x3)), .val (.int (endsL x5 (0 : Int32))), .val (.int (endsL x5 (1 : Int32))), .val (.int (1 : Int32))] [])) _
            refine XS.iconst X3.here hx rfl (hb hby at_212) ?_
            exact kt
          refine Go.fin X3 (v := some (.int (0 : Int32))) (fun h => by rw [Bd.returns] at h; cases h) Bd.notSynchronized ?_ (Nat.le_trans (Nat.add_le_add_right (Nat.add_le_add_right (Nat.add_le_add_right hcl 0) 0) 0) (by decide)) (Nat.le_trans (Nat.add_le_add_right (Nat.add_le_add_right (Nat.add_le_add_right hsl 0) 0) 0) (by decide)) (fun fs hr => retN X3 hx (t := .boolean) Bd.returns (by simp) (hb hby at_213) hr)
          · exact ⟨by rw [hf], N3, e3⟩
  have S106 : ∀ (T : State) (locs : List Loc) (cells slots : Nat) (X : Stand p l e room_1 s m #[(.int p1), (.int p2), (.int p3)] below meth c T locs cells slots) (hcl : cells ≤ 0) (hsl : slots ≤ 0) (eT : T.heap = h0) (N : Fr n0 locs) (x3 : Int32) (x4 : Int32) (x5 : Int32)  (hf : RES = lawF_106  x3 x4 x5), Go p e below s (Q0 RES h0 n0) 0 0 T (mkF m 106 #[.val (.int p1), .val (.int p2), .val (.int p3), .val (.int x3), .val (.int x4), .val (.int x5), .unset, .unset, .unset, .unset, .unset, .unset] []) := by
    intro T locs cells slots X hcl hsl eT N x3 x4 x5 hf
    rw [lawF_106] at hf
    refine Go.step (T' := T) (f' := (mkF m 114 #[.val (.int p1), .val (.int p2), .val (.int p3), .val (.int x3), .val (.int x4), .val (.int x5), .val (.int x5), .unset, .unset, .unset, .unset, .unset] [(.int (13 : Int32)), (.int x5)])) (fun t kt => ?_) ?_
    · show Steps p.tables e below (T.setTop (mkF m 106 #[.val (.int p1), .val (.int p2), .val (.int p3), .val (.int x3), .val (.int x4), .val (.int x5), .unset, .unset, .unset, .unset, .unset, .unset] [])) _
      refine XS.iload X.here hx rfl (hb hby at_106) rfl ?_
      show Steps p.tables e below (T.setTop (mkF m 108 #[.val (.int p1), .val (.int p2), .val (.int p3), .val (.int x3), .val (.int x4), .val (.int x5), .unset, .unset, .unset, .unset, .unset, .unset] [(.int x5)])) _
      refine XS.istore X.here hx rfl (hb hby at_108) rfl (l' := #[.val (.int p1), .val (.int p2), .val (.int p3), .val (.int x3), .val (.int x4), .val (.int x5), .val (.int x5), .unset, .unset, .unset, .unset, .unset]) rfl ?_
      show Steps p.tables e below (T.setTop (mkF m 110 #[.val (.int p1), .val (.int p2), .val (.int p3), .val (.int x3), .val (.int x4), .val (.int x5), .val (.int x5), .unset, .unset, .unset, .unset, .unset] [])) _
      refine XS.iload X.here hx rfl (hb hby at_110) rfl ?_
      show Steps p.tables e below (T.setTop (mkF m 112 #[.val (.int p1), .val (.int p2), .val (.int p3), .val (.int x3), .val (.int x4), .val (.int x5), .val (.int x5), .unset, .unset, .unset, .unset, .unset] [(.int x5)])) _
      refine XS.bipush X.here hx rfl (hb hby at_112) ?_
      exact kt
    by_cases hc9 : x5 = (13 : Int32)
    · rw [if_pos hc9] at hf
      refine Go.step (T' := T) (f' := (mkF m 124 #[.val (.int p1), .val (.int p2), .val (.int p3), .val (.int x3), .val (.int x4), .val (.int x5), .val (.int x5), .unset, .unset, .unset, .unset, .unset] [])) (fun t kt => ?_) ?_
      · show Steps p.tables e below (T.setTop (mkF m 114 #[.val (.int p1), .val (.int p2), .val (.int p3), .val (.int x3), .val (.int x4), .val (.int x5), .val (.int x5), .unset, .unset, .unset, .unset, .unset] [(.int (13 : Int32)), (.int x5)])) _
        refine XS.icmpYes X.here hx rfl (pc0 := 114) (pc' := 124) rfl (hb hby at_114) rfl (teq hc9).1 (by decide) (by decide) ?_
        exact kt
      refine Go.step (T' := T) (f' := (mkF m 155 #[.val (.int p1), .val (.int p2), .val (.int p3), .val (.int x3), .val (.int x4), .val (.int x5), .val (.int x5), .val (.int (1 : Int32)), .unset, .unset, .unset, .unset] [])) (fun t kt => ?_) ?_
      · show Steps p.tables e below (T.setTop (mkF m 124 #[.val (.int p1), .val (.int p2), .val (.int p3), .val (.int x3), .val (.int x4), .val (.int x5), .val (.int x5), .unset, .unset, .unset, .unset, .unset] [])) _
        refine XS.iconst X.here hx rfl (hb hby at_124) ?_
        show Steps p.tables e below (T.setTop (mkF m 125 #[.val (.int p1), .val (.int p2), .val (.int p3), .val (.int x3), .val (.int x4), .val (.int x5), .val (.int x5), .unset, .unset, .unset, .unset, .unset] [(.int (1 : Int32))])) _
        refine XS.istore X.here hx rfl (hb hby at_125) rfl (l' := #[.val (.int p1), .val (.int p2), .val (.int p3), .val (.int x3), .val (.int x4), .val (.int x5), .val (.int x5), .val (.int (1 : Int32)), .unset, .unset, .unset, .unset]) rfl ?_
        show Steps p.tables e below (T.setTop (mkF m 127 #[.val (.int p1), .val (.int p2), .val (.int p3), .val (.int x3), .val (.int x4), .val (.int x5), .val (.int x5), .val (.int (1 : Int32)), .unset, .unset, .unset, .unset] [])) _
        refine XS.goto X.here hx rfl (pc0 := 127) (pc' := 155) rfl (hb hby at_127) (by decide) (by decide) ?_
        exact kt
      exact S155 _ _ _ _ X (Nat.le_trans hcl (by decide)) (Nat.le_trans hsl (by decide)) eT N x3 x4 x5 x5 (1 : Int32) hf
    · rw [if_neg hc9] at hf
      refine Go.step (T' := T) (f' := (mkF m 117 #[.val (.int p1), .val (.int p2), .val (.int p3), .val (.int x3), .val (.int x4), .val (.int x5), .val (.int x5), .unset, .unset, .unset, .unset, .unset] [])) (fun t kt => ?_) ?_
      · show Steps p.tables e below (T.setTop (mkF m 114 #[.val (.int p1), .val (.int p2), .val (.int p3), .val (.int x3), .val (.int x4), .val (.int x5), .val (.int x5), .unset, .unset, .unset, .unset, .unset] [(.int (13 : Int32)), (.int x5)])) _
        refine XS.icmpNo X.here hx rfl (hb hby at_114) rfl (feq hc9).1 ?_
        exact kt
      refine Go.step (T' := T) (f' := (mkF m 121 #[.val (.int p1), .val (.int p2), .val (.int p3), .val (.int x3), .val (.int x4), .val (.int x5), .val (.int x5), .unset, .unset, .unset, .unset, .unset] [(.int (10 : Int32)), (.int x5)])) (fun t kt => ?_) ?_
      · show Steps p.tables e below (T.setTop (mkF m 117 #[.val (.int p1), .val (.int p2), .val (.int p3), .val (.int x3), .val (.int x4), .val (.int x5), .val (.int x5), .unset, .unset, .unset, .unset, .unset] [])) _
        refine XS.iload X.here hx rfl (hb hby at_117) rfl ?_
        show Steps p.tables e below (T.setTop (mkF m 119 #[.val (.int p1), .val (.int p2), .val (.int p3), .val (.int x3), .val (.int x4), .val (.int x5), .val (.int x5), .unset, .unset, .unset, .unset, .unset] [(.int x5)])) _
        refine XS.bipush X.here hx rfl (hb hby at_119) ?_
        exact kt
      by_cases hc10 : x5 = (10 : Int32)
      · rw [if_pos hc10] at hf
        refine Go.step (T' := T) (f' := (mkF m 124 #[.val (.int p1), .val (.int p2), .val (.int p3), .val (.int x3), .val (.int x4), .val (.int x5), .val (.int x5), .unset, .unset, .unset, .unset, .unset] [])) (fun t kt => ?_) ?_
        · show Steps p.tables e below (T.setTop (mkF m 121 #[.val (.int p1), .val (.int p2), .val (.int p3), .val (.int x3), .val (.int x4), .val (.int x5), .val (.int x5), .unset, .unset, .unset, .unset, .unset] [(.int (10 : Int32)), (.int x5)])) _
          refine XS.icmpNo X.here hx rfl (hb hby at_121) rfl (teq hc10).2 ?_
          exact kt
        refine Go.step (T' := T) (f' := (mkF m 155 #[.val (.int p1), .val (.int p2), .val (.int p3), .val (.int x3), .val (.int x4), .val (.int x5), .val (.int x5), .val (.int (1 : Int32)), .unset, .unset, .unset, .unset] [])) (fun t kt => ?_) ?_
        · show Steps p.tables e below (T.setTop (mkF m 124 #[.val (.int p1), .val (.int p2), .val (.int p3), .val (.int x3), .val (.int x4), .val (.int x5), .val (.int x5), .unset, .unset, .unset, .unset, .unset] [])) _
          refine XS.iconst X.here hx rfl (hb hby at_124) ?_
          show Steps p.tables e below (T.setTop (mkF m 125 #[.val (.int p1), .val (.int p2), .val (.int p3), .val (.int x3), .val (.int x4), .val (.int x5), .val (.int x5), .unset, .unset, .unset, .unset, .unset] [(.int (1 : Int32))])) _
          refine XS.istore X.here hx rfl (hb hby at_125) rfl (l' := #[.val (.int p1), .val (.int p2), .val (.int p3), .val (.int x3), .val (.int x4), .val (.int x5), .val (.int x5), .val (.int (1 : Int32)), .unset, .unset, .unset, .unset]) rfl ?_
          show Steps p.tables e below (T.setTop (mkF m 127 #[.val (.int p1), .val (.int p2), .val (.int p3), .val (.int x3), .val (.int x4), .val (.int x5), .val (.int x5), .val (.int (1 : Int32)), .unset, .unset, .unset, .unset] [])) _
          refine XS.goto X.here hx rfl (pc0 := 127) (pc' := 155) rfl (hb hby at_127) (by decide) (by decide) ?_
          exact kt
        exact S155 _ _ _ _ X (Nat.le_trans hcl (by decide)) (Nat.le_trans hsl (by decide)) eT N x3 x4 x5 x5 (1 : Int32) hf
      · rw [if_neg hc10] at hf
        refine Go.step (T' := T) (f' := (mkF m 130 #[.val (.int p1), .val (.int p2), .val (.int p3), .val (.int x3), .val (.int x4), .val (.int x5), .val (.int x5), .unset, .unset, .unset, .unset, .unset] [])) (fun t kt => ?_) ?_
        · show Steps p.tables e below (T.setTop (mkF m 121 #[.val (.int p1), .val (.int p2), .val (.int p3), .val (.int x3), .val (.int x4), .val (.int x5), .val (.int x5), .unset, .unset, .unset, .unset, .unset] [(.int (10 : Int32)), (.int x5)])) _
          refine XS.icmpYes X.here hx rfl (pc0 := 121) (pc' := 130) rfl (hb hby at_121) rfl (feq hc10).2 (by decide) (by decide) ?_
          exact kt
        refine Go.step (T' := T) (f' := (mkF m 135 #[.val (.int p1), .val (.int p2), .val (.int p3), .val (.int x3), .val (.int x4), .val (.int x5), .val (.int x5), .unset, .unset, .unset, .unset, .unset] [(.int (133 : Int32)), (.int x5)])) (fun t kt => ?_) ?_
        · show Steps p.tables e below (T.setTop (mkF m 130 #[.val (.int p1), .val (.int p2), .val (.int p3), .val (.int x3), .val (.int x4), .val (.int x5), .val (.int x5), .unset, .unset, .unset, .unset, .unset] [])) _
          refine XS.iload X.here hx rfl (hb hby at_130) rfl ?_
          show Steps p.tables e below (T.setTop (mkF m 132 #[.val (.int p1), .val (.int p2), .val (.int p3), .val (.int x3), .val (.int x4), .val (.int x5), .val (.int x5), .unset, .unset, .unset, .unset, .unset] [(.int x5)])) _
          refine XS.sipush X.here hx rfl (hb hby at_132) ?_
          exact kt
        by_cases hc11 : x5 = (133 : Int32)
        · rw [if_pos hc11] at hf
          refine Go.step (T' := T) (f' := (mkF m 146 #[.val (.int p1), .val (.int p2), .val (.int p3), .val (.int x3), .val (.int x4), .val (.int x5), .val (.int x5), .unset, .unset, .unset, .unset, .unset] [])) (fun t kt => ?_) ?_
          · show Steps p.tables e below (T.setTop (mkF m 135 #[.val (.int p1), .val (.int p2), .val (.int p3), .val (.int x3), .val (.int x4), .val (.int x5), .val (.int x5), .unset, .unset, .unset, .unset, .unset] [(.int (133 : Int32)), (.int x5)])) _
            refine XS.icmpYes X.here hx rfl (pc0 := 135) (pc' := 146) rfl (hb hby at_135) rfl (teq hc11).1 (by decide) (by decide) ?_
            exact kt
          refine Go.step (T' := T) (f' := (mkF m 155 #[.val (.int p1), .val (.int p2), .val (.int p3), .val (.int x3), .val (.int x4), .val (.int x5), .val (.int x5), .val (.int x3), .unset, .unset, .unset, .unset] [])) (fun t kt => ?_) ?_
          · show Steps p.tables e below (T.setTop (mkF m 146 #[.val (.int p1), .val (.int p2), .val (.int p3), .val (.int x3), .val (.int x4), .val (.int x5), .val (.int x5), .unset, .unset, .unset, .unset, .unset] [])) _
            refine XS.iloadN X.here hx rfl (hb hby at_146) rfl ?_
            show Steps p.tables e below (T.setTop (mkF m 147 #[.val (.int p1), .val (.int p2), .val (.int p3), .val (.int x3), .val (.int x4), .val (.int x5), .val (.int x5), .unset, .unset, .unset, .unset, .unset] [(.int x3)])) _
            refine XS.istore X.here hx rfl (hb hby at_147) rfl (l' := #[.val (.int p1), .val (.int p2), .val (.int p3), .val (.int x3), .val (.int x4), .val (.int x5), .val (.int x5), .val (.int x3), .unset, .unset, .unset, .unset]) rfl ?_
            show Steps p.tables e below (T.setTop (mkF m 149 #[.val (.int p1), .val (.int p2), .val (.int p3), .val (.int x3), .val (.int x4), .val (.int x5), .val (.int x5), .val (.int x3), .unset, .unset, .unset, .unset] [])) _
            refine XS.goto X.here hx rfl (pc0 := 149) (pc' := 155) rfl (hb hby at_149) (by decide) (by decide) ?_
            exact kt
          exact S155 _ _ _ _ X (Nat.le_trans hcl (by decide)) (Nat.le_trans hsl (by decide)) eT N x3 x4 x5 x5 x3 hf
        · rw [if_neg hc11] at hf
          refine Go.step (T' := T) (f' := (mkF m 138 #[.val (.int p1), .val (.int p2), .val (.int p3), .val (.int x3), .val (.int x4), .val (.int x5), .val (.int x5), .unset, .unset, .unset, .unset, .unset] [])) (fun t kt => ?_) ?_
          · show Steps p.tables e below (T.setTop (mkF m 135 #[.val (.int p1), .val (.int p2), .val (.int p3), .val (.int x3), .val (.int x4), .val (.int x5), .val (.int x5), .unset, .unset, .unset, .unset, .unset] [(.int (133 : Int32)), (.int x5)])) _
            refine XS.icmpNo X.here hx rfl (hb hby at_135) rfl (feq hc11).1 ?_
            exact kt
          refine Go.step (T' := T) (f' := (mkF m 143 #[.val (.int p1), .val (.int p2), .val (.int p3), .val (.int x3), .val (.int x4), .val (.int x5), .val (.int x5), .unset, .unset, .unset, .unset, .unset] [(.int (8232 : Int32)), (.int x5)])) (fun t kt => ?_) ?_
          · show Steps p.tables e below (T.setTop (mkF m 138 #[.val (.int p1), .val (.int p2), .val (.int p3), .val (.int x3), .val (.int x4), .val (.int x5), .val (.int x5), .unset, .unset, .unset, .unset, .unset] [])) _
            refine XS.iload X.here hx rfl (hb hby at_138) rfl ?_
            show Steps p.tables e below (T.setTop (mkF m 140 #[.val (.int p1), .val (.int p2), .val (.int p3), .val (.int x3), .val (.int x4), .val (.int x5), .val (.int x5), .unset, .unset, .unset, .unset, .unset] [(.int x5)])) _
            refine XS.sipush X.here hx rfl (hb hby at_140) ?_
            exact kt
          by_cases hc12 : x5 = (8232 : Int32)
          · rw [if_pos hc12] at hf
            refine Go.step (T' := T) (f' := (mkF m 146 #[.val (.int p1), .val (.int p2), .val (.int p3), .val (.int x3), .val (.int x4), .val (.int x5), .val (.int x5), .unset, .unset, .unset, .unset, .unset] [])) (fun t kt => ?_) ?_
            · show Steps p.tables e below (T.setTop (mkF m 143 #[.val (.int p1), .val (.int p2), .val (.int p3), .val (.int x3), .val (.int x4), .val (.int x5), .val (.int x5), .unset, .unset, .unset, .unset, .unset] [(.int (8232 : Int32)), (.int x5)])) _
              refine XS.icmpNo X.here hx rfl (hb hby at_143) rfl (teq hc12).2 ?_
              exact kt
            refine Go.step (T' := T) (f' := (mkF m 155 #[.val (.int p1), .val (.int p2), .val (.int p3), .val (.int x3), .val (.int x4), .val (.int x5), .val (.int x5), .val (.int x3), .unset, .unset, .unset, .unset] [])) (fun t kt => ?_) ?_
            · show Steps p.tables e below (T.setTop (mkF m 146 #[.val (.int p1), .val (.int p2), .val (.int p3), .val (.int x3), .val (.int x4), .val (.int x5), .val (.int x5), .unset, .unset, .unset, .unset, .unset] [])) _
              refine XS.iloadN X.here hx rfl (hb hby at_146) rfl ?_
              show Steps p.tables e below (T.setTop (mkF m 147 #[.val (.int p1), .val (.int p2), .val (.int p3), .val (.int x3), .val (.int x4), .val (.int x5), .val (.int x5), .unset, .unset, .unset, .unset, .unset] [(.int x3)])) _
              refine XS.istore X.here hx rfl (hb hby at_147) rfl (l' := #[.val (.int p1), .val (.int p2), .val (.int p3), .val (.int x3), .val (.int x4), .val (.int x5), .val (.int x5), .val (.int x3), .unset, .unset, .unset, .unset]) rfl ?_
              show Steps p.tables e below (T.setTop (mkF m 149 #[.val (.int p1), .val (.int p2), .val (.int p3), .val (.int x3), .val (.int x4), .val (.int x5), .val (.int x5), .val (.int x3), .unset, .unset, .unset, .unset] [])) _
              refine XS.goto X.here hx rfl (pc0 := 149) (pc' := 155) rfl (hb hby at_149) (by decide) (by decide) ?_
              exact kt
            exact S155 _ _ _ _ X (Nat.le_trans hcl (by decide)) (Nat.le_trans hsl (by decide)) eT N x3 x4 x5 x5 x3 hf
          · rw [if_neg hc12] at hf
            refine Go.step (T' := T) (f' := (mkF m 152 #[.val (.int p1), .val (.int p2), .val (.int p3), .val (.int x3), .val (.int x4), .val (.int x5), .val (.int x5), .unset, .unset, .unset, .unset, .unset] [])) (fun t kt => ?_) ?_
            · show Steps p.tables e below (T.setTop (mkF m 143 #[.val (.int p1), .val (.int p2), .val (.int p3), .val (.int x3), .val (.int x4), .val (.int x5), .val (.int x5), .unset, .unset, .unset, .unset, .unset] [(.int (8232 : Int32)), (.int x5)])) _
              refine XS.icmpYes X.here hx rfl (pc0 := 143) (pc' := 152) rfl (hb hby at_143) rfl (feq hc12).2 (by decide) (by decide) ?_
              exact kt
            refine Go.step (T' := T) (f' := (mkF m 155 #[.val (.int p1), .val (.int p2), .val (.int p3), .val (.int x3), .val (.int x4), .val (.int x5), .val (.int x5), .val (.int (0 : Int32)), .unset, .unset, .unset, .unset] [])) (fun t kt => ?_) ?_
            · show Steps p.tables e below (T.setTop (mkF m 152 #[.val (.int p1), .val (.int p2), .val (.int p3), .val (.int x3), .val (.int x4), .val (.int x5), .val (.int x5), .unset, .unset, .unset, .unset, .unset] [])) _
              refine XS.iconst X.here hx rfl (hb hby at_152) ?_
              show Steps p.tables e below (T.setTop (mkF m 153 #[.val (.int p1), .val (.int p2), .val (.int p3), .val (.int x3), .val (.int x4), .val (.int x5), .val (.int x5), .unset, .unset, .unset, .unset, .unset] [(.int (0 : Int32))])) _
              refine XS.istore X.here hx rfl (hb hby at_153) rfl (l' := #[.val (.int p1), .val (.int p2), .val (.int p3), .val (.int x3), .val (.int x4), .val (.int x5), .val (.int x5), .val (.int (0 : Int32)), .unset, .unset, .unset, .unset]) rfl ?_
              exact kt
            exact S155 _ _ _ _ X (Nat.le_trans hcl (by decide)) (Nat.le_trans hsl (by decide)) eT N x3 x4 x5 x5 (0 : Int32) hf
  have S11 : ∀ (T : State) (locs : List Loc) (cells slots : Nat) (X : Stand p l e room_1 s m #[(.int p1), (.int p2), (.int p3)] below meth c T locs cells slots) (hcl : cells ≤ 0) (hsl : slots ≤ 0) (eT : T.heap = h0) (N : Fr n0 locs) (t0 : Int32)  (hf : RES = lawF_11 p1 p2 t0), Go p e below s (Q0 RES h0 n0) 0 0 T (mkF m 11 #[.val (.int p1), .val (.int p2), .val (.int p3), .unset, .unset, .unset, .unset, .unset, .unset, .unset, .unset, .unset] [(.int t0)]) := by
    intro T locs cells slots X hcl hsl eT N t0 hf
    rw [lawF_11] at hf
    refine Go.step (T' := T) (f' := (mkF m 20 #[.val (.int p1), .val (.int p2), .val (.int p3), .val (.int t0), .val (.int (p1 &&& (7 : Int32))), .unset, .unset, .unset, .unset, .unset, .unset, .unset] [(.int (p1 &&& (7 : Int32)))])) (fun t kt => ?_) ?_
    · show Steps p.tables e below (T.setTop (mkF m 11 #[.val (.int p1), .val (.int p2), .val (.int p3), .unset, .unset, .unset, .unset, .unset, .unset, .unset, .unset, .unset] [(.int t0)])) _
      refine XS.istoreN X.here hx rfl (hb hby at_11) rfl (l' := #[.val (.int p1), .val (.int p2), .val (.int p3), .val (.int t0), .unset, .unset, .unset, .unset, .unset, .unset, .unset, .unset]) rfl ?_
      show Steps p.tables e below (T.setTop (mkF m 12 #[.val (.int p1), .val (.int p2), .val (.int p3), .val (.int t0), .unset, .unset, .unset, .unset, .unset, .unset, .unset, .unset] [])) _
      refine XS.iloadN X.here hx rfl (hb hby at_12) rfl ?_
      show Steps p.tables e below (T.setTop (mkF m 13 #[.val (.int p1), .val (.int p2), .val (.int p3), .val (.int t0), .unset, .unset, .unset, .unset, .unset, .unset, .unset, .unset] [(.int p1)])) _
      refine XS.bipush X.here hx rfl (hb hby at_13) ?_
      show Steps p.tables e below (T.setTop (mkF m 15 #[.val (.int p1), .val (.int p2), .val (.int p3), .val (.int t0), .unset, .unset, .unset, .unset, .unset, .unset, .unset, .unset] [(.int (7 : Int32)), (.int p1)])) _
      refine XS.iand X.here hx rfl (hb hby at_15) rfl ?_
      show Steps p.tables e below (T.setTop (mkF m 16 #[.val (.int p1), .val (.int p2), .val (.int p3), .val (.int t0), .unset, .unset, .unset, .unset, .unset, .unset, .unset, .unset] [(.int (p1 &&& (7 : Int32)))])) _
      refine XS.istore X.here hx rfl (hb hby at_16) rfl (l' := #[.val (.int p1), .val (.int p2), .val (.int p3), .val (.int t0), .val (.int (p1 &&& (7 : Int32))), .unset, .unset, .unset, .unset, .unset, .unset, .unset]) rfl ?_
      show Steps p.tables e below (T.setTop (mkF m 18 #[.val (.int p1), .val (.int p2), .val (.int p3), .val (.int t0), .val (.int (p1 &&& (7 : Int32))), .unset, .unset, .unset, .unset, .unset, .unset, .unset] [])) _
      refine XS.iload X.here hx rfl (hb hby at_18) rfl ?_
      exact kt
    by_cases hc13 : (p1 &&& (7 : Int32)) = (0 : Int32)
    · rw [if_pos hc13] at hf
      refine Go.step (T' := T) (f' := (mkF m 23 #[.val (.int p1), .val (.int p2), .val (.int p3), .val (.int t0), .val (.int (p1 &&& (7 : Int32))), .unset, .unset, .unset, .unset, .unset, .unset, .unset] [])) (fun t kt => ?_) ?_
      · show Steps p.tables e below (T.setTop (mkF m 20 #[.val (.int p1), .val (.int p2), .val (.int p3), .val (.int t0), .val (.int (p1 &&& (7 : Int32))), .unset, .unset, .unset, .unset, .unset, .unset, .unset] [(.int (p1 &&& (7 : Int32)))])) _
        refine XS.ifNo X.here hx rfl (hb hby at_20) rfl ((if0 _ _).trans (teq hc13).2) ?_
        exact kt
      refine Go.step (T' := T) (f' := (mkF m 106 #[.val (.int p1), .val (.int p2), .val (.int p3), .val (.int t0), .val (.int (p1 &&& (7 : Int32))), .val (.int (13 : Int32)), .unset, .unset, .unset, .unset, .unset, .unset] [])) (fun t kt => ?_) ?_
      · show Steps p.tables e below (T.setTop (mkF m 23 #[.val (.int p1), .val (.int p2), .val (.int p3), .val (.int t0), .val (.int (p1 &&& (7 : Int32))), .unset, .unset, .unset, .unset, .unset, .unset, .unset] [])) _
        refine XS.bipush X.here hx rfl (hb hby at_23) ?_
        show Steps p.tables e below (T.setTop (mkF m 25 #[.val (.int p1), .val (.int p2), .val (.int p3), .val (.int t0), .val (.int (p1 &&& (7 : Int32))), .unset, .unset, .unset, .unset, .unset, .unset, .unset] [(.int (13 : Int32))])) _
        refine XS.istore X.here hx rfl (hb hby at_25) rfl (l' := #[.val (.int p1), .val (.int p2), .val (.int p3), .val (.int t0), .val (.int (p1 &&& (7 : Int32))), .val (.int (13 : Int32)), .unset, .unset, .unset, .unset, .unset, .unset]) rfl ?_
        show Steps p.tables e below (T.setTop (mkF m 27 #[.val (.int p1), .val (.int p2), .val (.int p3), .val (.int t0), .val (.int (p1 &&& (7 : Int32))), .val (.int (13 : Int32)), .unset, .unset, .unset, .unset, .unset, .unset] [])) _
        refine XS.goto X.here hx rfl (pc0 := 27) (pc' := 106) rfl (hb hby at_27) (by decide) (by decide) ?_
        exact kt
      exact S106 _ _ _ _ X (Nat.le_trans hcl (by decide)) (Nat.le_trans hsl (by decide)) eT N t0 (p1 &&& (7 : Int32)) (13 : Int32) hf
    · rw [if_neg hc13] at hf
      refine Go.step (T' := T) (f' := (mkF m 30 #[.val (.int p1), .val (.int p2), .val (.int p3), .val (.int t0), .val (.int (p1 &&& (7 : Int32))), .unset, .unset, .unset, .unset, .unset, .unset, .unset] [])) (fun t kt => ?_) ?_
      · show Steps p.tables e below (T.setTop (mkF m 20 #[.val (.int p1), .val (.int p2), .val (.int p3), .val (.int t0), .val (.int (p1 &&& (7 : Int32))), .unset, .unset, .unset, .unset, .unset, .unset, .unset] [(.int (p1 &&& (7 : Int32)))])) _
        refine XS.ifYes X.here hx rfl (pc0 := 20) (pc' := 30) rfl (hb hby at_20) rfl ((if0 _ _).trans (feq hc13).2) (by decide) (by decide) ?_
        exact kt
      refine Go.step (T' := T) (f' := (mkF m 33 #[.val (.int p1), .val (.int p2), .val (.int p3), .val (.int t0), .val (.int (p1 &&& (7 : Int32))), .unset, .unset, .unset, .unset, .unset, .unset, .unset] [(.int (1 : Int32)), (.int (p1 &&& (7 : Int32)))])) (fun t kt => ?_) ?_
      · show Steps p.tables e below (T.setTop (mkF m 30 #[.val (.int p1), .val (.int p2), .val (.int p3), .val (.int t0), .val (.int (p1 &&& (7 : Int32))), .unset, .unset, .unset, .unset, .unset, .unset, .unset] [])) _
        refine XS.iload X.here hx rfl (hb hby at_30) rfl ?_
        show Steps p.tables e below (T.setTop (mkF m 32 #[.val (.int p1), .val (.int p2), .val (.int p3), .val (.int t0), .val (.int (p1 &&& (7 : Int32))), .unset, .unset, .unset, .unset, .unset, .unset, .unset] [(.int (p1 &&& (7 : Int32)))])) _
        refine XS.iconst X.here hx rfl (hb hby at_32) ?_
        exact kt
      by_cases hc14 : (p1 &&& (7 : Int32)) = (1 : Int32)
      · rw [if_pos hc14] at hf
        refine Go.step (T' := T) (f' := (mkF m 36 #[.val (.int p1), .val (.int p2), .val (.int p3), .val (.int t0), .val (.int (p1 &&& (7 : Int32))), .unset, .unset, .unset, .unset, .unset, .unset, .unset] [])) (fun t kt => ?_) ?_
        · show Steps p.tables e below (T.setTop (mkF m 33 #[.val (.int p1), .val (.int p2), .val (.int p3), .val (.int t0), .val (.int (p1 &&& (7 : Int32))), .unset, .unset, .unset, .unset, .unset, .unset, .unset] [(.int (1 : Int32)), (.int (p1 &&& (7 : Int32)))])) _
          refine XS.icmpNo X.here hx rfl (hb hby at_33) rfl (teq hc14).2 ?_
          exact kt
        refine Go.step (T' := T) (f' := (mkF m 106 #[.val (.int p1), .val (.int p2), .val (.int p3), .val (.int t0), .val (.int (p1 &&& (7 : Int32))), .val (.int (10 : Int32)), .unset, .unset, .unset, .unset, .unset, .unset] [])) (fun t kt => ?_) ?_
        · show Steps p.tables e below (T.setTop (mkF m 36 #[.val (.int p1), .val (.int p2), .val (.int p3), .val (.int t0), .val (.int (p1 &&& (7 : Int32))), .unset, .unset, .unset, .unset, .unset, .unset, .unset] [])) _
          refine XS.bipush X.here hx rfl (hb hby at_36) ?_
          show Steps p.tables e below (T.setTop (mkF m 38 #[.val (.int p1), .val (.int p2), .val (.int p3), .val (.int t0), .val (.int (p1 &&& (7 : Int32))), .unset, .unset, .unset, .unset, .unset, .unset, .unset] [(.int (10 : Int32))])) _
          refine XS.istore X.here hx rfl (hb hby at_38) rfl (l' := #[.val (.int p1), .val (.int p2), .val (.int p3), .val (.int t0), .val (.int (p1 &&& (7 : Int32))), .val (.int (10 : Int32)), .unset, .unset, .unset, .unset, .unset, .unset]) rfl ?_
          show Steps p.tables e below (T.setTop (mkF m 40 #[.val (.int p1), .val (.int p2), .val (.int p3), .val (.int t0), .val (.int (p1 &&& (7 : Int32))), .val (.int (10 : Int32)), .unset, .unset, .unset, .unset, .unset, .unset] [])) _
          refine XS.goto X.here hx rfl (pc0 := 40) (pc' := 106) rfl (hb hby at_40) (by decide) (by decide) ?_
          exact kt
        exact S106 _ _ _ _ X (Nat.le_trans hcl (by decide)) (Nat.le_trans hsl (by decide)) eT N t0 (p1 &&& (7 : Int32)) (10 : Int32) hf
      · rw [if_neg hc14] at hf
        refine Go.step (T' := T) (f' := (mkF m 43 #[.val (.int p1), .val (.int p2), .val (.int p3), .val (.int t0), .val (.int (p1 &&& (7 : Int32))), .unset, .unset, .unset, .unset, .unset, .unset, .unset] [])) (fun t kt => ?_) ?_
        · show Steps p.tables e below (T.setTop (mkF m 33 #[.val (.int p1), .val (.int p2), .val (.int p3), .val (.int t0), .val (.int (p1 &&& (7 : Int32))), .unset, .unset, .unset, .unset, .unset, .unset, .unset] [(.int (1 : Int32)), (.int (p1 &&& (7 : Int32)))])) _
          refine XS.icmpYes X.here hx rfl (pc0 := 33) (pc' := 43) rfl (hb hby at_33) rfl (feq hc14).2 (by decide) (by decide) ?_
          exact kt
        refine Go.step (T' := T) (f' := (mkF m 46 #[.val (.int p1), .val (.int p2), .val (.int p3), .val (.int t0), .val (.int (p1 &&& (7 : Int32))), .unset, .unset, .unset, .unset, .unset, .unset, .unset] [(.int (2 : Int32)), (.int (p1 &&& (7 : Int32)))])) (fun t kt => ?_) ?_
        · show Steps p.tables e below (T.setTop (mkF m 43 #[.val (.int p1), .val (.int p2), .val (.int p3), .val (.int t0), .val (.int (p1 &&& (7 : Int32))), .unset, .unset, .unset, .unset, .unset, .unset, .unset] [])) _
          refine XS.iload X.here hx rfl (hb hby at_43) rfl ?_
          show Steps p.tables e below (T.setTop (mkF m 45 #[.val (.int p1), .val (.int p2), .val (.int p3), .val (.int t0), .val (.int (p1 &&& (7 : Int32))), .unset, .unset, .unset, .unset, .unset, .unset, .unset] [(.int (p1 &&& (7 : Int32)))])) _
          refine XS.iconst X.here hx rfl (hb hby at_45) ?_
          exact kt
        by_cases hc15 : (p1 &&& (7 : Int32)) = (2 : Int32)
        · rw [if_pos hc15] at hf
          refine Go.step (T' := T) (f' := (mkF m 49 #[.val (.int p1), .val (.int p2), .val (.int p3), .val (.int t0), .val (.int (p1 &&& (7 : Int32))), .unset, .unset, .unset, .unset, .unset, .unset, .unset] [])) (fun t kt => ?_) ?_
          · show Steps p.tables e below (T.setTop (mkF m 46 #[.val (.int p1), .val (.int p2), .val (.int p3), .val (.int t0), .val (.int (p1 &&& (7 : Int32))), .unset, .unset, .unset, .unset, .unset, .unset, .unset] [(.int (2 : Int32)), (.int (p1 &&& (7 : Int32)))])) _
            refine XS.icmpNo X.here hx rfl (hb hby at_46) rfl (teq hc15).2 ?_
            exact kt
          refine Go.step (T' := T) (f' := (mkF m 106 #[.val (.int p1), .val (.int p2), .val (.int p3), .val (.int t0), .val (.int (p1 &&& (7 : Int32))), .val (.int (133 : Int32)), .unset, .unset, .unset, .unset, .unset, .unset] [])) (fun t kt => ?_) ?_
          · show Steps p.tables e below (T.setTop (mkF m 49 #[.val (.int p1), .val (.int p2), .val (.int p3), .val (.int t0), .val (.int (p1 &&& (7 : Int32))), .unset, .unset, .unset, .unset, .unset, .unset, .unset] [])) _
            refine XS.sipush X.here hx rfl (hb hby at_49) ?_
            show Steps p.tables e below (T.setTop (mkF m 52 #[.val (.int p1), .val (.int p2), .val (.int p3), .val (.int t0), .val (.int (p1 &&& (7 : Int32))), .unset, .unset, .unset, .unset, .unset, .unset, .unset] [(.int (133 : Int32))])) _
            refine XS.istore X.here hx rfl (hb hby at_52) rfl (l' := #[.val (.int p1), .val (.int p2), .val (.int p3), .val (.int t0), .val (.int (p1 &&& (7 : Int32))), .val (.int (133 : Int32)), .unset, .unset, .unset, .unset, .unset, .unset]) rfl ?_
            show Steps p.tables e below (T.setTop (mkF m 54 #[.val (.int p1), .val (.int p2), .val (.int p3), .val (.int t0), .val (.int (p1 &&& (7 : Int32))), .val (.int (133 : Int32)), .unset, .unset, .unset, .unset, .unset, .unset] [])) _
            refine XS.goto X.here hx rfl (pc0 := 54) (pc' := 106) rfl (hb hby at_54) (by decide) (by decide) ?_
            exact kt
          exact S106 _ _ _ _ X (Nat.le_trans hcl (by decide)) (Nat.le_trans hsl (by decide)) eT N t0 (p1 &&& (7 : Int32)) (133 : Int32) hf
        · rw [if_neg hc15] at hf
          refine Go.step (T' := T) (f' := (mkF m 57 #[.val (.int p1), .val (.int p2), .val (.int p3), .val (.int t0), .val (.int (p1 &&& (7 : Int32))), .unset, .unset, .unset, .unset, .unset, .unset, .unset] [])) (fun t kt => ?_) ?_
          · show Steps p.tables e below (T.setTop (mkF m 46 #[.val (.int p1), .val (.int p2), .val (.int p3), .val (.int t0), .val (.int (p1 &&& (7 : Int32))), .unset, .unset, .unset, .unset, .unset, .unset, .unset] [(.int (2 : Int32)), (.int (p1 &&& (7 : Int32)))])) _
            refine XS.icmpYes X.here hx rfl (pc0 := 46) (pc' := 57) rfl (hb hby at_46) rfl (feq hc15).2 (by decide) (by decide) ?_
            exact kt
          refine Go.step (T' := T) (f' := (mkF m 60 #[.val (.int p1), .val (.int p2), .val (.int p3), .val (.int t0), .val (.int (p1 &&& (7 : Int32))), .unset, .unset, .unset, .unset, .unset, .unset, .unset] [(.int (3 : Int32)), (.int (p1 &&& (7 : Int32)))])) (fun t kt => ?_) ?_
          · show Steps p.tables e below (T.setTop (mkF m 57 #[.val (.int p1), .val (.int p2), .val (.int p3), .val (.int t0), .val (.int (p1 &&& (7 : Int32))), .unset, .unset, .unset, .unset, .unset, .unset, .unset] [])) _
            refine XS.iload X.here hx rfl (hb hby at_57) rfl ?_
            show Steps p.tables e below (T.setTop (mkF m 59 #[.val (.int p1), .val (.int p2), .val (.int p3), .val (.int t0), .val (.int (p1 &&& (7 : Int32))), .unset, .unset, .unset, .unset, .unset, .unset, .unset] [(.int (p1 &&& (7 : Int32)))])) _
            refine XS.iconst X.here hx rfl (hb hby at_59) ?_
            exact kt
          by_cases hc16 : (p1 &&& (7 : Int32)) = (3 : Int32)
          · rw [if_pos hc16] at hf
            refine Go.step (T' := T) (f' := (mkF m 63 #[.val (.int p1), .val (.int p2), .val (.int p3), .val (.int t0), .val (.int (p1 &&& (7 : Int32))), .unset, .unset, .unset, .unset, .unset, .unset, .unset] [])) (fun t kt => ?_) ?_
            · show Steps p.tables e below (T.setTop (mkF m 60 #[.val (.int p1), .val (.int p2), .val (.int p3), .val (.int t0), .val (.int (p1 &&& (7 : Int32))), .unset, .unset, .unset, .unset, .unset, .unset, .unset] [(.int (3 : Int32)), (.int (p1 &&& (7 : Int32)))])) _
              refine XS.icmpNo X.here hx rfl (hb hby at_60) rfl (teq hc16).2 ?_
              exact kt
            refine Go.step (T' := T) (f' := (mkF m 106 #[.val (.int p1), .val (.int p2), .val (.int p3), .val (.int t0), .val (.int (p1 &&& (7 : Int32))), .val (.int (8232 : Int32)), .unset, .unset, .unset, .unset, .unset, .unset] [])) (fun t kt => ?_) ?_
            · show Steps p.tables e below (T.setTop (mkF m 63 #[.val (.int p1), .val (.int p2), .val (.int p3), .val (.int t0), .val (.int (p1 &&& (7 : Int32))), .unset, .unset, .unset, .unset, .unset, .unset, .unset] [])) _
              refine XS.sipush X.here hx rfl (hb hby at_63) ?_
              show Steps p.tables e below (T.setTop (mkF m 66 #[.val (.int p1), .val (.int p2), .val (.int p3), .val (.int t0), .val (.int (p1 &&& (7 : Int32))), .unset, .unset, .unset, .unset, .unset, .unset, .unset] [(.int (8232 : Int32))])) _
              refine XS.istore X.here hx rfl (hb hby at_66) rfl (l' := #[.val (.int p1), .val (.int p2), .val (.int p3), .val (.int t0), .val (.int (p1 &&& (7 : Int32))), .val (.int (8232 : Int32)), .unset, .unset, .unset, .unset, .unset, .unset]) rfl ?_
              show Steps p.tables e below (T.setTop (mkF m 68 #[.val (.int p1), .val (.int p2), .val (.int p3), .val (.int t0), .val (.int (p1 &&& (7 : Int32))), .val (.int (8232 : Int32)), .unset, .unset, .unset, .unset, .unset, .unset] [])) _
              refine XS.goto X.here hx rfl (pc0 := 68) (pc' := 106) rfl (hb hby at_68) (by decide) (by decide) ?_
              exact kt
            exact S106 _ _ _ _ X (Nat.le_trans hcl (by decide)) (Nat.le_trans hsl (by decide)) eT N t0 (p1 &&& (7 : Int32)) (8232 : Int32) hf
          · rw [if_neg hc16] at hf
            refine Go.step (T' := T) (f' := (mkF m 71 #[.val (.int p1), .val (.int p2), .val (.int p3), .val (.int t0), .val (.int (p1 &&& (7 : Int32))), .unset, .unset, .unset, .unset, .unset, .unset, .unset] [])) (fun t kt => ?_) ?_
            · show Steps p.tables e below (T.setTop (mkF m 60 #[.val (.int p1), .val (.int p2), .val (.int p3), .val (.int t0), .val (.int (p1 &&& (7 : Int32))), .unset, .unset, .unset, .unset, .unset, .unset, .unset] [(.int (3 : Int32)), (.int (p1 &&& (7 : Int32)))])) _
              refine XS.icmpYes X.here hx rfl (pc0 := 60) (pc' := 71) rfl (hb hby at_60) rfl (feq hc16).2 (by decide) (by decide) ?_
              exact kt
            refine Go.step (T' := T) (f' := (mkF m 74 #[.val (.int p1), .val (.int p2), .val (.int p3), .val (.int t0), .val (.int (p1 &&& (7 : Int32))), .unset, .unset, .unset, .unset, .unset, .unset, .unset] [(.int (4 : Int32)), (.int (p1 &&& (7 : Int32)))])) (fun t kt => ?_) ?_
            · show Steps p.tables e below (T.setTop (mkF m 71 #[.val (.int p1), .val (.int p2), .val (.int p3), .val (.int t0), .val (.int (p1 &&& (7 : Int32))), .unset, .unset, .unset, .unset, .unset, .unset, .unset] [])) _
              refine XS.iload X.here hx rfl (hb hby at_71) rfl ?_
              show Steps p.tables e below (T.setTop (mkF m 73 #[.val (.int p1), .val (.int p2), .val (.int p3), .val (.int t0), .val (.int (p1 &&& (7 : Int32))), .unset, .unset, .unset, .unset, .unset, .unset, .unset] [(.int (p1 &&& (7 : Int32)))])) _
              refine XS.iconst X.here hx rfl (hb hby at_73) ?_
              exact kt
            by_cases hc17 : (p1 &&& (7 : Int32)) = (4 : Int32)
            · rw [if_pos hc17] at hf
              refine Go.step (T' := T) (f' := (mkF m 77 #[.val (.int p1), .val (.int p2), .val (.int p3), .val (.int t0), .val (.int (p1 &&& (7 : Int32))), .unset, .unset, .unset, .unset, .unset, .unset, .unset] [])) (fun t kt => ?_) ?_
              · show Steps p.tables e below (T.setTop (mkF m 74 #[.val (.int p1), .val (.int p2), .val (.int p3), .val (.int t0), .val (.int (p1 &&& (7 : Int32))), .unset, .unset, .unset, .unset, .unset, .unset, .unset] [(.int (4 : Int32)), (.int (p1 &&& (7 : Int32)))])) _
                refine XS.icmpNo X.here hx rfl (hb hby at_74) rfl (teq hc17).2 ?_
                exact kt
              refine Go.step (T' := T) (f' := (mkF m 106 #[.val (.int p1), .val (.int p2), .val (.int p3), .val (.int t0), .val (.int (p1 &&& (7 : Int32))), .val (.int (8233 : Int32)), .unset, .unset, .unset, .unset, .unset, .unset] [])) (fun t kt => ?_) ?_
              · show Steps p.tables e below (T.setTop (mkF m 77 #[.val (.int p1), .val (.int p2), .val (.int p3), .val (.int t0), .val (.int (p1 &&& (7 : Int32))), .unset, .unset, .unset, .unset, .unset, .unset, .unset] [])) _
                refine XS.sipush X.here hx rfl (hb hby at_77) ?_
                show Steps p.tables e below (T.setTop (mkF m 80 #[.val (.int p1), .val (.int p2), .val (.int p3), .val (.int t0), .val (.int (p1 &&& (7 : Int32))), .unset, .unset, .unset, .unset, .unset, .unset, .unset] [(.int (8233 : Int32))])) _
                refine XS.istore X.here hx rfl (hb hby at_80) rfl (l' := #[.val (.int p1), .val (.int p2), .val (.int p3), .val (.int t0), .val (.int (p1 &&& (7 : Int32))), .val (.int (8233 : Int32)), .unset, .unset, .unset, .unset, .unset, .unset]) rfl ?_
                show Steps p.tables e below (T.setTop (mkF m 82 #[.val (.int p1), .val (.int p2), .val (.int p3), .val (.int t0), .val (.int (p1 &&& (7 : Int32))), .val (.int (8233 : Int32)), .unset, .unset, .unset, .unset, .unset, .unset] [])) _
                refine XS.goto X.here hx rfl (pc0 := 82) (pc' := 106) rfl (hb hby at_82) (by decide) (by decide) ?_
                exact kt
              exact S106 _ _ _ _ X (Nat.le_trans hcl (by decide)) (Nat.le_trans hsl (by decide)) eT N t0 (p1 &&& (7 : Int32)) (8233 : Int32) hf
            · rw [if_neg hc17] at hf
              refine Go.step (T' := T) (f' := (mkF m 85 #[.val (.int p1), .val (.int p2), .val (.int p3), .val (.int t0), .val (.int (p1 &&& (7 : Int32))), .unset, .unset, .unset, .unset, .unset, .unset, .unset] [])) (fun t kt => ?_) ?_
              · show Steps p.tables e below (T.setTop (mkF m 74 #[.val (.int p1), .val (.int p2), .val (.int p3), .val (.int t0), .val (.int (p1 &&& (7 : Int32))), .unset, .unset, .unset, .unset, .unset, .unset, .unset] [(.int (4 : Int32)), (.int (p1 &&& (7 : Int32)))])) _
                refine XS.icmpYes X.here hx rfl (pc0 := 74) (pc' := 85) rfl (hb hby at_74) rfl (feq hc17).2 (by decide) (by decide) ?_
                exact kt
              refine Go.step (T' := T) (f' := (mkF m 88 #[.val (.int p1), .val (.int p2), .val (.int p3), .val (.int t0), .val (.int (p1 &&& (7 : Int32))), .unset, .unset, .unset, .unset, .unset, .unset, .unset] [(.int (5 : Int32)), (.int (p1 &&& (7 : Int32)))])) (fun t kt => ?_) ?_
              · show Steps p.tables e below (T.setTop (mkF m 85 #[.val (.int p1), .val (.int p2), .val (.int p3), .val (.int t0), .val (.int (p1 &&& (7 : Int32))), .unset, .unset, .unset, .unset, .unset, .unset, .unset] [])) _
                refine XS.iload X.here hx rfl (hb hby at_85) rfl ?_
                show Steps p.tables e below (T.setTop (mkF m 87 #[.val (.int p1), .val (.int p2), .val (.int p3), .val (.int t0), .val (.int (p1 &&& (7 : Int32))), .unset, .unset, .unset, .unset, .unset, .unset, .unset] [(.int (p1 &&& (7 : Int32)))])) _
                refine XS.iconst X.here hx rfl (hb hby at_87) ?_
                exact kt
              by_cases hc18 : (p1 &&& (7 : Int32)) = (5 : Int32)
              · rw [if_pos hc18] at hf
                refine Go.step (T' := T) (f' := (mkF m 91 #[.val (.int p1), .val (.int p2), .val (.int p3), .val (.int t0), .val (.int (p1 &&& (7 : Int32))), .unset, .unset, .unset, .unset, .unset, .unset, .unset] [])) (fun t kt => ?_) ?_
                · show Steps p.tables e below (T.setTop (mkF m 88 #[.val (.int p1), .val (.int p2), .val (.int p3), .val (.int t0), .val (.int (p1 &&& (7 : Int32))), .unset, .unset, .unset, .unset, .unset, .unset, .unset] [(.int (5 : Int32)), (.int (p1 &&& (7 : Int32)))])) _
                  refine XS.icmpNo X.here hx rfl (hb hby at_88) rfl (teq hc18).2 ?_
                  exact kt
                refine Go.step (T' := T) (f' := (mkF m 106 #[.val (.int p1), .val (.int p2), .val (.int p3), .val (.int t0), .val (.int (p1 &&& (7 : Int32))), .val (.int ((p2 &&& (255 : Int32)).toUInt32.toUInt16.toUInt32.toInt32)), .unset, .unset, .unset, .unset, .unset, .unset] [])) (fun t kt => ?_) ?_
                · show Steps p.tables e below (T.setTop (mkF m 91 #[.val (.int p1), .val (.int p2), .val (.int p3), .val (.int t0), .val (.int (p1 &&& (7 : Int32))), .unset, .unset, .unset, .unset, .unset, .unset, .unset] [])) _
                  refine XS.iloadN X.here hx rfl (hb hby at_91) rfl ?_
                  show Steps p.tables e below (T.setTop (mkF m 92 #[.val (.int p1), .val (.int p2), .val (.int p3), .val (.int t0), .val (.int (p1 &&& (7 : Int32))), .unset, .unset, .unset, .unset, .unset, .unset, .unset] [(.int p2)])) _
                  refine XS.sipush X.here hx rfl (hb hby at_92) ?_
                  show Steps p.tables e below (T.setTop (mkF m 95 #[.val (.int p1), .val (.int p2), .val (.int p3), .val (.int t0), .val (.int (p1 &&& (7 : Int32))), .unset, .unset, .unset, .unset, .unset, .unset, .unset] [(.int (255 : Int32)), (.int p2)])) _
                  refine XS.iand X.here hx rfl (hb hby at_95) rfl ?_
                  show Steps p.tables e below (T.setTop (mkF m 96 #[.val (.int p1), .val (.int p2), .val (.int p3), .val (.int t0), .val (.int (p1 &&& (7 : Int32))), .unset, .unset, .unset, .unset, .unset, .unset, .unset] [(.int (p2 &&& (255 : Int32)))])) _
                  refine XS.i2c X.here hx rfl (hb hby at_96) rfl ?_
                  show Steps p.tables e below (T.setTop (mkF m 97 #[.val (.int p1), .val (.int p2), .val (.int p3), .val (.int t0), .val (.int (p1 &&& (7 : Int32))), .unset, .unset, .unset, .unset, .unset, .unset, .unset] [(.int ((p2 &&& (255 : Int32)).toUInt32.toUInt16.toUInt32.toInt32))])) _
                  refine XS.istore X.here hx rfl (hb hby at_97) rfl (l' := #[.val (.int p1), .val (.int p2), .val (.int p3), .val (.int t0), .val (.int (p1 &&& (7 : Int32))), .val (.int ((p2 &&& (255 : Int32)).toUInt32.toUInt16.toUInt32.toInt32)), .unset, .unset, .unset, .unset, .unset, .unset]) rfl ?_
                  show Steps p.tables e below (T.setTop (mkF m 99 #[.val (.int p1), .val (.int p2), .val (.int p3), .val (.int t0), .val (.int (p1 &&& (7 : Int32))), .val (.int ((p2 &&& (255 : Int32)).toUInt32.toUInt16.toUInt32.toInt32)), .unset, .unset, .unset, .unset, .unset, .unset] [])) _
                  refine XS.goto X.here hx rfl (pc0 := 99) (pc' := 106) rfl (hb hby at_99) (by decide) (by decide) ?_
                  exact kt
                exact S106 _ _ _ _ X (Nat.le_trans hcl (by decide)) (Nat.le_trans hsl (by decide)) eT N t0 (p1 &&& (7 : Int32)) ((p2 &&& (255 : Int32)).toUInt32.toUInt16.toUInt32.toInt32) hf
              · rw [if_neg hc18] at hf
                refine Go.step (T' := T) (f' := (mkF m 102 #[.val (.int p1), .val (.int p2), .val (.int p3), .val (.int t0), .val (.int (p1 &&& (7 : Int32))), .unset, .unset, .unset, .unset, .unset, .unset, .unset] [])) (fun t kt => ?_) ?_
                · show Steps p.tables e below (T.setTop (mkF m 88 #[.val (.int p1), .val (.int p2), .val (.int p3), .val (.int t0), .val (.int (p1 &&& (7 : Int32))), .unset, .unset, .unset, .unset, .unset, .unset, .unset] [(.int (5 : Int32)), (.int (p1 &&& (7 : Int32)))])) _
                  refine XS.icmpYes X.here hx rfl (pc0 := 88) (pc' := 102) rfl (hb hby at_88) rfl (feq hc18).2 (by decide) (by decide) ?_
                  exact kt
                refine Go.step (T' := T) (f' := (mkF m 106 #[.val (.int p1), .val (.int p2), .val (.int p3), .val (.int t0), .val (.int (p1 &&& (7 : Int32))), .val (.int (p2.toUInt32.toUInt16.toUInt32.toInt32)), .unset, .unset, .unset, .unset, .unset, .unset] [])) (fun t kt => ?_) ?_
                · show Steps p.tables e below (T.setTop (mkF m 102 #[.val (.int p1), .val (.int p2), .val (.int p3), .val (.int t0), .val (.int (p1 &&& (7 : Int32))), .unset, .unset, .unset, .unset, .unset, .unset, .unset] [])) _
                  refine XS.iloadN X.here hx rfl (hb hby at_102) rfl ?_
                  show Steps p.tables e below (T.setTop (mkF m 103 #[.val (.int p1), .val (.int p2), .val (.int p3), .val (.int t0), .val (.int (p1 &&& (7 : Int32))), .unset, .unset, .unset, .unset, .unset, .unset, .unset] [(.int p2)])) _
                  refine XS.i2c X.here hx rfl (hb hby at_103) rfl ?_
                  show Steps p.tables e below (T.setTop (mkF m 104 #[.val (.int p1), .val (.int p2), .val (.int p3), .val (.int t0), .val (.int (p1 &&& (7 : Int32))), .unset, .unset, .unset, .unset, .unset, .unset, .unset] [(.int (p2.toUInt32.toUInt16.toUInt32.toInt32))])) _
                  refine XS.istore X.here hx rfl (hb hby at_104) rfl (l' := #[.val (.int p1), .val (.int p2), .val (.int p3), .val (.int t0), .val (.int (p1 &&& (7 : Int32))), .val (.int (p2.toUInt32.toUInt16.toUInt32.toInt32)), .unset, .unset, .unset, .unset, .unset, .unset]) rfl ?_
                  exact kt
                exact S106 _ _ _ _ X (Nat.le_trans hcl (by decide)) (Nat.le_trans hsl (by decide)) eT N t0 (p1 &&& (7 : Int32)) (p2.toUInt32.toUInt16.toUInt32.toInt32) hf
  refine Go.step (T' := s₁) (f' := (mkF m 3 #[.val (.int p1), .val (.int p2), .val (.int p3), .unset, .unset, .unset, .unset, .unset, .unset, .unset, .unset, .unset] [(.int (p3 &&& (1 : Int32)))])) (fun t kt => ?_) ?_
  · show Steps p.tables e below (s₁.setTop (mkF m 0 #[.val (.int p1), .val (.int p2), .val (.int p3), .unset, .unset, .unset, .unset, .unset, .unset, .unset, .unset, .unset] [])) _
    refine XS.iloadN X0.here hx rfl (hb hby at_0) rfl ?_
    show Steps p.tables e below (s₁.setTop (mkF m 1 #[.val (.int p1), .val (.int p2), .val (.int p3), .unset, .unset, .unset, .unset, .unset, .unset, .unset, .unset, .unset] [(.int p3)])) _
    refine XS.iconst X0.here hx rfl (hb hby at_1) ?_
    show Steps p.tables e below (s₁.setTop (mkF m 2 #[.val (.int p1), .val (.int p2), .val (.int p3), .unset, .unset, .unset, .unset, .unset, .unset, .unset, .unset, .unset] [(.int (1 : Int32)), (.int p3)])) _
    refine XS.iand X0.here hx rfl (hb hby at_2) rfl ?_
    exact kt
  by_cases hc19 : (p3 &&& (1 : Int32)) = (0 : Int32)
  · rw [if_pos hc19] at hf
    refine Go.step (T' := s₁) (f' := (mkF m 10 #[.val (.int p1), .val (.int p2), .val (.int p3), .unset, .unset, .unset, .unset, .unset, .unset, .unset, .unset, .unset] [])) (fun t kt => ?_) ?_
    · show Steps p.tables e below (s₁.setTop (mkF m 3 #[.val (.int p1), .val (.int p2), .val (.int p3), .unset, .unset, .unset, .unset, .unset, .unset, .unset, .unset, .unset] [(.int (p3 &&& (1 : Int32)))])) _
      refine XS.ifYes X0.here hx rfl (pc0 := 3) (pc' := 10) rfl (hb hby at_3) rfl ((if0 _ _).trans (teq hc19).1) (by decide) (by decide) ?_
      exact kt
    refine Go.step (T' := s₁) (f' := (mkF m 11 #[.val (.int p1), .val (.int p2), .val (.int p3), .unset, .unset, .unset, .unset, .unset, .unset, .unset, .unset, .unset] [(.int (0 : Int32))])) (fun t kt => ?_) ?_
    · show Steps p.tables e below (s₁.setTop (mkF m 10 #[.val (.int p1), .val (.int p2), .val (.int p3), .unset, .unset, .unset, .unset, .unset, .unset, .unset, .unset, .unset] [])) _
      refine XS.iconst X0.here hx rfl (hb hby at_10) ?_
      exact kt
    exact S11 _ _ _ _ X0 (Nat.le_trans (Nat.le_refl 0) (by decide)) (Nat.le_trans (Nat.le_refl 0) (by decide)) e0 N0 (0 : Int32) hf
  · rw [if_neg hc19] at hf
    refine Go.step (T' := s₁) (f' := (mkF m 6 #[.val (.int p1), .val (.int p2), .val (.int p3), .unset, .unset, .unset, .unset, .unset, .unset, .unset, .unset, .unset] [])) (fun t kt => ?_) ?_
    · show Steps p.tables e below (s₁.setTop (mkF m 3 #[.val (.int p1), .val (.int p2), .val (.int p3), .unset, .unset, .unset, .unset, .unset, .unset, .unset, .unset, .unset] [(.int (p3 &&& (1 : Int32)))])) _
      refine XS.ifNo X0.here hx rfl (hb hby at_3) rfl ((if0 _ _).trans (feq hc19).1) ?_
      exact kt
    refine Go.step (T' := s₁) (f' := (mkF m 11 #[.val (.int p1), .val (.int p2), .val (.int p3), .unset, .unset, .unset, .unset, .unset, .unset, .unset, .unset, .unset] [(.int (1 : Int32))])) (fun t kt => ?_) ?_
    · show Steps p.tables e below (s₁.setTop (mkF m 6 #[.val (.int p1), .val (.int p2), .val (.int p3), .unset, .unset, .unset, .unset, .unset, .unset, .unset, .unset, .unset] [])) _
      refine XS.iconst X0.here hx rfl (hb hby at_6) ?_
      show Steps p.tables e below (s₁.setTop (mkF m 7 #[.val (.int p1), .val (.int p2), .val (.int p3), .unset, .unset, .unset, .unset, .unset, .unset, .unset, .unset, .unset] [(.int (1 : Int32))])) _
      refine XS.goto X0.here hx rfl (pc0 := 7) (pc' := 11) rfl (hb hby at_7) (by decide) (by decide) ?_
      exact kt
    exact S11 _ _ _ _ X0 (Nat.le_trans (Nat.le_refl 0) (by decide)) (Nat.le_trans (Nat.le_refl 0) (by decide)) e0 N0 (1 : Int32) hf
theorem own_106 (x3 x4 x5 : Int32) (h : x3 = 0 ∨ x3 = 1) : lawF_106 x3 x4 x5 = 1 := by
  unfold lawF_106 lawF_155 endsL
  by_cases a : x5 = 13
  · subst a; rcases h with rfl | rfl <;> decide
  by_cases b : x5 = 10
  · subst b; rcases h with rfl | rfl <;> decide
  by_cases c : x5 = 133
  · subst c; rcases h with rfl | rfl <;> decide
  by_cases d : x5 = 8232
  · subst d; rcases h with rfl | rfl <;> decide
  · rcases h with rfl | rfl <;> simp [a, b, c, d]
theorem own_law (a b c : Int32) : lawF a b c = 1 := by
  unfold lawF lawF_11
  simp [own_106]
set_option maxRecDepth 65536 in
set_option maxHeartbeats 40000000 in
theorem comes_1 {Post : Tables → Env → Array Value → State → Outcome → State → Prop} (hpost : ∀ tb e args s v u, (limb_1_1.after args s (.returned v) u = true ∧ limb_1_2.after args s (.returned v) u = true ∧ True) → FrameEnd s (.returned v) u (Jvm.fieldLocs frame_1_writes args s ++ Jvm.arrayLocs frame_1_arrays args s ++ Jvm.staticLocs frame_1_statics s) 0 0 → Post tb e args s (.returned v) u) :
    ArmFor flags0 classFile x code maxLocals ret World_1 tables_1 room_1 Calls_1 rest_1 Pre_1 Post := by
  intro l hfl _ _ p e ha hc hk s m args below hf hA hF happ hP
  obtain ⟨hcalls, hrest, hpre⟩ := hP
  obtain ⟨-, -, -, hnamed, -, -, -, hat⟩ := (Spec.applies_iff hf).mp happ
  obtain ⟨hg, hn⟩ := and_e (Cond.before_iff.mp (show (Jvm.Cond.and given_1 narrow_1).before args s = true from hpre))
  obtain ⟨g1, g2⟩ := and_e hg
  obtain ⟨g3, g4⟩ := and_e g2
  obtain ⟨g5, g6⟩ := and_e g4
  obtain ⟨w0, w1, w2, rfl⟩ : ∃ w0 w1 w2 : Value, args = #[w0, w1, w2] := by
    have hs : args.size = 3 := by simpa [Cond.value, given_1] using g1
    obtain ⟨L⟩ := args
    match L, hs with
    | [w0, w1, w2], _ => exact ⟨w0, w1, w2, rfl⟩
  have hw := fun d (hd : d ∈ tables_1) => atoms_spec (ws := Jvm.Cond.code x code maxLocals ret :: tables_1) hat d (List.mem_cons_of_mem _ hd)
  obtain ⟨i0, ei0⟩ := is_v g3
  obtain rfl : w0 = (.int i0) := Option.some.inj ei0
  obtain ⟨i1, ei1⟩ := is_v g5
  obtain rfl : w1 = (.int i1) := Option.some.inj ei1
  obtain ⟨i2, ei2⟩ := is_v g6
  obtain rfl : w2 = (.int i2) := Option.some.inj ei2
  obtain ⟨n, o, h1, h2, h3, _, L, rfl, ⟨hv, N, -⟩, hq⟩ := rm_0 l s _ hw tables_1 i0 i1 i2  s.heap s.heap.size (Nat.le_refl _)  p e ha hc hk s m _ below hf ((Spec.applies_iff_loose hf).mp happ).1 ⟨rfl, State.Warmed39.refl s, rfl⟩ trivial
  rw [own_law] at hv
  subst hv
  refine ⟨n, _, h1, h2, h3, hpost _ _ _ _ _ _ ⟨Cond.after_iff.mpr rfl, Cond.after_iff.mpr (eq_i res_at (Term.int_eval (1)) rfl), trivial⟩ ⟨hq.1, hq.2.1, (hq.2.2.sift fun y hy => Or.inr (N y hy)).mono (by decide) (by decide)⟩⟩
theorem main_1_1 : Claimed_1_1 := comes_1 fun _ _ _ _ _ _ h hF => ⟨h.1, hF⟩
theorem main_1_2 : Claimed_1_2 := comes_1 fun _ _ _ _ _ _ h hF => ⟨h.2.1, hF⟩
end Jvm.Pilot.@@N@@
namespace Jvm.Pilot.@@N@@
open Jvm Jvm.ClassFile Sem Op Lib Jvm.Free Jvm.Stand Jvm.Pilot.@@N@@.Jvm.D
/-! MADE BY PROGRAM (witnessworld.py) out of the Statement's table words and the real class files: 9 classes; the members and pool entries that the words name. The judged class is class 1, her method 1. -/
namespace start1
open Jvm.ClassFile
def u (s : String) : CpInfo := .utf8 (stringToUtf16 s)
/-- a pool by its gaps: so many unusable entries, then the entry; so many at the end -/
def gap : Nat → List CpInfo → List CpInfo
  | 0, r => r
  | n + 1, r => .unusable :: gap n r
def poolList (es : List (Nat × CpInfo)) (last : Nat) : List CpInfo := es.foldr (fun e r => gap e.1 (e.2 :: r)) (gap last [])
def pool (es : List (Nat × CpInfo)) (last : Nat) : Array CpInfo := ⟨poolList es last⟩
def fileOf (pool : Array CpInfo) (this : Nat) (attrs : Array Attribute := #[]) (ms : Array MethodInfo := #[]) (fl : Nat := 33) (sup : Nat := 0) (ifs : Array Nat := #[]) (fds : Array FieldInfo := #[]) : ClassFile where
  minorVersion := 0
  majorVersion := 65
  constantPool := pool
  accessFlags := fl
  thisClass := this
  superClass := sup
  interfaces := ifs
  fields := fds
  methods := ms
  attributes := attrs
def plain (name : String) (sup : Option ClassId) : Class where
  name := name
  kind := .ordinary
  loader := none
  accessFlags := 33
  super := sup
  interfaces := #[]
  cf := none
  fields := #[]
  methods := #[]
  instanceTypes := #[]
  staticTypes := #[]
  resolved := #[]
  callSites := []
  init := .initialized
  statics := none
  mirror := none

def pool0 : Array CpInfo := pool [(5, u "<init>"), (0, u "()V"), (1, .class_ 10), (1, u "java/lang/Object")] 113

def k0m0 : Method := { name := "<init>", desc := "()V", sig := { parameters := [], returnType := none }, accessFlags := 1, code := none }
/-- java/lang/Object -/
def k0 : Class := { plain "java/lang/Object" none with
  accessFlags := 33
  interfaces := #[]
  cf := some (fileOf pool0 8 #[] #[{ accessFlags := 1, nameIndex := 5, descriptorIndex := 6, attributes := #[] }] 33 0 #[] #[])
  fields := #[]
  methods := #[k0m0]
  instanceTypes := #[]
  staticTypes := #[]
  resolved := Array.replicate 124 none
  statics := none }

def pool1 : Array CpInfo := pool [(2, .class_ 4), (1, u "java/lang/Object"), (0, u "<init>"), (0, u "()V"), (0, .methodref 8 9), (0, .class_ 10), (0, .nameAndType 11 12), (0, u "com/example/plumbline/plumbline/io/TextLines"), (0, u "endsLine"), (0, u "(CZ)Z"), (0, .class_ 14), (0, u "com/example/plumbline/plumbline/io/TextLinesEndsLinePinLaw"), (2, u "law"), (0, u "(III)Z")] 3

def k1m0 : Method := { name := "<init>", desc := "()V", sig := { parameters := [], returnType := none }, accessFlags := 1, code := none }
def k1c1 : Code := { maxStack := 2, maxLocals := 12, code := code, exceptionTable := #[], attributes := #[] }
def k1m1 : Method := { name := "law", desc := "(III)Z", sig := { parameters := [.int, .int, .int], returnType := some .boolean }, accessFlags := 9, code := some k1c1 }
/-- com/example/plumbline/plumbline/io/TextLinesEndsLinePinLaw -/
def k1 : Class := { plain "com/example/plumbline/plumbline/io/TextLinesEndsLinePinLaw" (some 0) with
  accessFlags := 49
  interfaces := #[]
  cf := some (fileOf pool1 13 #[] #[{ accessFlags := 1, nameIndex := 5, descriptorIndex := 6, attributes := #[] }, { accessFlags := 9, nameIndex := 17, descriptorIndex := 18, attributes := #[] }] 49 2 #[] #[])
  fields := #[]
  methods := #[k1m0, k1m1]
  instanceTypes := #[]
  staticTypes := #[]
  resolved := Array.replicate 22 none
  statics := none }

def pool2 : Array CpInfo := pool [(2, .class_ 4), (1, u "java/lang/Object"), (3, .class_ 10), (1, u "com/example/plumbline/plumbline/io/TextLines"), (0, u "line"), (0, u "J"), (2, u "column"), (2, u "unicodeLineEnds"), (0, u "Z"), (13, u "afterCr"), (2, u "endsLine"), (0, u "(CZ)Z"), (5, u "JOINED"), (0, u "I"), (2, u "NEXT_LINE"), (0, u "C"), (1, u "LINE_SEPARATOR")] 7

def k2c0 : Code := { maxStack := 2, maxLocals := 2, code := prog_26_method_3_code, exceptionTable := #[], attributes := #[] }
def k2m0 : Method := { name := "endsLine", desc := "(CZ)Z", sig := { parameters := [.char, .boolean], returnType := some .boolean }, accessFlags := 8, code := some k2c0 }
/-- com/example/plumbline/plumbline/io/TextLines -/
def k2 : Class := { plain "com/example/plumbline/plumbline/io/TextLines" (some 0) with
  accessFlags := 48
  interfaces := #[]
  cf := some (fileOf pool2 8 #[] #[{ accessFlags := 8, nameIndex := 36, descriptorIndex := 37, attributes := #[] }] 48 2 #[] #[{ accessFlags := 24, nameIndex := 43, descriptorIndex := 44, attributes := #[] }, { accessFlags := 26, nameIndex := 47, descriptorIndex := 48, attributes := #[] }, { accessFlags := 26, nameIndex := 50, descriptorIndex := 48, attributes := #[] }, { accessFlags := 18, nameIndex := 18, descriptorIndex := 19, attributes := #[] }, { accessFlags := 2, nameIndex := 11, descriptorIndex := 12, attributes := #[] }, { accessFlags := 2, nameIndex := 15, descriptorIndex := 12, attributes := #[] }, { accessFlags := 2, nameIndex := 33, descriptorIndex := 19, attributes := #[] }])
  fields := #[{ name := "JOINED", type := .int, accessFlags := 24, slot := 0, constantValue := 0 }, { name := "NEXT_LINE", type := .char, accessFlags := 26, slot := 1, constantValue := 0 }, { name := "LINE_SEPARATOR", type := .char, accessFlags := 26, slot := 2, constantValue := 0 }, { name := "unicodeLineEnds", type := .boolean, accessFlags := 18, slot := 0, constantValue := 0 }, { name := "line", type := .long, accessFlags := 2, slot := 1, constantValue := 0 }, { name := "column", type := .long, accessFlags := 2, slot := 2, constantValue := 0 }, { name := "afterCr", type := .boolean, accessFlags := 2, slot := 3, constantValue := 0 }]
  methods := #[k2m0]
  instanceTypes := #[.boolean, .long, .long, .boolean]
  staticTypes := #[.int, .char, .char]
  resolved := Array.replicate 58 none
  statics := none }

def pool3 : Array CpInfo := pool [(1, u "java/lang/Cloneable"), (0, .class_ 1), (0, u "java/lang/Object"), (0, .class_ 3)] 3

/-- java/lang/Cloneable -/
def k3 : Class := { plain "java/lang/Cloneable" (some 0) with
  accessFlags := 1537
  interfaces := #[]
  cf := some (fileOf pool3 2 #[] #[] 1537 4 #[] #[])
  fields := #[]
  methods := #[]
  instanceTypes := #[]
  staticTypes := #[]
  resolved := Array.replicate 8 none
  statics := none }

def pool4 : Array CpInfo := pool [(1, u "java/io/Serializable"), (0, .class_ 1), (0, u "java/lang/Object"), (0, .class_ 3)] 3

/-- java/io/Serializable -/
def k4 : Class := { plain "java/io/Serializable" (some 0) with
  accessFlags := 1537
  interfaces := #[]
  cf := some (fileOf pool4 2 #[] #[] 1537 4 #[] #[])
  fields := #[]
  methods := #[]
  instanceTypes := #[]
  staticTypes := #[]
  resolved := Array.replicate 8 none
  statics := none }

/-- the primitive byte -/
def k5 : Class := { plain "byte" none with kind := .primitive 'B', accessFlags := 0x411 }
/-- [B -/
def k6 : Class := { plain "[B" (some 0) with kind := .array 5 .byte, interfaces := #[3, 4], accessFlags := 1041 }

/-- the primitive int -/
def k7 : Class := { plain "int" none with kind := .primitive 'I', accessFlags := 0x411 }
/-- [I -/
def k8 : Class := { plain "[I" (some 0) with kind := .array 7 .int, interfaces := #[3, 4], accessFlags := 1041 }

def heap : Heap := #[]
def classes : Array Class := #[k0, k1, k2, k3, k4, k5, k6, k7, k8]
def interned : List (Array UInt16 × Addr) := []
def slotsUsed : Nat := 0
def theMethod : MethodId := ⟨1, 1⟩
def args0 : Array Value := #[.int 5, .int 3, .int 1]
def aboutOver (below : List Frame) : State where
  vm := { classes := classes, interned := interned.toArray }
  heap := heap
  slotsUsed := slotsUsed
  threads := #[{ frames := .invoking theMethod args0 :: below }]
def below0 : List Frame := [.native { method := ⟨0, 0⟩, args := #[] }]
def about1 : State := aboutOver below0
def p0 : Program := .bare "" "" ""
def e0 : Env := launch0.env 0 0 0
theorem w_frames : about1.frames = Frame.invoking theMethod args0 :: below0 := rfl
set_option maxRecDepth 65536 in
theorem w_args : argsFit about1.vm theMethod args0 = true := by decide +kernel
set_option maxRecDepth 65536 in
theorem w_heap : heapFits about1 = true := by decide +kernel
set_option maxRecDepth 65536 in
theorem w_runnable : about1.curStatus? = some .runnable := by decide +kernel
set_option maxRecDepth 65536 in
theorem w_alone : about1.alone = true := by decide +kernel
set_option maxRecDepth 65536 in
theorem w_named : about1.methodNamed? x = some theMethod := by decide +kernel
set_option maxRecDepth 65536 in
theorem w_hears : about1.hears theMethod below0 = true := by decide +kernel
set_option maxRecDepth 65536 in
theorem w_ripe : about1.ripe theMethod args0 below0 = true := by decide +kernel
theorem w_running : about1.status = .running := rfl
set_option maxRecDepth 65536 in
theorem w_room : about1.hasRoom e0.platform room_1 = true :=
  launch0.hasRoom_least _ room_1 (by decide +kernel) (by decide +kernel) (by decide +kernel) (by decide +kernel) (by decide +kernel) (by decide +kernel)
theorem allAtoms_all (ts : List Jvm.Cond) (a : Array Jvm.Value) (st : Jvm.State) : (allAtoms ts).before a st = ts.all (fun c => c.before a st) := by
  induction ts with
  | nil => rfl
  | cons c t ih =>
    show (Jvm.Cond.and c (allAtoms t)).before a st = _
    rw [Jvm.Cond.before_and, ih, List.all_cons]
def words1 : List Jvm.Cond := Jvm.Cond.code x code maxLocals ret :: tables_1
/-- a 'code' word, met by the world's own term for the bytes: nothing is compared byte by byte -/
theorem code_word {y : MethodName} {bytes : ByteArray} {mx : Nat} {rt : Option FieldType} {a : Array Value} {s : State} {m : MethodId} {meth : Method} {c : Code} (h1 : s.methodNamed? y = some m) (h2 : s.vm.method? m = some meth) (h3 : meth.code = some c) (h4 : c.code = bytes)
    (h5 : (c.maxLocals == mx && c.exceptionTable.isEmpty && decide (c.maxStack ≤ mostOperands) && decide (meth.sig.returnType = rt) && !meth.locks && decide (parseMethodDescriptor y.desc = some meth.sig)) = true) : (Jvm.Cond.code y bytes mx rt).before a s = true := by
  simp only [Bool.and_eq_true, beq_iff_eq, Bool.not_eq_true', decide_eq_true_eq] at h5
  obtain ⟨⟨⟨⟨⟨g1, g2⟩, g3⟩, g4⟩, g5⟩, g6⟩ := h5
  simp [Cond.before, Cond.holds, Cond.value, h1, h2, h3, h4, g1, g2, g3, g4, g5, g6]
def isCode : Jvm.Cond → Bool
  | .code _ _ _ _ => true
  | _ => false
theorem all_split {L : List Jvm.Cond} {P : Jvm.Cond → Bool} (h1 : L.all (fun c => isCode c || P c) = true) (h2 : ∀ c ∈ L.filter isCode, P c = true) : L.all P = true := by
  refine List.all_eq_true.mpr fun c hc => ?_
  have h := List.all_eq_true.mp h1 c hc
  rcases Bool.eq_false_or_eq_true (isCode c) with hi | hi
  · exact h2 c (List.mem_filter.mpr ⟨hc, hi⟩)
  · simpa [hi] using h
set_option maxRecDepth 65536 in
theorem w_c0 : (Jvm.Cond.code x code maxLocals ret).before args0 about1 = true := code_word (m := ⟨1, 1⟩) (meth := k1m1) (c := k1c1) (by decide +kernel) rfl rfl rfl (by decide +kernel)
set_option maxRecDepth 65536 in
theorem w_c1 : (Jvm.Cond.code ({ cls := "com/example/plumbline/plumbline/io/TextLines", name := "endsLine", desc := "(CZ)Z" } : Jvm.MethodName) prog_26_method_3_code (2 : Nat) (Option.some Jvm.ClassFile.FieldType.boolean)).before args0 about1 = true := code_word (m := ⟨2, 0⟩) (meth := k2m0) (c := k2c0) (by decide +kernel) rfl rfl rfl (by decide +kernel)
def codes1 : List Jvm.Cond := [Jvm.Cond.code x code maxLocals ret, Jvm.Cond.code ({ cls := "com/example/plumbline/plumbline/io/TextLines", name := "endsLine", desc := "(CZ)Z" } : Jvm.MethodName) prog_26_method_3_code (2 : Nat) (Option.some Jvm.ClassFile.FieldType.boolean)]
set_option maxRecDepth 65536 in
theorem codes_eq : words1.filter isCode = codes1 := rfl
theorem w_codes : ∀ c ∈ words1.filter isCode, c.before args0 about1 = true := by
  rw [codes_eq]
  intro c hc
  simp only [codes1, List.mem_cons, List.not_mem_nil, or_false] at hc
  rcases hc with rfl | rfl
  · exact w_c0
  · exact w_c1
set_option maxRecDepth 65536 in
theorem w_t1 : words1.all (fun c => isCode c || c.before args0 about1) = true := by decide +kernel
theorem w_tables : (allAtoms (Jvm.Cond.code x code maxLocals ret :: tables_1)).before args0 about1 = true := by
  rw [allAtoms_all]
  show words1.all (fun c => c.before args0 about1) = true
  refine all_split ?_ w_codes
  rw [w_t1]
set_option maxRecDepth 65536 in
theorem w_case : (Jvm.Cond.and given_1 narrow_1).before args0 about1 = true := by decide +kernel
theorem w_applies : (headSpec (Jvm.Cond.code x code maxLocals ret :: tables_1) room_1).applies x e0.platform about1 = true :=
  (Spec.applies_iff w_frames).mpr ⟨w_running, w_runnable, w_alone, w_named, w_hears, w_ripe, w_room, w_tables⟩
theorem atStart : AtStart classFile x code maxLocals ret World_1 tables_1 room_1 Calls_1 rest_1 Pre_1 launch0 p0 e0 about1 theMethod args0 below0 :=
  ⟨lists_1, trivial, launch0.admits_env _ _ _, launch0.least_env, fairChoices_fair.cas, fairChoices_fair.clock, w_frames, w_args, w_heap, w_applies, trivial, trivial, w_case⟩
end start1
theorem witness_1 : WitnessClaimed_1 := ⟨start1.p0, start1.e0, start1.about1, start1.theMethod, start1.args0, start1.below0, start1.atStart⟩
end Jvm.Pilot.@@N@@
