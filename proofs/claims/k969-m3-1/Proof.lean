import JvmDerived
import JvmDerived.Pilot.@@N@@Statement
import JvmDerived.Pilot.@@N@@Code
set_option linter.unusedVariables false
set_option linter.unusedSimpArgs false
namespace Jvm.RoadKit
open Sem ClassFile Op Lib Jvm.Stand Jvm.Free Jvm.LawKit
section New
variable {p : Program} {l : Launch} {e : Env} {R : Room} {s : State} {m : MethodId} {args : Array Value} {below : List Frame} {meth : Method} {c : Code} {T : State} {locs : List Loc} {cells slots : Nat}
theorem retI (X : Stand p l e R s m args below meth c T locs cells slots) (hx : p.tables.exec = Jvm.exec) {pc : Nat} {Ls : Array Slot} {z : Int32} {rest : List Value} (hret : meth.sig.returnType = some .int) (hd : decode c.code pc = .ok (.ireturn, 1)) {fs : List Frame}
    (hl : ∀ (f : JFrame) (acts : List Action), f.method = m → f.locked = none → f.entered = [] → (doReturn e (T.setTop f) acts (some (.int z))).1 = T.setFrames fs) : Steps p.tables e below (T.setTop (mkF m pc Ls (.int z :: rest))) (T.setFrames fs) := by
  have hm' : T.vm.method? m = some meth := X.method'
  have hn : narrow .int (.int z) = .int z := rfl
  show Steps p.tables e below (T.setTop { method := m, pc := pc, locals := Ls, stack := _ :: rest, locked := none }) _
  jvm_step X.here [X.here.top, hx, hd, hm', hret, hn]
  first | (intro acts; rw [hl _ acts rfl rfl rfl]) | rw [hl _ _ rfl rfl rfl]
  exact Steps.refl _
/-- from here the walk comes to a good end -/
def Go (p : Program) (e : Env) (below : List Frame) (s : State) (Q : Option Value → Heap → List Loc → Prop) (C S : Nat) (T : State) (f : JFrame) : Prop :=
  ∃ s₂ o, Steps p.tables e below (T.setTop f) s₂ ∧ s₂.status = .running ∧ Ended s₂ below o ∧ ∃ v L, o = .returned v ∧ Q v s₂.heap L ∧ FrameEnd s o s₂ L C S
theorem Go.step {Q : Option Value → Heap → List Loc → Prop} {C S : Nat} {T' : State} {f f' : JFrame} (k : ∀ t, Steps p.tables e below (T'.setTop f') t → Steps p.tables e below (T.setTop f) t) (h : Go p e below s Q C S T' f') : Go p e below s Q C S T f := by
  obtain ⟨s₂, o, h1, h2⟩ := h
  exact ⟨s₂, o, k _ h1, h2⟩
theorem Go.cast {Q : Option Value → Heap → List Loc → Prop} {C S : Nat} {f f' : JFrame} (q : f = f') (h : Go p e below s Q C S T f') : Go p e below s Q C S T f := q ▸ h
theorem Go.fin (X : Stand p l e R s m args below meth c T locs cells slots) {Q : Option Value → Heap → List Loc → Prop} {C S : Nat} {f : JFrame} {v : Option Value} (hv : meth.sig.returnType = none → v = none) (hl : meth.locks = false) (hQ : Q v T.heap locs) (hc : cells ≤ C) (hs : slots ≤ S)
    (k : ∀ fs, (∀ (f : JFrame) (acts : List Action), f.method = m → f.locked = none → f.entered = [] → (doReturn e (T.setTop f) acts v).1 = T.setFrames fs) → Steps p.tables e below (T.setTop f) (T.setFrames fs)) : Go p e below s Q C S T f := by
  obtain ⟨fs, hr, hrun, hended, hW, hsame⟩ := X.leave (v := v) hv hl
  exact ⟨_, _, k fs hr, hrun, hended, v, locs, rfl, hQ, ⟨_, rfl⟩, hW, hsame.mono hc hs⟩
theorem own_lrem (x y : Int64) : x - (x / y) * y = x % y := lrem_mod x y
theorem own_irem (x y : Int32) : x - (x / y) * y = x % y := by
  apply Int32.toInt_inj.mp
  have h1 := Int32.le_toInt (x % y)
  have h2 := Int32.toInt_lt (x % y)
  rw [Int32.toInt_sub, Int32.toInt_mul, Int32.toInt_div, Int.bmod_mul_bmod, Int.sub_bmod_bmod, Int.mul_comm (x.toInt.tdiv y.toInt), ← Int.tmod_def, ← Int32.toInt_mod]
  exact Int.bmod_eq_of_le_mul_two (by omega) (by omega)
theorem own_fin {x : Int32} {n : Nat} (h0 : 0 ≤ x.toInt) (h1 : x.toInt < n) (h2 : n ≤ 2147483648) : ∃ k : Fin n, x = Int32.ofNat k.val := by
  refine ⟨⟨x.toInt.toNat, by omega⟩, Int32.toInt_inj.mp ?_⟩
  have q : (x.toInt.toNat).toInt32.toInt = x.toInt.toNat := len_toInt (by omega)
  show x.toInt = (x.toInt.toNat).toInt32.toInt
  rw [q]; omega
theorem own_i2c {x : Int32} (h0 : 0 ≤ x.toInt) (h1 : x.toInt < 65536) : x.toUInt32.toUInt16.toUInt32.toInt32 = x := Int32.toInt_inj.mp (by have := c_i2c x; omega)
theorem own_rem (x y : Int32) (h0 : 0 ≤ x.toInt) : (x % y).toInt = x.toInt % y.toInt := by rw [Int32.toInt_mod, (tr _ _).1 h0]
theorem own_remL (x y : Int64) (h0 : 0 ≤ x.toInt) : (x % y).toInt = x.toInt % y.toInt := by rw [Int64.toInt_mod, (tr _ _).1 h0]
theorem own_div (x y : Int32) (h0 : 0 ≤ x.toInt) (h1 : 0 < y.toInt) : (x / y).toInt = x.toInt / y.toInt := (c_idiv x y _ rfl (fun q => by rw [q] at h1; exact absurd h1 (by decide))).1 h0
theorem own_add {x y : Int32} (h0 : -2147483648 ≤ x.toInt + y.toInt) (h1 : x.toInt + y.toInt < 2147483648) : (x + y).toInt = x.toInt + y.toInt := by have := c_iadd x y; have := rng32 (x + y); omega
theorem own_sub {x y : Int32} (h0 : -2147483648 ≤ x.toInt - y.toInt) (h1 : x.toInt - y.toInt < 2147483648) : (x - y).toInt = x.toInt - y.toInt := by have := c_isub x y; have := rng32 (x - y); omega
theorem own_mul {x y : Int32} (h0 : -2147483648 ≤ x.toInt * y.toInt) (h1 : x.toInt * y.toInt < 2147483648) : (x * y).toInt = x.toInt * y.toInt := by have := c_imul x y; have := rng32 (x * y); omega
theorem own_nat {j : Int32} (h0 : 0 ≤ j.toInt) : (j.toNatClampNeg : Int) = j.toInt := by simp only [Int32.toNatClampNeg]; omega
end New
end Jvm.RoadKit
namespace Jvm.Pilot.@@N@@
open Jvm Jvm.ClassFile Sem Op Lib Jvm.Free Jvm.Stand Jvm.LawKit Jvm.RoadKit Bundle Jvm.Pilot.@@N@@.Jvm.D
theorem d1_0 : decode prog_19_method_2_code 0 = .ok (.iload_n 1, 1) := by decide +kernel
theorem d1_1 : decode prog_19_method_2_code 1 = .ok (.iload_n 2, 1) := by decide +kernel
theorem d1_2 : decode prog_19_method_2_code 2 = .ok (.if_icmp .le 18, 3) := by decide +kernel
theorem d1_5 : decode prog_19_method_2_code 5 = .ok (.iconst 0, 1) := by decide +kernel
theorem d1_6 : decode prog_19_method_2_code 6 = .ok (.istore_n 3, 1) := by decide +kernel
theorem d1_7 : decode prog_19_method_2_code 7 = .ok (.iload_n 1, 1) := by decide +kernel
theorem d1_8 : decode prog_19_method_2_code 8 = .ok (.iload_n 2, 1) := by decide +kernel
theorem d1_9 : decode prog_19_method_2_code 9 = .ok (.idiv, 1) := by decide +kernel
theorem d1_10 : decode prog_19_method_2_code 10 = .ok (.iconst 1, 1) := by decide +kernel
theorem d1_11 : decode prog_19_method_2_code 11 = .ok (.isub, 1) := by decide +kernel
theorem d1_12 : decode prog_19_method_2_code 12 = .ok (.istore 4, 2) := by decide +kernel
theorem d1_14 : decode prog_19_method_2_code 14 = .ok (.iconst 1, 1) := by decide +kernel
theorem d1_15 : decode prog_19_method_2_code 15 = .ok (.istore 5, 2) := by decide +kernel
theorem d1_17 : decode prog_19_method_2_code 17 = .ok (.goto 15, 3) := by decide +kernel
theorem d1_20 : decode prog_19_method_2_code 20 = .ok (.iconst 1, 1) := by decide +kernel
theorem d1_21 : decode prog_19_method_2_code 21 = .ok (.iload_n 2, 1) := by decide +kernel
theorem d1_22 : decode prog_19_method_2_code 22 = .ok (.iload_n 1, 1) := by decide +kernel
theorem d1_23 : decode prog_19_method_2_code 23 = .ok (.idiv, 1) := by decide +kernel
theorem d1_24 : decode prog_19_method_2_code 24 = .ok (.isub, 1) := by decide +kernel
theorem d1_25 : decode prog_19_method_2_code 25 = .ok (.istore_n 3, 1) := by decide +kernel
theorem d1_26 : decode prog_19_method_2_code 26 = .ok (.iconst 0, 1) := by decide +kernel
theorem d1_27 : decode prog_19_method_2_code 27 = .ok (.istore 4, 2) := by decide +kernel
theorem d1_29 : decode prog_19_method_2_code 29 = .ok (.iconst (-1), 1) := by decide +kernel
theorem d1_30 : decode prog_19_method_2_code 30 = .ok (.istore 5, 2) := by decide +kernel
theorem d1_32 : decode prog_19_method_2_code 32 = .ok (.iload_n 0, 1) := by decide +kernel
theorem d1_33 : decode prog_19_method_2_code 33 = .ok (.iload_n 3, 1) := by decide +kernel
theorem d1_34 : decode prog_19_method_2_code 34 = .ok (.if_icmp .lt 9, 3) := by decide +kernel
theorem d1_37 : decode prog_19_method_2_code 37 = .ok (.iload_n 0, 1) := by decide +kernel
theorem d1_38 : decode prog_19_method_2_code 38 = .ok (.iload 4, 2) := by decide +kernel
theorem d1_40 : decode prog_19_method_2_code 40 = .ok (.if_icmp .le 11, 3) := by decide +kernel
theorem d1_51 : decode prog_19_method_2_code 51 = .ok (.iload 5, 2) := by decide +kernel
theorem d1_53 : decode prog_19_method_2_code 53 = .ok (.iload_n 0, 1) := by decide +kernel
theorem d1_54 : decode prog_19_method_2_code 54 = .ok (.imul, 1) := by decide +kernel
theorem d1_55 : decode prog_19_method_2_code 55 = .ok (.ireturn, 1) := by decide +kernel
theorem pn_0 : plainName "com/example/laneweave/laneweave/Parts" = true := by first | (simp [plainName, overriddenIn]; done) | decide +kernel
theorem ef_sel (m : MethodId) (x0 : Int32) (x1 : Int32) (x2 : Int32) : entryFrame m #[(.int x0), (.int x1), (.int x2)] 6 = mkF m 0 #[.val (.int x0), .val (.int x1), .val (.int x2), .unset, .unset, .unset] [] := by first | (simp [entryFrame, mkF, argsToLocals, Value.category]; done) | rfl
def sel (p1 : Int32) (p2 : Int32) (p3 : Int32) : Int32 := (if p3 < p2 then ((1 : Int32) * p1) else ((-1 : Int32) * p1))
def Qsel (RES : Int32) (h0 : Heap) (n0 : Nat) (v : Option Value) (h : Heap) (L : List Loc) : Prop := v = some (.int RES) ∧ Fr n0 L ∧ h = h0
set_option maxRecDepth 65536 in
set_option maxHeartbeats 40000000 in
theorem rm_sel (l : Launch) (Z : State) (a0 : Array Value) (hw : ∀ d ∈ tables_1, d.before a0 Z = true) (ws : List Jvm.Cond) (p1 : Int32) (p2 : Int32) (p3 : Int32)  (h0 : Heap) (n0 : Nat) (Z0 : n0 ≤ h0.size) (hz3 : ¬ (p3 = (0 : Int32))) (hz2 : ¬ (p2 = (0 : Int32))) (hA : p3 < p2 → ¬ (p1 < (0 : Int32)) ∧ ¬ (((p2 / p3) - (1 : Int32)) < p1)) (hB : ¬ p3 < p2 → ¬ (p1 < ((1 : Int32) - (p3 / p2))) ∧ ¬ ((0 : Int32) < p1)) :
    MetFree l (⟨"com/example/laneweave/laneweave/Parts", "select", "(III)I"⟩ : MethodName) (head1 (Jvm.Cond.code (⟨"com/example/laneweave/laneweave/Parts", "select", "(III)I"⟩ : MethodName) prog_19_method_2_code 6 (some .int) :: ws) ({ frames := 0, cells := 0, slots := 0, locals := 0 } : Room)) (fun a U => a = #[(.int p1), (.int p2), (.int p3)] ∧ Z.Warmed39 U.vm ∧ U.heap = h0) (fun _ _ _ _ _ => True) (fun _ U o U' => ∃ v L, o = .returned v ∧ Qsel (sel p1 p2 p3) h0 n0 v U'.heap L ∧ FrameEnd U o U' L ({ frames := 0, cells := 0, slots := 0, locals := 0 } : Room).cells ({ frames := 0, cells := 0, slots := 0, locals := 0 } : Room).slots) := by
  refine MetFree.of_bodySF (plainFor_of_name pn_0) hisR ?_
  intro p e s m args below meth c s₁ Bd hml0 hP hK
  obtain ⟨rfl, hZ, hh⟩ := hP
  have hx := Bd.exec
  have hby := Bd.bytes
  have hml : c.maxLocals = 6 := hml0
  have hown : s.vm.findClass "com/example/laneweave/laneweave/Parts" = some m.cls := findClass_of_methodNamed Bd.named
  have hnm := (name_of_methodNamed Bd.named Bd.method).1
  have X0 : Stand p l e ({ frames := 0, cells := 0, slots := 0, locals := 0 } : Room) s m #[(.int p1), (.int p2), (.int p3)] below meth c s₁ [] 0 0 := Stand.of_body Bd
  have e0 : s₁.heap = h0 := by rw [← hh, Bd.state]; rfl
  have N0 := Fr.nil n0
  obtain ⟨RES, hf⟩ : ∃ z, z = sel p1 p2 p3 := ⟨_, rfl⟩
  rw [← hf]
  rw [sel] at hf
  suffices HGO : Go p e below s (Qsel RES h0 n0) ({ frames := 0, cells := 0, slots := 0, locals := 0 } : Room).cells ({ frames := 0, cells := 0, slots := 0, locals := 0 } : Room).slots s₁ (mkF m 0 #[.val (.int p1), .val (.int p2), .val (.int p3), .unset, .unset, .unset] []) from Go.cast (ef_sel m p1 p2 p3) HGO
  refine Go.step (T' := s₁) (f' := (mkF m 2 #[.val (.int p1), .val (.int p2), .val (.int p3), .unset, .unset, .unset] [(.int p3), (.int p2)])) (fun t kt => ?_) ?_
  · show Steps p.tables e below (s₁.setTop (mkF m 0 #[.val (.int p1), .val (.int p2), .val (.int p3), .unset, .unset, .unset] [])) _
    refine XS.iloadN X0.here hx rfl (hb hby d1_0) rfl ?_
    show Steps p.tables e below (s₁.setTop (mkF m 1 #[.val (.int p1), .val (.int p2), .val (.int p3), .unset, .unset, .unset] [(.int p2)])) _
    refine XS.iloadN X0.here hx rfl (hb hby d1_1) rfl ?_
    exact kt
  by_cases hc1 : p3 < p2
  · rw [if_pos hc1] at hf
    refine Go.step (T' := s₁) (f' := (mkF m 5 #[.val (.int p1), .val (.int p2), .val (.int p3), .unset, .unset, .unset] [])) (fun t kt => ?_) ?_
    · show Steps p.tables e below (s₁.setTop (mkF m 2 #[.val (.int p1), .val (.int p2), .val (.int p3), .unset, .unset, .unset] [(.int p3), (.int p2)])) _
      refine XS.icmpNo X0.here hx rfl (hb hby d1_2) rfl (tlt hc1).2.2.2 ?_
      exact kt
    refine Go.step (T' := s₁) (f' := (mkF m 9 #[.val (.int p1), .val (.int p2), .val (.int p3), .val (.int (0 : Int32)), .unset, .unset] [(.int p3), (.int p2)])) (fun t kt => ?_) ?_
    · show Steps p.tables e below (s₁.setTop (mkF m 5 #[.val (.int p1), .val (.int p2), .val (.int p3), .unset, .unset, .unset] [])) _
      refine XS.iconst X0.here hx rfl (hb hby d1_5) ?_
      show Steps p.tables e below (s₁.setTop (mkF m 6 #[.val (.int p1), .val (.int p2), .val (.int p3), .unset, .unset, .unset] [(.int (0 : Int32))])) _
      refine XS.istoreN X0.here hx rfl (hb hby d1_6) rfl (l' := #[.val (.int p1), .val (.int p2), .val (.int p3), .val (.int (0 : Int32)), .unset, .unset]) rfl ?_
      show Steps p.tables e below (s₁.setTop (mkF m 7 #[.val (.int p1), .val (.int p2), .val (.int p3), .val (.int (0 : Int32)), .unset, .unset] [])) _
      refine XS.iloadN X0.here hx rfl (hb hby d1_7) rfl ?_
      show Steps p.tables e below (s₁.setTop (mkF m 8 #[.val (.int p1), .val (.int p2), .val (.int p3), .val (.int (0 : Int32)), .unset, .unset] [(.int p2)])) _
      refine XS.iloadN X0.here hx rfl (hb hby d1_8) rfl ?_
      exact kt
    have hnz9 : ¬ (p3 = (0 : Int32)) := hz3
    refine Go.step (T' := s₁) (f' := (mkF m 34 #[.val (.int p1), .val (.int p2), .val (.int p3), .val (.int (0 : Int32)), .val (.int ((p2 / p3) - (1 : Int32))), .val (.int (1 : Int32))] [(.int (0 : Int32)), (.int p1)])) (fun t kt => ?_) ?_
    · show Steps p.tables e below (s₁.setTop (mkF m 9 #[.val (.int p1), .val (.int p2), .val (.int p3), .val (.int (0 : Int32)), .unset, .unset] [(.int p3), (.int p2)])) _
      refine XS.idiv X0.here hx rfl (hb hby d1_9) rfl hnz9 ?_
      show Steps p.tables e below (s₁.setTop (mkF m 10 #[.val (.int p1), .val (.int p2), .val (.int p3), .val (.int (0 : Int32)), .unset, .unset] [(.int (p2 / p3))])) _
      refine XS.iconst X0.here hx rfl (hb hby d1_10) ?_
      show Steps p.tables e below (s₁.setTop (mkF m 11 #[.val (.int p1), .val (.int p2), .val (.int p3), .val (.int (0 : Int32)), .unset, .unset] [(.int (1 : Int32)), (.int (p2 / p3))])) _
      refine XS.isub X0.here hx rfl (hb hby d1_11) rfl ?_
      show Steps p.tables e below (s₁.setTop (mkF m 12 #[.val (.int p1), .val (.int p2), .val (.int p3), .val (.int (0 : Int32)), .unset, .unset] [(.int ((p2 / p3) - (1 : Int32)))])) _
      refine XS.istore X0.here hx rfl (hb hby d1_12) rfl (l' := #[.val (.int p1), .val (.int p2), .val (.int p3), .val (.int (0 : Int32)), .val (.int ((p2 / p3) - (1 : Int32))), .unset]) rfl ?_
      show Steps p.tables e below (s₁.setTop (mkF m 14 #[.val (.int p1), .val (.int p2), .val (.int p3), .val (.int (0 : Int32)), .val (.int ((p2 / p3) - (1 : Int32))), .unset] [])) _
      refine XS.iconst X0.here hx rfl (hb hby d1_14) ?_
      show Steps p.tables e below (s₁.setTop (mkF m 15 #[.val (.int p1), .val (.int p2), .val (.int p3), .val (.int (0 : Int32)), .val (.int ((p2 / p3) - (1 : Int32))), .unset] [(.int (1 : Int32))])) _
      refine XS.istore X0.here hx rfl (hb hby d1_15) rfl (l' := #[.val (.int p1), .val (.int p2), .val (.int p3), .val (.int (0 : Int32)), .val (.int ((p2 / p3) - (1 : Int32))), .val (.int (1 : Int32))]) rfl ?_
      show Steps p.tables e below (s₁.setTop (mkF m 17 #[.val (.int p1), .val (.int p2), .val (.int p3), .val (.int (0 : Int32)), .val (.int ((p2 / p3) - (1 : Int32))), .val (.int (1 : Int32))] [])) _
      refine XS.goto X0.here hx rfl (pc0 := 17) (pc' := 32) rfl (hb hby d1_17) (by decide) (by decide) ?_
      show Steps p.tables e below (s₁.setTop (mkF m 32 #[.val (.int p1), .val (.int p2), .val (.int p3), .val (.int (0 : Int32)), .val (.int ((p2 / p3) - (1 : Int32))), .val (.int (1 : Int32))] [])) _
      refine XS.iloadN X0.here hx rfl (hb hby d1_32) rfl ?_
      show Steps p.tables e below (s₁.setTop (mkF m 33 #[.val (.int p1), .val (.int p2), .val (.int p3), .val (.int (0 : Int32)), .val (.int ((p2 / p3) - (1 : Int32))), .val (.int (1 : Int32))] [(.int p1)])) _
      refine XS.iloadN X0.here hx rfl (hb hby d1_33) rfl ?_
      exact kt
    have hd2 : ¬ (p1 < (0 : Int32)) := (by first | exact (hA (by assumption)).1 | exact (hB (by assumption)).1)
    refine Go.step (T' := s₁) (f' := (mkF m 40 #[.val (.int p1), .val (.int p2), .val (.int p3), .val (.int (0 : Int32)), .val (.int ((p2 / p3) - (1 : Int32))), .val (.int (1 : Int32))] [(.int ((p2 / p3) - (1 : Int32))), (.int p1)])) (fun t kt => ?_) ?_
    · show Steps p.tables e below (s₁.setTop (mkF m 34 #[.val (.int p1), .val (.int p2), .val (.int p3), .val (.int (0 : Int32)), .val (.int ((p2 / p3) - (1 : Int32))), .val (.int (1 : Int32))] [(.int (0 : Int32)), (.int p1)])) _
      refine XS.icmpNo X0.here hx rfl (hb hby d1_34) rfl (flt hd2).1 ?_
      show Steps p.tables e below (s₁.setTop (mkF m 37 #[.val (.int p1), .val (.int p2), .val (.int p3), .val (.int (0 : Int32)), .val (.int ((p2 / p3) - (1 : Int32))), .val (.int (1 : Int32))] [])) _
      refine XS.iloadN X0.here hx rfl (hb hby d1_37) rfl ?_
      show Steps p.tables e below (s₁.setTop (mkF m 38 #[.val (.int p1), .val (.int p2), .val (.int p3), .val (.int (0 : Int32)), .val (.int ((p2 / p3) - (1 : Int32))), .val (.int (1 : Int32))] [(.int p1)])) _
      refine XS.iload X0.here hx rfl (hb hby d1_38) rfl ?_
      exact kt
    have hd3 : ¬ (((p2 / p3) - (1 : Int32)) < p1) := (by first | exact (hA (by assumption)).2 | exact (hB (by assumption)).2)
    refine Go.step (T' := s₁) (f' := (mkF m 55 #[.val (.int p1), .val (.int p2), .val (.int p3), .val (.int (0 : Int32)), .val (.int ((p2 / p3) - (1 : Int32))), .val (.int (1 : Int32))] [(.int ((1 : Int32) * p1))])) (fun t kt => ?_) ?_
    · show Steps p.tables e below (s₁.setTop (mkF m 40 #[.val (.int p1), .val (.int p2), .val (.int p3), .val (.int (0 : Int32)), .val (.int ((p2 / p3) - (1 : Int32))), .val (.int (1 : Int32))] [(.int ((p2 / p3) - (1 : Int32))), (.int p1)])) _
      refine XS.icmpYes X0.here hx rfl (pc0 := 40) (pc' := 51) rfl (hb hby d1_40) rfl (flt hd3).2.2.2 (by decide) (by decide) ?_
      show Steps p.tables e below (s₁.setTop (mkF m 51 #[.val (.int p1), .val (.int p2), .val (.int p3), .val (.int (0 : Int32)), .val (.int ((p2 / p3) - (1 : Int32))), .val (.int (1 : Int32))] [])) _
      refine XS.iload X0.here hx rfl (hb hby d1_51) rfl ?_
      show Steps p.tables e below (s₁.setTop (mkF m 53 #[.val (.int p1), .val (.int p2), .val (.int p3), .val (.int (0 : Int32)), .val (.int ((p2 / p3) - (1 : Int32))), .val (.int (1 : Int32))] [(.int (1 : Int32))])) _
      refine XS.iloadN X0.here hx rfl (hb hby d1_53) rfl ?_
      show Steps p.tables e below (s₁.setTop (mkF m 54 #[.val (.int p1), .val (.int p2), .val (.int p3), .val (.int (0 : Int32)), .val (.int ((p2 / p3) - (1 : Int32))), .val (.int (1 : Int32))] [(.int p1), (.int (1 : Int32))])) _
      refine XS.imul X0.here hx rfl (hb hby d1_54) rfl ?_
      exact kt
    refine Go.fin X0 (v := some (.int ((1 : Int32) * p1))) (fun h => by rw [Bd.returns] at h; cases h) Bd.notSynchronized ?_ (Nat.le_trans (Nat.le_refl 0) (by decide)) (Nat.le_trans (Nat.le_refl 0) (by decide)) (fun fs hr => retI X0 hx Bd.returns (hb hby d1_55) hr)
    · exact ⟨by rw [hf], N0, e0⟩
  · rw [if_neg hc1] at hf
    refine Go.step (T' := s₁) (f' := (mkF m 20 #[.val (.int p1), .val (.int p2), .val (.int p3), .unset, .unset, .unset] [])) (fun t kt => ?_) ?_
    · show Steps p.tables e below (s₁.setTop (mkF m 2 #[.val (.int p1), .val (.int p2), .val (.int p3), .unset, .unset, .unset] [(.int p3), (.int p2)])) _
      refine XS.icmpYes X0.here hx rfl (pc0 := 2) (pc' := 20) rfl (hb hby d1_2) rfl (flt hc1).2.2.2 (by decide) (by decide) ?_
      exact kt
    refine Go.step (T' := s₁) (f' := (mkF m 23 #[.val (.int p1), .val (.int p2), .val (.int p3), .unset, .unset, .unset] [(.int p2), (.int p3), (.int (1 : Int32))])) (fun t kt => ?_) ?_
    · show Steps p.tables e below (s₁.setTop (mkF m 20 #[.val (.int p1), .val (.int p2), .val (.int p3), .unset, .unset, .unset] [])) _
      refine XS.iconst X0.here hx rfl (hb hby d1_20) ?_
      show Steps p.tables e below (s₁.setTop (mkF m 21 #[.val (.int p1), .val (.int p2), .val (.int p3), .unset, .unset, .unset] [(.int (1 : Int32))])) _
      refine XS.iloadN X0.here hx rfl (hb hby d1_21) rfl ?_
      show Steps p.tables e below (s₁.setTop (mkF m 22 #[.val (.int p1), .val (.int p2), .val (.int p3), .unset, .unset, .unset] [(.int p3), (.int (1 : Int32))])) _
      refine XS.iloadN X0.here hx rfl (hb hby d1_22) rfl ?_
      exact kt
    have hnz23 : ¬ (p2 = (0 : Int32)) := hz2
    refine Go.step (T' := s₁) (f' := (mkF m 34 #[.val (.int p1), .val (.int p2), .val (.int p3), .val (.int ((1 : Int32) - (p3 / p2))), .val (.int (0 : Int32)), .val (.int (-1 : Int32))] [(.int ((1 : Int32) - (p3 / p2))), (.int p1)])) (fun t kt => ?_) ?_
    · show Steps p.tables e below (s₁.setTop (mkF m 23 #[.val (.int p1), .val (.int p2), .val (.int p3), .unset, .unset, .unset] [(.int p2), (.int p3), (.int (1 : Int32))])) _
      refine XS.idiv X0.here hx rfl (hb hby d1_23) rfl hnz23 ?_
      show Steps p.tables e below (s₁.setTop (mkF m 24 #[.val (.int p1), .val (.int p2), .val (.int p3), .unset, .unset, .unset] [(.int (p3 / p2)), (.int (1 : Int32))])) _
      refine XS.isub X0.here hx rfl (hb hby d1_24) rfl ?_
      show Steps p.tables e below (s₁.setTop (mkF m 25 #[.val (.int p1), .val (.int p2), .val (.int p3), .unset, .unset, .unset] [(.int ((1 : Int32) - (p3 / p2)))])) _
      refine XS.istoreN X0.here hx rfl (hb hby d1_25) rfl (l' := #[.val (.int p1), .val (.int p2), .val (.int p3), .val (.int ((1 : Int32) - (p3 / p2))), .unset, .unset]) rfl ?_
      show Steps p.tables e below (s₁.setTop (mkF m 26 #[.val (.int p1), .val (.int p2), .val (.int p3), .val (.int ((1 : Int32) - (p3 / p2))), .unset, .unset] [])) _
      refine XS.iconst X0.here hx rfl (hb hby d1_26) ?_
      show Steps p.tables e below (s₁.setTop (mkF m 27 #[.val (.int p1), .val (.int p2), .val (.int p3), .val (.int ((1 : Int32) - (p3 / p2))), .unset, .unset] [(.int (0 : Int32))])) _
      refine XS.istore X0.here hx rfl (hb hby d1_27) rfl (l' := #[.val (.int p1), .val (.int p2), .val (.int p3), .val (.int ((1 : Int32) - (p3 / p2))), .val (.int (0 : Int32)), .unset]) rfl ?_
      show Steps p.tables e below (s₁.setTop (mkF m 29 #[.val (.int p1), .val (.int p2), .val (.int p3), .val (.int ((1 : Int32) - (p3 / p2))), .val (.int (0 : Int32)), .unset] [])) _
      refine XS.iconst X0.here hx rfl (hb hby d1_29) ?_
      show Steps p.tables e below (s₁.setTop (mkF m 30 #[.val (.int p1), .val (.int p2), .val (.int p3), .val (.int ((1 : Int32) - (p3 / p2))), .val (.int (0 : Int32)), .unset] [(.int (-1 : Int32))])) _
      refine XS.istore X0.here hx rfl (hb hby d1_30) rfl (l' := #[.val (.int p1), .val (.int p2), .val (.int p3), .val (.int ((1 : Int32) - (p3 / p2))), .val (.int (0 : Int32)), .val (.int (-1 : Int32))]) rfl ?_
      show Steps p.tables e below (s₁.setTop (mkF m 32 #[.val (.int p1), .val (.int p2), .val (.int p3), .val (.int ((1 : Int32) - (p3 / p2))), .val (.int (0 : Int32)), .val (.int (-1 : Int32))] [])) _
      refine XS.iloadN X0.here hx rfl (hb hby d1_32) rfl ?_
      show Steps p.tables e below (s₁.setTop (mkF m 33 #[.val (.int p1), .val (.int p2), .val (.int p3), .val (.int ((1 : Int32) - (p3 / p2))), .val (.int (0 : Int32)), .val (.int (-1 : Int32))] [(.int p1)])) _
      refine XS.iloadN X0.here hx rfl (hb hby d1_33) rfl ?_
      exact kt
    have hd4 : ¬ (p1 < ((1 : Int32) - (p3 / p2))) := (by first | exact (hA (by assumption)).1 | exact (hB (by assumption)).1)
    refine Go.step (T' := s₁) (f' := (mkF m 40 #[.val (.int p1), .val (.int p2), .val (.int p3), .val (.int ((1 : Int32) - (p3 / p2))), .val (.int (0 : Int32)), .val (.int (-1 : Int32))] [(.int (0 : Int32)), (.int p1)])) (fun t kt => ?_) ?_
    · show Steps p.tables e below (s₁.setTop (mkF m 34 #[.val (.int p1), .val (.int p2), .val (.int p3), .val (.int ((1 : Int32) - (p3 / p2))), .val (.int (0 : Int32)), .val (.int (-1 : Int32))] [(.int ((1 : Int32) - (p3 / p2))), (.int p1)])) _
      refine XS.icmpNo X0.here hx rfl (hb hby d1_34) rfl (flt hd4).1 ?_
      show Steps p.tables e below (s₁.setTop (mkF m 37 #[.val (.int p1), .val (.int p2), .val (.int p3), .val (.int ((1 : Int32) - (p3 / p2))), .val (.int (0 : Int32)), .val (.int (-1 : Int32))] [])) _
      refine XS.iloadN X0.here hx rfl (hb hby d1_37) rfl ?_
      show Steps p.tables e below (s₁.setTop (mkF m 38 #[.val (.int p1), .val (.int p2), .val (.int p3), .val (.int ((1 : Int32) - (p3 / p2))), .val (.int (0 : Int32)), .val (.int (-1 : Int32))] [(.int p1)])) _
      refine XS.iload X0.here hx rfl (hb hby d1_38) rfl ?_
      exact kt
    have hd5 : ¬ ((0 : Int32) < p1) := (by first | exact (hA (by assumption)).2 | exact (hB (by assumption)).2)
    refine Go.step (T' := s₁) (f' := (mkF m 55 #[.val (.int p1), .val (.int p2), .val (.int p3), .val (.int ((1 : Int32) - (p3 / p2))), .val (.int (0 : Int32)), .val (.int (-1 : Int32))] [(.int ((-1 : Int32) * p1))])) (fun t kt => ?_) ?_
    · show Steps p.tables e below (s₁.setTop (mkF m 40 #[.val (.int p1), .val (.int p2), .val (.int p3), .val (.int ((1 : Int32) - (p3 / p2))), .val (.int (0 : Int32)), .val (.int (-1 : Int32))] [(.int (0 : Int32)), (.int p1)])) _
      refine XS.icmpYes X0.here hx rfl (pc0 := 40) (pc' := 51) rfl (hb hby d1_40) rfl (flt hd5).2.2.2 (by decide) (by decide) ?_
      show Steps p.tables e below (s₁.setTop (mkF m 51 #[.val (.int p1), .val (.int p2), .val (.int p3), .val (.int ((1 : Int32) - (p3 / p2))), .val (.int (0 : Int32)), .val (.int (-1 : Int32))] [])) _
      refine XS.iload X0.here hx rfl (hb hby d1_51) rfl ?_
      show Steps p.tables e below (s₁.setTop (mkF m 53 #[.val (.int p1), .val (.int p2), .val (.int p3), .val (.int ((1 : Int32) - (p3 / p2))), .val (.int (0 : Int32)), .val (.int (-1 : Int32))] [(.int (-1 : Int32))])) _
      refine XS.iloadN X0.here hx rfl (hb hby d1_53) rfl ?_
      show Steps p.tables e below (s₁.setTop (mkF m 54 #[.val (.int p1), .val (.int p2), .val (.int p3), .val (.int ((1 : Int32) - (p3 / p2))), .val (.int (0 : Int32)), .val (.int (-1 : Int32))] [(.int p1), (.int (-1 : Int32))])) _
      refine XS.imul X0.here hx rfl (hb hby d1_54) rfl ?_
      exact kt
    refine Go.fin X0 (v := some (.int ((-1 : Int32) * p1))) (fun h => by rw [Bd.returns] at h; cases h) Bd.notSynchronized ?_ (Nat.le_trans (Nat.le_refl 0) (by decide)) (Nat.le_trans (Nat.le_refl 0) (by decide)) (fun fs hr => retI X0 hx Bd.returns (hb hby d1_55) hr)
    · exact ⟨by rw [hf], N0, e0⟩
theorem own_sm (a : Int32) : 1 ≤ (((a &&& (2147483647 : Int32)) % (2147483647 : Int32)) + (1 : Int32)).toInt := by
  have h := c_and a 2147483647 (by decide)
  have k : (2147483647 : Int32).toInt = 2147483647 := by decide
  have k1 : (1 : Int32).toInt = 1 := by decide
  have h2 := own_rem (a &&& 2147483647) 2147483647 (by omega)
  rw [k] at h2
  rw [own_add (by omega) (by omega)]
  omega
theorem own_nz {x : Int32} (h : 1 ≤ x.toInt) : ¬ (x = (0 : Int32)) := fun q => by rw [q] at h; exact absurd h (by decide)
theorem own_q (x : Int32) (h : 1 ≤ x.toInt) : ((2147483647 : Int32) / x).toInt = 2147483647 / x.toInt ∧ 1 ≤ 2147483647 / x.toInt ∧ x.toInt * (2147483647 / x.toInt) ≤ 2147483647 := by
  have k : (2147483647 : Int32).toInt = 2147483647 := by decide
  have hx := rng32 x
  refine ⟨by rw [own_div _ _ (by omega) (by omega), k], ?_, Int.mul_ediv_self_le (by omega)⟩
  exact (Int.le_ediv_iff_mul_le (by omega)).mpr (by omega)
theorem own_m (b x : Int32) (h : 1 ≤ x.toInt) : 1 ≤ (((b &&& (2147483647 : Int32)) % ((2147483647 : Int32) / x)) + (1 : Int32)).toInt ∧ x.toInt * (((b &&& (2147483647 : Int32)) % ((2147483647 : Int32) / x)) + (1 : Int32)).toInt ≤ 2147483647 := by
  have hb := c_and b 2147483647 (by decide)
  have k : (2147483647 : Int32).toInt = 2147483647 := by decide
  have k1 : (1 : Int32).toInt = 1 := by decide
  obtain ⟨q1, q2, q3⟩ := own_q x h
  have r := own_rem (b &&& 2147483647) (2147483647 / x) (by omega)
  rw [q1] at r
  have r0 : 0 ≤ ((b &&& 2147483647) % (2147483647 / x)).toInt := by rw [r]; exact Int.emod_nonneg _ (by omega)
  have r1 : ((b &&& 2147483647) % (2147483647 / x)).toInt < 2147483647 / x.toInt := by rw [r]; exact Int.emod_lt_of_pos _ (by omega)
  have hq : 2147483647 / x.toInt ≤ 2147483647 := by
    have := rng32 ((2147483647 : Int32) / x)
    omega
  rw [own_add (by omega) (by omega), k1]
  refine ⟨by omega, Int.le_trans (Int.mul_le_mul_of_nonneg_left (by omega) (by omega)) q3⟩
theorem own_k (c y : Int32) (h : 1 ≤ y.toInt) : 0 ≤ ((c &&& (2147483647 : Int32)) % y).toInt ∧ ((c &&& (2147483647 : Int32)) % y).toInt < y.toInt := by
  have hb := c_and c 2147483647 (by decide)
  rw [own_rem _ _ hb.1]
  exact ⟨Int.emod_nonneg _ (by omega), Int.emod_lt_of_pos _ (by omega)⟩
theorem own_l (x y : Int32) (hs : 1 ≤ x.toInt) (hm : 1 ≤ y.toInt ∧ x.toInt * y.toInt ≤ 2147483647) : (x * y).toInt = x.toInt * y.toInt := by
  have : 0 ≤ x.toInt * y.toInt := Int.mul_nonneg (by omega) (by omega)
  exact own_mul (by omega) (by omega)
theorem own_km (y : Int32) (h : 1 ≤ y.toInt) : 0 ≤ (y - (1 : Int32)).toInt ∧ (y - (1 : Int32)).toInt < y.toInt := by
  have k1 : (1 : Int32).toInt = 1 := by decide
  have := rng32 y
  rw [own_sub (by omega) (by omega)]; omega
theorem own_dv (x y z : Int32) (hs : 1 ≤ x.toInt) (hm : 1 ≤ y.toInt) (hz : z.toInt = x.toInt * y.toInt) : (z / x).toInt = y.toInt := by
  have : 0 ≤ x.toInt * y.toInt := Int.mul_nonneg (by omega) (by omega)
  rw [own_div _ _ (by omega) (by omega), hz]
  exact Int.mul_ediv_cancel_left _ (by omega)
theorem own_pos (x y z : Int32) (hs : 1 ≤ x.toInt) (hm : 1 ≤ y.toInt) (hz : z.toInt = x.toInt * y.toInt) : x.toInt ≤ z.toInt := by
  rw [hz]
  have := Int.mul_le_mul_of_nonneg_left hm (show 0 ≤ x.toInt by omega)
  omega
theorem own_one (x y z : Int32) (hs : 1 ≤ x.toInt) (hm : 1 ≤ y.toInt) (hz : z.toInt = x.toInt * y.toInt) (h : ¬ x < z) : y.toInt = 1 := by
  rw [Int32.lt_iff_toInt_lt, hz] at h
  apply Classical.byContradiction
  intro q
  have := Int.mul_le_mul_of_nonneg_left (show 2 ≤ y.toInt by omega) (show 0 ≤ x.toInt by omega)
  omega
theorem own_A1 (x y z k : Int32) (hs : 1 ≤ x.toInt) (hm : 1 ≤ y.toInt ∧ x.toInt * y.toInt ≤ 2147483647) (hz : z.toInt = x.toInt * y.toInt) (hk : 0 ≤ k.toInt ∧ k.toInt < y.toInt) : x < z → ¬ (k < (0 : Int32)) ∧ ¬ (((z / x) - (1 : Int32)) < k) := by
  intro _
  have d := own_dv x y z hs hm.1 hz
  have k1 : (1 : Int32).toInt = 1 := by decide
  have k0 : (0 : Int32).toInt = 0 := by decide
  have ry := rng32 y
  rw [Int32.lt_iff_toInt_lt, Int32.lt_iff_toInt_lt, own_sub (by omega) (by omega)]
  omega
theorem own_B1 (x y z k : Int32) (hs : 1 ≤ x.toInt) (hm : 1 ≤ y.toInt ∧ x.toInt * y.toInt ≤ 2147483647) (hz : z.toInt = x.toInt * y.toInt) (hk : 0 ≤ k.toInt ∧ k.toInt < y.toInt) : ¬ x < z → ¬ (k < ((1 : Int32) - (x / z))) ∧ ¬ ((0 : Int32) < k) := by
  intro q
  have y1 := own_one x y z hs hm.1 hz q
  have k1 : (1 : Int32).toInt = 1 := by decide
  have k0 : (0 : Int32).toInt = 0 := by decide
  have zx : z = x := Int32.toInt_inj.mp (by rw [hz, y1]; omega)
  have e : (x / z).toInt = 1 := by rw [zx, own_div _ _ (by omega) (by omega)]; exact Int.ediv_self (by omega)
  rw [Int32.lt_iff_toInt_lt, Int32.lt_iff_toInt_lt, own_sub (by omega) (by omega)]
  omega
theorem own_v1 (x y z k : Int32) (hs : 1 ≤ x.toInt) (hm : 1 ≤ y.toInt ∧ x.toInt * y.toInt ≤ 2147483647) (hz : z.toInt = x.toInt * y.toInt) (hk : 0 ≤ k.toInt ∧ k.toInt < y.toInt) : (sel k z x) = k := by
  unfold sel
  split
  · exact Int32.one_mul k
  · rename_i q
    have y1 := own_one x y z hs hm.1 hz q
    have : k = 0 := Int32.toInt_inj.mp (by have k0 : (0 : Int32).toInt = 0 := by decide
                                           omega)
    rw [this]; decide
theorem own_ng (k : Int32) (h : 0 ≤ k.toInt) : (-k).toInt = -k.toInt := by
  have := c_ineg k; have := rng32 k; have := rng32 (-k); omega
theorem own_A2 (x y z k : Int32) (hs : 1 ≤ x.toInt) (hm : 1 ≤ y.toInt ∧ x.toInt * y.toInt ≤ 2147483647) (hz : z.toInt = x.toInt * y.toInt) : z < x → ¬ ((-k) < (0 : Int32)) ∧ ¬ (((x / z) - (1 : Int32)) < (-k)) := by
  intro q
  have := own_pos x y z hs hm.1 hz
  rw [Int32.lt_iff_toInt_lt] at q
  omega
theorem own_B2 (x y z k : Int32) (hs : 1 ≤ x.toInt) (hm : 1 ≤ y.toInt ∧ x.toInt * y.toInt ≤ 2147483647) (hz : z.toInt = x.toInt * y.toInt) (hk : 0 ≤ k.toInt ∧ k.toInt < y.toInt) : ¬ z < x → ¬ ((-k) < ((1 : Int32) - (z / x))) ∧ ¬ ((0 : Int32) < (-k)) := by
  intro _
  have d := own_dv x y z hs hm.1 hz
  have n := own_ng k hk.1
  have k1 : (1 : Int32).toInt = 1 := by decide
  have k0 : (0 : Int32).toInt = 0 := by decide
  have ry := rng32 y
  rw [Int32.lt_iff_toInt_lt, Int32.lt_iff_toInt_lt, own_sub (by omega) (by omega)]
  omega
theorem own_v2 (x y z k : Int32) (hs : 1 ≤ x.toInt) (hm : 1 ≤ y.toInt ∧ x.toInt * y.toInt ≤ 2147483647) (hz : z.toInt = x.toInt * y.toInt) (hk : 0 ≤ k.toInt) : (sel (-k) x z) = k := by
  have := own_pos x y z hs hm.1 hz
  unfold sel
  rw [if_neg (by rw [Int32.lt_iff_toInt_lt]; omega)]
  apply Int32.toInt_inj.mp
  have n := own_ng k hk
  have km : (-1 : Int32).toInt = -1 := by decide
  have rk := rng32 k
  rw [own_mul (by rw [km, n]; omega) (by rw [km, n]; omega), km, n]
  omega
theorem pd_0 : parseMethodDescriptor "(III)I" = some ⟨[.int, .int, .int], some .int⟩ := by decide +kernel
theorem pn_1 : plainName "com/example/laneweave/laneweave/PartsSelectPinLaw" = true := by first | (simp [plainName, overriddenIn]; done) | decide +kernel
theorem ef_0 (m : MethodId) (x0 : Int32) (x1 : Int32) (x2 : Int32) (x3 : Int32) : entryFrame m #[(.int x0), (.int x1), (.int x2), (.int x3)] maxLocals = mkF m 0 #[.val (.int x0), .val (.int x1), .val (.int x2), .val (.int x3), .unset, .unset, .unset, .unset, .unset, .unset, .unset] [] := by first | (simp [entryFrame, mkF, argsToLocals, Value.category, maxLocals]; done) | rfl
def Q0 (Z : State) (p1 : Int32) (p2 : Int32) (p3 : Int32) (p4 : Int32)  (h0 : Heap) (n0 : Nat) (v : Option Value) (h : Heap) (L : List Loc) : Prop := v = some (.int (1 : Int32)) ∧ Fr n0 L
set_option maxRecDepth 65536 in
set_option maxHeartbeats 40000000 in
theorem rm_0 (l : Launch) (Z : State) (a0 : Array Value) (hw : ∀ d ∈ tables_1, d.before a0 Z = true) (ws : List Jvm.Cond) (p1 : Int32) (p2 : Int32) (p3 : Int32) (p4 : Int32)  (h0 : Heap) (n0 : Nat) (Z0 : n0 ≤ h0.size) :
    MetFree l x (head1 (Jvm.Cond.code x code maxLocals ret :: ws) room_1) (fun a U => a = #[(.int p1), (.int p2), (.int p3), (.int p4)] ∧ Z.Warmed39 U.vm ∧ U.heap = h0) (fun _ _ _ _ _ => True) (fun _ U o U' => ∃ v L, o = .returned v ∧ Q0 Z p1 p2 p3 p4 h0 n0 v U'.heap L ∧ FrameEnd U o U' L 0 0) := by
  refine MetFree.of_bodySF (plainFor_of_name pn_1) hisR ?_
  intro p e s m args below meth c s₁ Bd hml0 hP hK
  obtain ⟨rfl, hZ, hh⟩ := hP
  have hx := Bd.exec
  have hby := Bd.bytes
  have hml : c.maxLocals = 11 := hml0
  have hown : s.vm.findClass "com/example/laneweave/laneweave/PartsSelectPinLaw" = some m.cls := findClass_of_methodNamed Bd.named
  have hnm := (name_of_methodNamed Bd.named Bd.method).1
  have X0 : Stand p l e room_1 s m #[(.int p1), (.int p2), (.int p3), (.int p4)] below meth c s₁ [] 0 0 := Stand.of_body Bd
  have e0 : s₁.heap = h0 := by rw [← hh, Bd.state]; rfl
  have N0 := Fr.nil n0
  suffices HGO : Go p e below s (Q0 Z p1 p2 p3 p4 h0 n0) 0 0 s₁ (mkF m 0 #[.val (.int p1), .val (.int p2), .val (.int p3), .val (.int p4), .unset, .unset, .unset, .unset, .unset, .unset, .unset] []) from Go.cast (ef_0 m p1 p2 p3 p4) HGO
  have S67 : ∀ (T : State) (locs : List Loc) (cells slots : Nat) (X : Stand p l e room_1 s m #[(.int p1), (.int p2), (.int p3), (.int p4)] below meth c T locs cells slots) (hcl : cells ≤ 0) (hsl : slots ≤ 0) (eT : T.heap = h0) (N : Fr n0 locs) (x4 : Int32) (x5 : Int32) (x6 : Int32) (x7 : Int32) (x8 : Int32)  (hs : 1 ≤ x4.toInt) (hm : 1 ≤ x5.toInt ∧ x4.toInt * x5.toInt ≤ 2147483647) (h6 : x6.toInt = x4.toInt * x5.toInt) (hk : 0 ≤ x7.toInt ∧ x7.toInt < x5.toInt), Go p e below s (Q0 Z p1 p2 p3 p4 h0 n0) 0 0 T (mkF m 67 #[.val (.int p1), .val (.int p2), .val (.int p3), .val (.int p4), .val (.int x4), .val (.int x5), .val (.int x6), .val (.int x7), .val (.int x8), .unset, .unset] []) := by
    intro T locs cells slots X hcl hsl eT N x4 x5 x6 x7 x8 hs hm h6 hk
    refine Go.step (T' := T) (f' := (mkF m 70 #[.val (.int p1), .val (.int p2), .val (.int p3), .val (.int p4), .val (.int x4), .val (.int x5), .val (.int x6), .val (.int x7), .val (.int x8), .unset, .unset] [(.int (p4 &&& (4 : Int32)))])) (fun t kt => ?_) ?_
    · show Steps p.tables e below (T.setTop (mkF m 67 #[.val (.int p1), .val (.int p2), .val (.int p3), .val (.int p4), .val (.int x4), .val (.int x5), .val (.int x6), .val (.int x7), .val (.int x8), .unset, .unset] [])) _
      refine XS.iloadN X.here hx rfl (hb hby at_67) rfl ?_
      show Steps p.tables e below (T.setTop (mkF m 68 #[.val (.int p1), .val (.int p2), .val (.int p3), .val (.int p4), .val (.int x4), .val (.int x5), .val (.int x6), .val (.int x7), .val (.int x8), .unset, .unset] [(.int p4)])) _
      refine XS.iconst X.here hx rfl (hb hby at_68) ?_
      show Steps p.tables e below (T.setTop (mkF m 69 #[.val (.int p1), .val (.int p2), .val (.int p3), .val (.int p4), .val (.int x4), .val (.int x5), .val (.int x6), .val (.int x7), .val (.int x8), .unset, .unset] [(.int (4 : Int32)), (.int p4)])) _
      refine XS.iand X.here hx rfl (hb hby at_69) rfl ?_
      exact kt
    by_cases hc1 : (p4 &&& (4 : Int32)) = (0 : Int32)
    · have _ := hc1
      refine Go.step (T' := T) (f' := (mkF m 77 #[.val (.int p1), .val (.int p2), .val (.int p3), .val (.int p4), .val (.int x4), .val (.int x5), .val (.int x6), .val (.int x7), .val (.int x8), .unset, .unset] [])) (fun t kt => ?_) ?_
      · show Steps p.tables e below (T.setTop (mkF m 70 #[.val (.int p1), .val (.int p2), .val (.int p3), .val (.int p4), .val (.int x4), .val (.int x5), .val (.int x6), .val (.int x7), .val (.int x8), .unset, .unset] [(.int (p4 &&& (4 : Int32)))])) _
        refine XS.ifYes X.here hx rfl (pc0 := 70) (pc' := 77) rfl (hb hby at_70) rfl ((if0 _ _).trans (teq hc1).1) (by decide) (by decide) ?_
        exact kt
      obtain ⟨_, _, ⟨T2, L2, k2, n2⟩, -, X2, ⟨Lc2, hQ2, l2, y2, z2⟩, st2⟩ := Jvm.LawKit.callS X hx (y := (⟨"com/example/laneweave/laneweave/Parts", "select", "(III)I"⟩ : MethodName)) hown (mvT hZ (hw _ (List.mem_of_getElem? (i := 1) rfl))) (mvT hZ (hw _ (List.mem_of_getElem? (i := 2) rfl))) (mvT hZ (hw _ (List.mem_of_getElem? (i := 3) rfl))) (mvT hZ (hw _ (List.mem_of_getElem? (i := 4) rfl))) (by decide) (backOf (W := 0) (rm_sel l Z a0 hw [] (-x7) x4 x6  h0 n0 Z0 (own_nz (Int.le_trans hs (own_pos x4 x5 x6 hs hm.1 h6))) (own_nz hs) (own_A2 x4 x5 x6 x7 hs hm h6) (own_B2 x4 x5 x6 x7 hs hm h6 hk)) hZ (hw _ (List.mem_of_getElem? (i := 4) rfl)) (hw _ (List.mem_of_getElem? (i := 3) rfl)) (by decide) (by decide)) (g := (mkF m 116 #[.val (.int p1), .val (.int p2), .val (.int p3), .val (.int p4), .val (.int x4), .val (.int x5), .val (.int x6), .val (.int x7), .val (.int x8), .val (.int (0 : Int32)), .unset] [(.int x6), (.int x4), (.int (-x7))])) rfl (by rw [hml]; rfl) (argsL := [(.int (-x7)), (.int x4), (.int x6)]) (rest := []) (lenOf pd_0 rfl) rfl (by show 2 * 0 + _ ≤ _; exact Nat.le_of_eq rfl) (hb hby at_116) (fun _ _ => ⟨rfl, eT, (Nat.le_trans (Nat.add_le_add_right hcl 0) (by decide)), (Nat.le_trans (Nat.add_le_add_right hsl 0) (by decide))⟩)
      dsimp only [Pt.U, Pt.locs, Pt.cells, Pt.slots] at X2 l2 y2 z2 st2 hQ2
      subst l2 y2 z2
      obtain ⟨rfl, N2q, e2⟩ := hQ2
      have N2 := Fr.app N N2q
      refine Go.step (T' := T2) (f' := (mkF m 125 #[.val (.int p1), .val (.int p2), .val (.int p3), .val (.int p4), .val (.int x4), .val (.int x5), .val (.int x6), .val (.int x7), .val (.int x8), .val (.int (0 : Int32)), .val (.int (sel (-x7) x4 x6))] [(.int x7), (.int (sel (-x7) x4 x6))])) (fun t kt => ?_) ?_
      · show Steps p.tables e below (T.setTop (mkF m 77 #[.val (.int p1), .val (.int p2), .val (.int p3), .val (.int p4), .val (.int x4), .val (.int x5), .val (.int x6), .val (.int x7), .val (.int x8), .unset, .unset] [])) _
        refine XS.iconst X.here hx rfl (hb hby at_77) ?_
        show Steps p.tables e below (T.setTop (mkF m 78 #[.val (.int p1), .val (.int p2), .val (.int p3), .val (.int p4), .val (.int x4), .val (.int x5), .val (.int x6), .val (.int x7), .val (.int x8), .unset, .unset] [(.int (0 : Int32))])) _
        refine XS.istore X.here hx rfl (hb hby at_78) rfl (l' := #[.val (.int p1), .val (.int p2), .val (.int p3), .val (.int p4), .val (.int x4), .val (.int x5), .val (.int x6), .val (.int x7), .val (.int x8), .val (.int (0 : Int32)), .unset]) rfl ?_
        show Steps p.tables e below (T.setTop (mkF m 80 #[.val (.int p1), .val (.int p2), .val (.int p3), .val (.int p4), .val (.int x4), .val (.int x5), .val (.int x6), .val (.int x7), .val (.int x8), .val (.int (0 : Int32)), .unset] [])) _
        refine XS.iload X.here hx rfl (hb hby at_80) rfl ?_
        show Steps p.tables e below (T.setTop (mkF m 82 #[.val (.int p1), .val (.int p2), .val (.int p3), .val (.int p4), .val (.int x4), .val (.int x5), .val (.int x6), .val (.int x7), .val (.int x8), .val (.int (0 : Int32)), .unset] [(.int (0 : Int32))])) _
        refine XS.ifYes X.here hx rfl (pc0 := 82) (pc' := 109) rfl (hb hby at_82) rfl ((if0 _ _).trans (teq (by decide : ((0 : Int32) = (0 : Int32)))).1) (by decide) (by decide) ?_
        show Steps p.tables e below (T.setTop (mkF m 109 #[.val (.int p1), .val (.int p2), .val (.int p3), .val (.int p4), .val (.int x4), .val (.int x5), .val (.int x6), .val (.int x7), .val (.int x8), .val (.int (0 : Int32)), .unset] [])) _
        refine XS.iload X.here hx rfl (hb hby at_109) rfl ?_
        show Steps p.tables e below (T.setTop (mkF m 111 #[.val (.int p1), .val (.int p2), .val (.int p3), .val (.int p4), .val (.int x4), .val (.int x5), .val (.int x6), .val (.int x7), .val (.int x8), .val (.int (0 : Int32)), .unset] [(.int x7)])) _
        refine XS.ineg X.here hx rfl (hb hby at_111) rfl ?_
        show Steps p.tables e below (T.setTop (mkF m 112 #[.val (.int p1), .val (.int p2), .val (.int p3), .val (.int p4), .val (.int x4), .val (.int x5), .val (.int x6), .val (.int x7), .val (.int x8), .val (.int (0 : Int32)), .unset] [(.int (-x7))])) _
        refine XS.iload X.here hx rfl (hb hby at_112) rfl ?_
        show Steps p.tables e below (T.setTop (mkF m 114 #[.val (.int p1), .val (.int p2), .val (.int p3), .val (.int p4), .val (.int x4), .val (.int x5), .val (.int x6), .val (.int x7), .val (.int x8), .val (.int (0 : Int32)), .unset] [(.int x4), (.int (-x7))])) _
        refine XS.iload X.here hx rfl (hb hby at_114) rfl ?_
        show Steps p.tables e below (T.setTop (mkF m 116 #[.val (.int p1), .val (.int p2), .val (.int p3), .val (.int p4), .val (.int x4), .val (.int x5), .val (.int x6), .val (.int x7), .val (.int x8), .val (.int (0 : Int32)), .unset] [(.int x6), (.int x4), (.int (-x7))])) _
        refine st2 _ ?_
        show Steps p.tables e below (T2.setTop (mkF m 119 #[.val (.int p1), .val (.int p2), .val (.int p3), .val (.int p4), .val (.int x4), .val (.int x5), .val (.int x6), .val (.int x7), .val (.int x8), .val (.int (0 : Int32)), .unset] [(.int (sel (-x7) x4 x6))])) _
        refine XS.istore X2.here hx rfl (hb hby at_119) rfl (l' := #[.val (.int p1), .val (.int p2), .val (.int p3), .val (.int p4), .val (.int x4), .val (.int x5), .val (.int x6), .val (.int x7), .val (.int x8), .val (.int (0 : Int32)), .val (.int (sel (-x7) x4 x6))]) rfl ?_
        show Steps p.tables e below (T2.setTop (mkF m 121 #[.val (.int p1), .val (.int p2), .val (.int p3), .val (.int p4), .val (.int x4), .val (.int x5), .val (.int x6), .val (.int x7), .val (.int x8), .val (.int (0 : Int32)), .val (.int (sel (-x7) x4 x6))] [])) _
        refine XS.iload X2.here hx rfl (hb hby at_121) rfl ?_
        show Steps p.tables e below (T2.setTop (mkF m 123 #[.val (.int p1), .val (.int p2), .val (.int p3), .val (.int p4), .val (.int x4), .val (.int x5), .val (.int x6), .val (.int x7), .val (.int x8), .val (.int (0 : Int32)), .val (.int (sel (-x7) x4 x6))] [(.int (sel (-x7) x4 x6))])) _
        refine XS.iload X2.here hx rfl (hb hby at_123) rfl ?_
        exact kt
      have hd3 : (sel (-x7) x4 x6) = x7 := own_v2 x4 x5 x6 x7 hs hm h6 hk.1
      refine Go.step (T' := T2) (f' := (mkF m 133 #[.val (.int p1), .val (.int p2), .val (.int p3), .val (.int p4), .val (.int x4), .val (.int x5), .val (.int x6), .val (.int x7), .val (.int x8), .val (.int (0 : Int32)), .val (.int (sel (-x7) x4 x6))] [(.int (1 : Int32))])) (fun t kt => ?_) ?_
      · show Steps p.tables e below (T2.setTop (mkF m 125 #[.val (.int p1), .val (.int p2), .val (.int p3), .val (.int p4), .val (.int x4), .val (.int x5), .val (.int x6), .val (.int x7), .val (.int x8), .val (.int (0 : Int32)), .val (.int (sel (-x7) x4 x6))] [(.int x7), (.int (sel (-x7) x4 x6))])) _
        refine XS.icmpNo X2.here hx rfl (hb hby at_125) rfl (teq hd3).2 ?_
        show Steps p.tables e below (T2.setTop (mkF m 128 #[.val (.int p1), .val (.int p2), .val (.int p3), .val (.int p4), .val (.int x4), .val (.int x5), .val (.int x6), .val (.int x7), .val (.int x8), .val (.int (0 : Int32)), .val (.int (sel (-x7) x4 x6))] [])) _
        refine XS.iconst X2.here hx rfl (hb hby at_128) ?_
        show Steps p.tables e below (T2.setTop (mkF m 129 #[.val (.int p1), .val (.int p2), .val (.int p3), .val (.int p4), .val (.int x4), .val (.int x5), .val (.int x6), .val (.int x7), .val (.int x8), .val (.int (0 : Int32)), .val (.int (sel (-x7) x4 x6))] [(.int (1 : Int32))])) _
        refine XS.goto X2.here hx rfl (pc0 := 129) (pc' := 133) rfl (hb hby at_129) (by decide) (by decide) ?_
        exact kt
      refine Go.fin X2 (v := some (.int (1 : Int32))) (fun h => by rw [Bd.returns] at h; cases h) Bd.notSynchronized ?_ (Nat.le_trans (Nat.add_le_add_right hcl 0) (by decide)) (Nat.le_trans (Nat.add_le_add_right hsl 0) (by decide)) (fun fs hr => retN X2 hx (t := .boolean) Bd.returns (by simp) (hb hby at_133) hr)
      · show Q0 Z p1 p2 p3 p4 h0 n0 _ T2.heap _
        exact ⟨rfl, N2⟩
    · have _ := hc1
      refine Go.step (T' := T) (f' := (mkF m 73 #[.val (.int p1), .val (.int p2), .val (.int p3), .val (.int p4), .val (.int x4), .val (.int x5), .val (.int x6), .val (.int x7), .val (.int x8), .unset, .unset] [])) (fun t kt => ?_) ?_
      · show Steps p.tables e below (T.setTop (mkF m 70 #[.val (.int p1), .val (.int p2), .val (.int p3), .val (.int p4), .val (.int x4), .val (.int x5), .val (.int x6), .val (.int x7), .val (.int x8), .unset, .unset] [(.int (p4 &&& (4 : Int32)))])) _
        refine XS.ifNo X.here hx rfl (hb hby at_70) rfl ((if0 _ _).trans (feq hc1).1) ?_
        exact kt
      obtain ⟨_, _, ⟨T4, L4, k4, n4⟩, -, X4, ⟨Lc4, hQ4, l4, y4, z4⟩, st4⟩ := Jvm.LawKit.callS X hx (y := (⟨"com/example/laneweave/laneweave/Parts", "select", "(III)I"⟩ : MethodName)) hown (mvT hZ (hw _ (List.mem_of_getElem? (i := 1) rfl))) (mvT hZ (hw _ (List.mem_of_getElem? (i := 2) rfl))) (mvT hZ (hw _ (List.mem_of_getElem? (i := 3) rfl))) (mvT hZ (hw _ (List.mem_of_getElem? (i := 4) rfl))) (by decide) (backOf (W := 0) (rm_sel l Z a0 hw [] x7 x6 x4  h0 n0 Z0 (own_nz hs) (own_nz (Int.le_trans hs (own_pos x4 x5 x6 hs hm.1 h6))) (own_A1 x4 x5 x6 x7 hs hm h6 hk) (own_B1 x4 x5 x6 x7 hs hm h6 hk)) hZ (hw _ (List.mem_of_getElem? (i := 4) rfl)) (hw _ (List.mem_of_getElem? (i := 3) rfl)) (by decide) (by decide)) (g := (mkF m 91 #[.val (.int p1), .val (.int p2), .val (.int p3), .val (.int p4), .val (.int x4), .val (.int x5), .val (.int x6), .val (.int x7), .val (.int x8), .val (.int (1 : Int32)), .unset] [(.int x4), (.int x6), (.int x7)])) rfl (by rw [hml]; rfl) (argsL := [(.int x7), (.int x6), (.int x4)]) (rest := []) (lenOf pd_0 rfl) rfl (by show 2 * 0 + _ ≤ _; exact Nat.le_of_eq rfl) (hb hby at_91) (fun _ _ => ⟨rfl, eT, (Nat.le_trans (Nat.add_le_add_right hcl 0) (by decide)), (Nat.le_trans (Nat.add_le_add_right hsl 0) (by decide))⟩)
      dsimp only [Pt.U, Pt.locs, Pt.cells, Pt.slots] at X4 l4 y4 z4 st4 hQ4
      subst l4 y4 z4
      obtain ⟨rfl, N4q, e4⟩ := hQ4
      have N4 := Fr.app N N4q
      refine Go.step (T' := T4) (f' := (mkF m 100 #[.val (.int p1), .val (.int p2), .val (.int p3), .val (.int p4), .val (.int x4), .val (.int x5), .val (.int x6), .val (.int x7), .val (.int x8), .val (.int (1 : Int32)), .val (.int (sel x7 x6 x4))] [(.int x7), (.int (sel x7 x6 x4))])) (fun t kt => ?_) ?_
      · show Steps p.tables e below (T.setTop (mkF m 73 #[.val (.int p1), .val (.int p2), .val (.int p3), .val (.int p4), .val (.int x4), .val (.int x5), .val (.int x6), .val (.int x7), .val (.int x8), .unset, .unset] [])) _
        refine XS.iconst X.here hx rfl (hb hby at_73) ?_
        show Steps p.tables e below (T.setTop (mkF m 74 #[.val (.int p1), .val (.int p2), .val (.int p3), .val (.int p4), .val (.int x4), .val (.int x5), .val (.int x6), .val (.int x7), .val (.int x8), .unset, .unset] [(.int (1 : Int32))])) _
        refine XS.goto X.here hx rfl (pc0 := 74) (pc' := 78) rfl (hb hby at_74) (by decide) (by decide) ?_
        show Steps p.tables e below (T.setTop (mkF m 78 #[.val (.int p1), .val (.int p2), .val (.int p3), .val (.int p4), .val (.int x4), .val (.int x5), .val (.int x6), .val (.int x7), .val (.int x8), .unset, .unset] [(.int (1 : Int32))])) _
        refine XS.istore X.here hx rfl (hb hby at_78) rfl (l' := #[.val (.int p1), .val (.int p2), .val (.int p3), .val (.int p4), .val (.int x4), .val (.int x5), .val (.int x6), .val (.int x7), .val (.int x8), .val (.int (1 : Int32)), .unset]) rfl ?_
        show Steps p.tables e below (T.setTop (mkF m 80 #[.val (.int p1), .val (.int p2), .val (.int p3), .val (.int p4), .val (.int x4), .val (.int x5), .val (.int x6), .val (.int x7), .val (.int x8), .val (.int (1 : Int32)), .unset] [])) _
        refine XS.iload X.here hx rfl (hb hby at_80) rfl ?_
        show Steps p.tables e below (T.setTop (mkF m 82 #[.val (.int p1), .val (.int p2), .val (.int p3), .val (.int p4), .val (.int x4), .val (.int x5), .val (.int x6), .val (.int x7), .val (.int x8), .val (.int (1 : Int32)), .unset] [(.int (1 : Int32))])) _
        refine XS.ifNo X.here hx rfl (hb hby at_82) rfl ((if0 _ _).trans (feq (by decide : ¬ ((1 : Int32) = (0 : Int32)))).1) ?_
        show Steps p.tables e below (T.setTop (mkF m 85 #[.val (.int p1), .val (.int p2), .val (.int p3), .val (.int p4), .val (.int x4), .val (.int x5), .val (.int x6), .val (.int x7), .val (.int x8), .val (.int (1 : Int32)), .unset] [])) _
        refine XS.iload X.here hx rfl (hb hby at_85) rfl ?_
        show Steps p.tables e below (T.setTop (mkF m 87 #[.val (.int p1), .val (.int p2), .val (.int p3), .val (.int p4), .val (.int x4), .val (.int x5), .val (.int x6), .val (.int x7), .val (.int x8), .val (.int (1 : Int32)), .unset] [(.int x7)])) _
        refine XS.iload X.here hx rfl (hb hby at_87) rfl ?_
        show Steps p.tables e below (T.setTop (mkF m 89 #[.val (.int p1), .val (.int p2), .val (.int p3), .val (.int p4), .val (.int x4), .val (.int x5), .val (.int x6), .val (.int x7), .val (.int x8), .val (.int (1 : Int32)), .unset] [(.int x6), (.int x7)])) _
        refine XS.iload X.here hx rfl (hb hby at_89) rfl ?_
        show Steps p.tables e below (T.setTop (mkF m 91 #[.val (.int p1), .val (.int p2), .val (.int p3), .val (.int p4), .val (.int x4), .val (.int x5), .val (.int x6), .val (.int x7), .val (.int x8), .val (.int (1 : Int32)), .unset] [(.int x4), (.int x6), (.int x7)])) _
        refine st4 _ ?_
        show Steps p.tables e below (T4.setTop (mkF m 94 #[.val (.int p1), .val (.int p2), .val (.int p3), .val (.int p4), .val (.int x4), .val (.int x5), .val (.int x6), .val (.int x7), .val (.int x8), .val (.int (1 : Int32)), .unset] [(.int (sel x7 x6 x4))])) _
        refine XS.istore X4.here hx rfl (hb hby at_94) rfl (l' := #[.val (.int p1), .val (.int p2), .val (.int p3), .val (.int p4), .val (.int x4), .val (.int x5), .val (.int x6), .val (.int x7), .val (.int x8), .val (.int (1 : Int32)), .val (.int (sel x7 x6 x4))]) rfl ?_
        show Steps p.tables e below (T4.setTop (mkF m 96 #[.val (.int p1), .val (.int p2), .val (.int p3), .val (.int p4), .val (.int x4), .val (.int x5), .val (.int x6), .val (.int x7), .val (.int x8), .val (.int (1 : Int32)), .val (.int (sel x7 x6 x4))] [])) _
        refine XS.iload X4.here hx rfl (hb hby at_96) rfl ?_
        show Steps p.tables e below (T4.setTop (mkF m 98 #[.val (.int p1), .val (.int p2), .val (.int p3), .val (.int p4), .val (.int x4), .val (.int x5), .val (.int x6), .val (.int x7), .val (.int x8), .val (.int (1 : Int32)), .val (.int (sel x7 x6 x4))] [(.int (sel x7 x6 x4))])) _
        refine XS.iload X4.here hx rfl (hb hby at_98) rfl ?_
        exact kt
      have hd5 : (sel x7 x6 x4) = x7 := own_v1 x4 x5 x6 x7 hs hm h6 hk
      refine Go.step (T' := T4) (f' := (mkF m 108 #[.val (.int p1), .val (.int p2), .val (.int p3), .val (.int p4), .val (.int x4), .val (.int x5), .val (.int x6), .val (.int x7), .val (.int x8), .val (.int (1 : Int32)), .val (.int (sel x7 x6 x4))] [(.int (1 : Int32))])) (fun t kt => ?_) ?_
      · show Steps p.tables e below (T4.setTop (mkF m 100 #[.val (.int p1), .val (.int p2), .val (.int p3), .val (.int p4), .val (.int x4), .val (.int x5), .val (.int x6), .val (.int x7), .val (.int x8), .val (.int (1 : Int32)), .val (.int (sel x7 x6 x4))] [(.int x7), (.int (sel x7 x6 x4))])) _
        refine XS.icmpNo X4.here hx rfl (hb hby at_100) rfl (teq hd5).2 ?_
        show Steps p.tables e below (T4.setTop (mkF m 103 #[.val (.int p1), .val (.int p2), .val (.int p3), .val (.int p4), .val (.int x4), .val (.int x5), .val (.int x6), .val (.int x7), .val (.int x8), .val (.int (1 : Int32)), .val (.int (sel x7 x6 x4))] [])) _
        refine XS.iconst X4.here hx rfl (hb hby at_103) ?_
        show Steps p.tables e below (T4.setTop (mkF m 104 #[.val (.int p1), .val (.int p2), .val (.int p3), .val (.int p4), .val (.int x4), .val (.int x5), .val (.int x6), .val (.int x7), .val (.int x8), .val (.int (1 : Int32)), .val (.int (sel x7 x6 x4))] [(.int (1 : Int32))])) _
        refine XS.goto X4.here hx rfl (pc0 := 104) (pc' := 108) rfl (hb hby at_104) (by decide) (by decide) ?_
        exact kt
      refine Go.fin X4 (v := some (.int (1 : Int32))) (fun h => by rw [Bd.returns] at h; cases h) Bd.notSynchronized ?_ (Nat.le_trans (Nat.add_le_add_right hcl 0) (by decide)) (Nat.le_trans (Nat.add_le_add_right hsl 0) (by decide)) (fun fs hr => retN X4 hx (t := .boolean) Bd.returns (by simp) (hb hby at_108) hr)
      · show Q0 Z p1 p2 p3 p4 h0 n0 _ T4.heap _
        exact ⟨rfl, N4⟩
  have S55 : ∀ (T : State) (locs : List Loc) (cells slots : Nat) (X : Stand p l e room_1 s m #[(.int p1), (.int p2), (.int p3), (.int p4)] below meth c T locs cells slots) (hcl : cells ≤ 0) (hsl : slots ≤ 0) (eT : T.heap = h0) (N : Fr n0 locs) (x4 : Int32) (x5 : Int32) (x6 : Int32) (x7 : Int32) (x8 : Int32)  (hs : 1 ≤ x4.toInt) (hm : 1 ≤ x5.toInt ∧ x4.toInt * x5.toInt ≤ 2147483647) (h6 : x6.toInt = x4.toInt * x5.toInt) (hk : 0 ≤ x7.toInt ∧ x7.toInt < x5.toInt), Go p e below s (Q0 Z p1 p2 p3 p4 h0 n0) 0 0 T (mkF m 55 #[.val (.int p1), .val (.int p2), .val (.int p3), .val (.int p4), .val (.int x4), .val (.int x5), .val (.int x6), .val (.int x7), .val (.int x8), .unset, .unset] []) := by
    intro T locs cells slots X hcl hsl eT N x4 x5 x6 x7 x8 hs hm h6 hk
    refine Go.step (T' := T) (f' := (mkF m 58 #[.val (.int p1), .val (.int p2), .val (.int p3), .val (.int p4), .val (.int x4), .val (.int x5), .val (.int x6), .val (.int x7), .val (.int x8), .unset, .unset] [(.int (2 : Int32)), (.int x8)])) (fun t kt => ?_) ?_
    · show Steps p.tables e below (T.setTop (mkF m 55 #[.val (.int p1), .val (.int p2), .val (.int p3), .val (.int p4), .val (.int x4), .val (.int x5), .val (.int x6), .val (.int x7), .val (.int x8), .unset, .unset] [])) _
      refine XS.iload X.here hx rfl (hb hby at_55) rfl ?_
      show Steps p.tables e below (T.setTop (mkF m 57 #[.val (.int p1), .val (.int p2), .val (.int p3), .val (.int p4), .val (.int x4), .val (.int x5), .val (.int x6), .val (.int x7), .val (.int x8), .unset, .unset] [(.int x8)])) _
      refine XS.iconst X.here hx rfl (hb hby at_57) ?_
      exact kt
    by_cases hc6 : x8 = (2 : Int32)
    · have _ := hc6
      refine Go.step (T' := T) (f' := (mkF m 61 #[.val (.int p1), .val (.int p2), .val (.int p3), .val (.int p4), .val (.int x4), .val (.int x5), .val (.int x6), .val (.int x7), .val (.int x8), .unset, .unset] [])) (fun t kt => ?_) ?_
      · show Steps p.tables e below (T.setTop (mkF m 58 #[.val (.int p1), .val (.int p2), .val (.int p3), .val (.int p4), .val (.int x4), .val (.int x5), .val (.int x6), .val (.int x7), .val (.int x8), .unset, .unset] [(.int (2 : Int32)), (.int x8)])) _
        refine XS.icmpNo X.here hx rfl (hb hby at_58) rfl (teq hc6).2 ?_
        exact kt
      refine Go.step (T' := T) (f' := (mkF m 67 #[.val (.int p1), .val (.int p2), .val (.int p3), .val (.int p4), .val (.int x4), .val (.int x5), .val (.int x6), .val (.int (x5 - (1 : Int32))), .val (.int x8), .unset, .unset] [])) (fun t kt => ?_) ?_
      · show Steps p.tables e below (T.setTop (mkF m 61 #[.val (.int p1), .val (.int p2), .val (.int p3), .val (.int p4), .val (.int x4), .val (.int x5), .val (.int x6), .val (.int x7), .val (.int x8), .unset, .unset] [])) _
        refine XS.iload X.here hx rfl (hb hby at_61) rfl ?_
        show Steps p.tables e below (T.setTop (mkF m 63 #[.val (.int p1), .val (.int p2), .val (.int p3), .val (.int p4), .val (.int x4), .val (.int x5), .val (.int x6), .val (.int x7), .val (.int x8), .unset, .unset] [(.int x5)])) _
        refine XS.iconst X.here hx rfl (hb hby at_63) ?_
        show Steps p.tables e below (T.setTop (mkF m 64 #[.val (.int p1), .val (.int p2), .val (.int p3), .val (.int p4), .val (.int x4), .val (.int x5), .val (.int x6), .val (.int x7), .val (.int x8), .unset, .unset] [(.int (1 : Int32)), (.int x5)])) _
        refine XS.isub X.here hx rfl (hb hby at_64) rfl ?_
        show Steps p.tables e below (T.setTop (mkF m 65 #[.val (.int p1), .val (.int p2), .val (.int p3), .val (.int p4), .val (.int x4), .val (.int x5), .val (.int x6), .val (.int x7), .val (.int x8), .unset, .unset] [(.int (x5 - (1 : Int32)))])) _
        refine XS.istore X.here hx rfl (hb hby at_65) rfl (l' := #[.val (.int p1), .val (.int p2), .val (.int p3), .val (.int p4), .val (.int x4), .val (.int x5), .val (.int x6), .val (.int (x5 - (1 : Int32))), .val (.int x8), .unset, .unset]) rfl ?_
        exact kt
      exact S67 _ _ _ _ X (Nat.le_trans hcl (by decide)) (Nat.le_trans hsl (by decide)) eT N x4 x5 x6 (x5 - (1 : Int32)) x8 hs hm h6 (own_km x5 hm.1)
    · have _ := hc6
      refine Go.step (T' := T) (f' := (mkF m 67 #[.val (.int p1), .val (.int p2), .val (.int p3), .val (.int p4), .val (.int x4), .val (.int x5), .val (.int x6), .val (.int x7), .val (.int x8), .unset, .unset] [])) (fun t kt => ?_) ?_
      · show Steps p.tables e below (T.setTop (mkF m 58 #[.val (.int p1), .val (.int p2), .val (.int p3), .val (.int p4), .val (.int x4), .val (.int x5), .val (.int x6), .val (.int x7), .val (.int x8), .unset, .unset] [(.int (2 : Int32)), (.int x8)])) _
        refine XS.icmpYes X.here hx rfl (pc0 := 58) (pc' := 67) rfl (hb hby at_58) rfl (feq hc6).2 (by decide) (by decide) ?_
        exact kt
      exact S67 _ _ _ _ X (Nat.le_trans hcl (by decide)) (Nat.le_trans hsl (by decide)) eT N x4 x5 x6 x7 x8 hs hm h6 hk
  have S25 : ∀ (T : State) (locs : List Loc) (cells slots : Nat) (X : Stand p l e room_1 s m #[(.int p1), (.int p2), (.int p3), (.int p4)] below meth c T locs cells slots) (hcl : cells ≤ 0) (hsl : slots ≤ 0) (eT : T.heap = h0) (N : Fr n0 locs) (x4 : Int32) (x5 : Int32)  (hs : 1 ≤ x4.toInt) (hm : 1 ≤ x5.toInt ∧ x4.toInt * x5.toInt ≤ 2147483647), Go p e below s (Q0 Z p1 p2 p3 p4 h0 n0) 0 0 T (mkF m 25 #[.val (.int p1), .val (.int p2), .val (.int p3), .val (.int p4), .val (.int x4), .val (.int x5), .unset, .unset, .unset, .unset, .unset] []) := by
    intro T locs cells slots X hcl hsl eT N x4 x5 hs hm
    refine Go.step (T' := T) (f' := (mkF m 38 #[.val (.int p1), .val (.int p2), .val (.int p3), .val (.int p4), .val (.int x4), .val (.int x5), .val (.int (x4 * x5)), .unset, .unset, .unset, .unset] [(.int x5), (.int (p3 &&& (2147483647 : Int32)))])) (fun t kt => ?_) ?_
    · show Steps p.tables e below (T.setTop (mkF m 25 #[.val (.int p1), .val (.int p2), .val (.int p3), .val (.int p4), .val (.int x4), .val (.int x5), .unset, .unset, .unset, .unset, .unset] [])) _
      refine XS.iload X.here hx rfl (hb hby at_25) rfl ?_
      show Steps p.tables e below (T.setTop (mkF m 27 #[.val (.int p1), .val (.int p2), .val (.int p3), .val (.int p4), .val (.int x4), .val (.int x5), .unset, .unset, .unset, .unset, .unset] [(.int x4)])) _
      refine XS.iload X.here hx rfl (hb hby at_27) rfl ?_
      show Steps p.tables e below (T.setTop (mkF m 29 #[.val (.int p1), .val (.int p2), .val (.int p3), .val (.int p4), .val (.int x4), .val (.int x5), .unset, .unset, .unset, .unset, .unset] [(.int x5), (.int x4)])) _
      refine XS.imul X.here hx rfl (hb hby at_29) rfl ?_
      show Steps p.tables e below (T.setTop (mkF m 30 #[.val (.int p1), .val (.int p2), .val (.int p3), .val (.int p4), .val (.int x4), .val (.int x5), .unset, .unset, .unset, .unset, .unset] [(.int (x4 * x5))])) _
      refine XS.istore X.here hx rfl (hb hby at_30) rfl (l' := #[.val (.int p1), .val (.int p2), .val (.int p3), .val (.int p4), .val (.int x4), .val (.int x5), .val (.int (x4 * x5)), .unset, .unset, .unset, .unset]) rfl ?_
      show Steps p.tables e below (T.setTop (mkF m 32 #[.val (.int p1), .val (.int p2), .val (.int p3), .val (.int p4), .val (.int x4), .val (.int x5), .val (.int (x4 * x5)), .unset, .unset, .unset, .unset] [])) _
      refine XS.iloadN X.here hx rfl (hb hby at_32) rfl ?_
      show Steps p.tables e below (T.setTop (mkF m 33 #[.val (.int p1), .val (.int p2), .val (.int p3), .val (.int p4), .val (.int x4), .val (.int x5), .val (.int (x4 * x5)), .unset, .unset, .unset, .unset] [(.int p3)])) _
      refine X.ldcInt hx hown (mvT hZ (hw _ (List.mem_of_getElem? (i := 0) rfl))) (g := (mkF m 33 #[.val (.int p1), .val (.int p2), .val (.int p3), .val (.int p4), .val (.int x4), .val (.int x5), .val (.int (x4 * x5)), .unset, .unset, .unset, .unset] [(.int p3)])) rfl (hb hby at_33) _ ?_
      show Steps p.tables e below (T.setTop (mkF m 35 #[.val (.int p1), .val (.int p2), .val (.int p3), .val (.int p4), .val (.int x4), .val (.int x5), .val (.int (x4 * x5)), .unset, .unset, .unset, .unset] [(.int (2147483647 : Int32)), (.int p3)])) _
      refine XS.iand X.here hx rfl (hb hby at_35) rfl ?_
      show Steps p.tables e below (T.setTop (mkF m 36 #[.val (.int p1), .val (.int p2), .val (.int p3), .val (.int p4), .val (.int x4), .val (.int x5), .val (.int (x4 * x5)), .unset, .unset, .unset, .unset] [(.int (p3 &&& (2147483647 : Int32)))])) _
      refine XS.iload X.here hx rfl (hb hby at_36) rfl ?_
      exact kt
    have hnz38 : ¬ (x5 = (0 : Int32)) := own_nz hm.1
    refine Go.step (T' := T) (f' := (mkF m 49 #[.val (.int p1), .val (.int p2), .val (.int p3), .val (.int p4), .val (.int x4), .val (.int x5), .val (.int (x4 * x5)), .val (.int ((p3 &&& (2147483647 : Int32)) % x5)), .val (.int (p4 &&& (3 : Int32))), .unset, .unset] [(.int (1 : Int32)), (.int (p4 &&& (3 : Int32)))])) (fun t kt => ?_) ?_
    · show Steps p.tables e below (T.setTop (mkF m 38 #[.val (.int p1), .val (.int p2), .val (.int p3), .val (.int p4), .val (.int x4), .val (.int x5), .val (.int (x4 * x5)), .unset, .unset, .unset, .unset] [(.int x5), (.int (p3 &&& (2147483647 : Int32)))])) _
      refine XS.irem X.here hx rfl (hb hby at_38) rfl hnz38 ?_
      show Steps p.tables e below (T.setTop (mkF m 39 #[.val (.int p1), .val (.int p2), .val (.int p3), .val (.int p4), .val (.int x4), .val (.int x5), .val (.int (x4 * x5)), .unset, .unset, .unset, .unset] [(.int ((p3 &&& (2147483647 : Int32)) - ((p3 &&& (2147483647 : Int32)) / x5) * x5))])) _
      rw [own_irem ((p3 &&& (2147483647 : Int32))) (x5)]
      show Steps p.tables e below (T.setTop (mkF m 39 #[.val (.int p1), .val (.int p2), .val (.int p3), .val (.int p4), .val (.int x4), .val (.int x5), .val (.int (x4 * x5)), .unset, .unset, .unset, .unset] [(.int ((p3 &&& (2147483647 : Int32)) % x5))])) _
      refine XS.istore X.here hx rfl (hb hby at_39) rfl (l' := #[.val (.int p1), .val (.int p2), .val (.int p3), .val (.int p4), .val (.int x4), .val (.int x5), .val (.int (x4 * x5)), .val (.int ((p3 &&& (2147483647 : Int32)) % x5)), .unset, .unset, .unset]) rfl ?_
      show Steps p.tables e below (T.setTop (mkF m 41 #[.val (.int p1), .val (.int p2), .val (.int p3), .val (.int p4), .val (.int x4), .val (.int x5), .val (.int (x4 * x5)), .val (.int ((p3 &&& (2147483647 : Int32)) % x5)), .unset, .unset, .unset] [])) _
      refine XS.iloadN X.here hx rfl (hb hby at_41) rfl ?_
      show Steps p.tables e below (T.setTop (mkF m 42 #[.val (.int p1), .val (.int p2), .val (.int p3), .val (.int p4), .val (.int x4), .val (.int x5), .val (.int (x4 * x5)), .val (.int ((p3 &&& (2147483647 : Int32)) % x5)), .unset, .unset, .unset] [(.int p4)])) _
      refine XS.iconst X.here hx rfl (hb hby at_42) ?_
      show Steps p.tables e below (T.setTop (mkF m 43 #[.val (.int p1), .val (.int p2), .val (.int p3), .val (.int p4), .val (.int x4), .val (.int x5), .val (.int (x4 * x5)), .val (.int ((p3 &&& (2147483647 : Int32)) % x5)), .unset, .unset, .unset] [(.int (3 : Int32)), (.int p4)])) _
      refine XS.iand X.here hx rfl (hb hby at_43) rfl ?_
      show Steps p.tables e below (T.setTop (mkF m 44 #[.val (.int p1), .val (.int p2), .val (.int p3), .val (.int p4), .val (.int x4), .val (.int x5), .val (.int (x4 * x5)), .val (.int ((p3 &&& (2147483647 : Int32)) % x5)), .unset, .unset, .unset] [(.int (p4 &&& (3 : Int32)))])) _
      refine XS.istore X.here hx rfl (hb hby at_44) rfl (l' := #[.val (.int p1), .val (.int p2), .val (.int p3), .val (.int p4), .val (.int x4), .val (.int x5), .val (.int (x4 * x5)), .val (.int ((p3 &&& (2147483647 : Int32)) % x5)), .val (.int (p4 &&& (3 : Int32))), .unset, .unset]) rfl ?_
      show Steps p.tables e below (T.setTop (mkF m 46 #[.val (.int p1), .val (.int p2), .val (.int p3), .val (.int p4), .val (.int x4), .val (.int x5), .val (.int (x4 * x5)), .val (.int ((p3 &&& (2147483647 : Int32)) % x5)), .val (.int (p4 &&& (3 : Int32))), .unset, .unset] [])) _
      refine XS.iload X.here hx rfl (hb hby at_46) rfl ?_
      show Steps p.tables e below (T.setTop (mkF m 48 #[.val (.int p1), .val (.int p2), .val (.int p3), .val (.int p4), .val (.int x4), .val (.int x5), .val (.int (x4 * x5)), .val (.int ((p3 &&& (2147483647 : Int32)) % x5)), .val (.int (p4 &&& (3 : Int32))), .unset, .unset] [(.int (p4 &&& (3 : Int32)))])) _
      refine XS.iconst X.here hx rfl (hb hby at_48) ?_
      exact kt
    by_cases hc7 : (p4 &&& (3 : Int32)) = (1 : Int32)
    · have _ := hc7
      refine Go.step (T' := T) (f' := (mkF m 52 #[.val (.int p1), .val (.int p2), .val (.int p3), .val (.int p4), .val (.int x4), .val (.int x5), .val (.int (x4 * x5)), .val (.int ((p3 &&& (2147483647 : Int32)) % x5)), .val (.int (p4 &&& (3 : Int32))), .unset, .unset] [])) (fun t kt => ?_) ?_
      · show Steps p.tables e below (T.setTop (mkF m 49 #[.val (.int p1), .val (.int p2), .val (.int p3), .val (.int p4), .val (.int x4), .val (.int x5), .val (.int (x4 * x5)), .val (.int ((p3 &&& (2147483647 : Int32)) % x5)), .val (.int (p4 &&& (3 : Int32))), .unset, .unset] [(.int (1 : Int32)), (.int (p4 &&& (3 : Int32)))])) _
        refine XS.icmpNo X.here hx rfl (hb hby at_49) rfl (teq hc7).2 ?_
        exact kt
      refine Go.step (T' := T) (f' := (mkF m 55 #[.val (.int p1), .val (.int p2), .val (.int p3), .val (.int p4), .val (.int x4), .val (.int x5), .val (.int (x4 * x5)), .val (.int (0 : Int32)), .val (.int (p4 &&& (3 : Int32))), .unset, .unset] [])) (fun t kt => ?_) ?_
      · show Steps p.tables e below (T.setTop (mkF m 52 #[.val (.int p1), .val (.int p2), .val (.int p3), .val (.int p4), .val (.int x4), .val (.int x5), .val (.int (x4 * x5)), .val (.int ((p3 &&& (2147483647 : Int32)) % x5)), .val (.int (p4 &&& (3 : Int32))), .unset, .unset] [])) _
        refine XS.iconst X.here hx rfl (hb hby at_52) ?_
        show Steps p.tables e below (T.setTop (mkF m 53 #[.val (.int p1), .val (.int p2), .val (.int p3), .val (.int p4), .val (.int x4), .val (.int x5), .val (.int (x4 * x5)), .val (.int ((p3 &&& (2147483647 : Int32)) % x5)), .val (.int (p4 &&& (3 : Int32))), .unset, .unset] [(.int (0 : Int32))])) _
        refine XS.istore X.here hx rfl (hb hby at_53) rfl (l' := #[.val (.int p1), .val (.int p2), .val (.int p3), .val (.int p4), .val (.int x4), .val (.int x5), .val (.int (x4 * x5)), .val (.int (0 : Int32)), .val (.int (p4 &&& (3 : Int32))), .unset, .unset]) rfl ?_
        exact kt
      exact S55 _ _ _ _ X (Nat.le_trans hcl (by decide)) (Nat.le_trans hsl (by decide)) eT N x4 x5 (x4 * x5) (0 : Int32) (p4 &&& (3 : Int32)) hs hm (own_l x4 x5 hs hm) ⟨by decide, by have := hm.1; show (0 : Int) < _; omega⟩
    · have _ := hc7
      refine Go.step (T' := T) (f' := (mkF m 55 #[.val (.int p1), .val (.int p2), .val (.int p3), .val (.int p4), .val (.int x4), .val (.int x5), .val (.int (x4 * x5)), .val (.int ((p3 &&& (2147483647 : Int32)) % x5)), .val (.int (p4 &&& (3 : Int32))), .unset, .unset] [])) (fun t kt => ?_) ?_
      · show Steps p.tables e below (T.setTop (mkF m 49 #[.val (.int p1), .val (.int p2), .val (.int p3), .val (.int p4), .val (.int x4), .val (.int x5), .val (.int (x4 * x5)), .val (.int ((p3 &&& (2147483647 : Int32)) % x5)), .val (.int (p4 &&& (3 : Int32))), .unset, .unset] [(.int (1 : Int32)), (.int (p4 &&& (3 : Int32)))])) _
        refine XS.icmpYes X.here hx rfl (pc0 := 49) (pc' := 55) rfl (hb hby at_49) rfl (feq hc7).2 (by decide) (by decide) ?_
        exact kt
      exact S55 _ _ _ _ X (Nat.le_trans hcl (by decide)) (Nat.le_trans hsl (by decide)) eT N x4 x5 (x4 * x5) ((p3 &&& (2147483647 : Int32)) % x5) (p4 &&& (3 : Int32)) hs hm (own_l x4 x5 hs hm) (own_k p3 x5 hm.1)
  have S11 : ∀ (T : State) (locs : List Loc) (cells slots : Nat) (X : Stand p l e room_1 s m #[(.int p1), (.int p2), (.int p3), (.int p4)] below meth c T locs cells slots) (hcl : cells ≤ 0) (hsl : slots ≤ 0) (eT : T.heap = h0) (N : Fr n0 locs) (x4 : Int32)  (hs : 1 ≤ x4.toInt), Go p e below s (Q0 Z p1 p2 p3 p4 h0 n0) 0 0 T (mkF m 11 #[.val (.int p1), .val (.int p2), .val (.int p3), .val (.int p4), .val (.int x4), .unset, .unset, .unset, .unset, .unset, .unset] []) := by
    intro T locs cells slots X hcl hsl eT N x4 hs
    refine Go.step (T' := T) (f' := (mkF m 19 #[.val (.int p1), .val (.int p2), .val (.int p3), .val (.int p4), .val (.int x4), .unset, .unset, .unset, .unset, .unset, .unset] [(.int x4), (.int (2147483647 : Int32)), (.int (p2 &&& (2147483647 : Int32)))])) (fun t kt => ?_) ?_
    · show Steps p.tables e below (T.setTop (mkF m 11 #[.val (.int p1), .val (.int p2), .val (.int p3), .val (.int p4), .val (.int x4), .unset, .unset, .unset, .unset, .unset, .unset] [])) _
      refine XS.iloadN X.here hx rfl (hb hby at_11) rfl ?_
      show Steps p.tables e below (T.setTop (mkF m 12 #[.val (.int p1), .val (.int p2), .val (.int p3), .val (.int p4), .val (.int x4), .unset, .unset, .unset, .unset, .unset, .unset] [(.int p2)])) _
      refine X.ldcInt hx hown (mvT hZ (hw _ (List.mem_of_getElem? (i := 0) rfl))) (g := (mkF m 12 #[.val (.int p1), .val (.int p2), .val (.int p3), .val (.int p4), .val (.int x4), .unset, .unset, .unset, .unset, .unset, .unset] [(.int p2)])) rfl (hb hby at_12) _ ?_
      show Steps p.tables e below (T.setTop (mkF m 14 #[.val (.int p1), .val (.int p2), .val (.int p3), .val (.int p4), .val (.int x4), .unset, .unset, .unset, .unset, .unset, .unset] [(.int (2147483647 : Int32)), (.int p2)])) _
      refine XS.iand X.here hx rfl (hb hby at_14) rfl ?_
      show Steps p.tables e below (T.setTop (mkF m 15 #[.val (.int p1), .val (.int p2), .val (.int p3), .val (.int p4), .val (.int x4), .unset, .unset, .unset, .unset, .unset, .unset] [(.int (p2 &&& (2147483647 : Int32)))])) _
      refine X.ldcInt hx hown (mvT hZ (hw _ (List.mem_of_getElem? (i := 0) rfl))) (g := (mkF m 15 #[.val (.int p1), .val (.int p2), .val (.int p3), .val (.int p4), .val (.int x4), .unset, .unset, .unset, .unset, .unset, .unset] [(.int (p2 &&& (2147483647 : Int32)))])) rfl (hb hby at_15) _ ?_
      show Steps p.tables e below (T.setTop (mkF m 17 #[.val (.int p1), .val (.int p2), .val (.int p3), .val (.int p4), .val (.int x4), .unset, .unset, .unset, .unset, .unset, .unset] [(.int (2147483647 : Int32)), (.int (p2 &&& (2147483647 : Int32)))])) _
      refine XS.iload X.here hx rfl (hb hby at_17) rfl ?_
      exact kt
    have hnz19 : ¬ (x4 = (0 : Int32)) := own_nz hs
    refine Go.step (T' := T) (f' := (mkF m 20 #[.val (.int p1), .val (.int p2), .val (.int p3), .val (.int p4), .val (.int x4), .unset, .unset, .unset, .unset, .unset, .unset] [(.int ((2147483647 : Int32) / x4)), (.int (p2 &&& (2147483647 : Int32)))])) (fun t kt => ?_) ?_
    · show Steps p.tables e below (T.setTop (mkF m 19 #[.val (.int p1), .val (.int p2), .val (.int p3), .val (.int p4), .val (.int x4), .unset, .unset, .unset, .unset, .unset, .unset] [(.int x4), (.int (2147483647 : Int32)), (.int (p2 &&& (2147483647 : Int32)))])) _
      refine XS.idiv X.here hx rfl (hb hby at_19) rfl hnz19 ?_
      exact kt
    have hnz20 : ¬ (((2147483647 : Int32) / x4) = (0 : Int32)) := own_nz (by have q := own_q x4 hs; omega)
    refine Go.step (T' := T) (f' := (mkF m 25 #[.val (.int p1), .val (.int p2), .val (.int p3), .val (.int p4), .val (.int x4), .val (.int (((p2 &&& (2147483647 : Int32)) % ((2147483647 : Int32) / x4)) + (1 : Int32))), .unset, .unset, .unset, .unset, .unset] [])) (fun t kt => ?_) ?_
    · show Steps p.tables e below (T.setTop (mkF m 20 #[.val (.int p1), .val (.int p2), .val (.int p3), .val (.int p4), .val (.int x4), .unset, .unset, .unset, .unset, .unset, .unset] [(.int ((2147483647 : Int32) / x4)), (.int (p2 &&& (2147483647 : Int32)))])) _
      refine XS.irem X.here hx rfl (hb hby at_20) rfl hnz20 ?_
      show Steps p.tables e below (T.setTop (mkF m 21 #[.val (.int p1), .val (.int p2), .val (.int p3), .val (.int p4), .val (.int x4), .unset, .unset, .unset, .unset, .unset, .unset] [(.int ((p2 &&& (2147483647 : Int32)) - ((p2 &&& (2147483647 : Int32)) / ((2147483647 : Int32) / x4)) * ((2147483647 : Int32) / x4)))])) _
      rw [own_irem ((p2 &&& (2147483647 : Int32))) (((2147483647 : Int32) / x4))]
      show Steps p.tables e below (T.setTop (mkF m 21 #[.val (.int p1), .val (.int p2), .val (.int p3), .val (.int p4), .val (.int x4), .unset, .unset, .unset, .unset, .unset, .unset] [(.int ((p2 &&& (2147483647 : Int32)) % ((2147483647 : Int32) / x4)))])) _
      refine XS.iconst X.here hx rfl (hb hby at_21) ?_
      show Steps p.tables e below (T.setTop (mkF m 22 #[.val (.int p1), .val (.int p2), .val (.int p3), .val (.int p4), .val (.int x4), .unset, .unset, .unset, .unset, .unset, .unset] [(.int (1 : Int32)), (.int ((p2 &&& (2147483647 : Int32)) % ((2147483647 : Int32) / x4)))])) _
      refine XS.iadd X.here hx rfl (hb hby at_22) rfl ?_
      show Steps p.tables e below (T.setTop (mkF m 23 #[.val (.int p1), .val (.int p2), .val (.int p3), .val (.int p4), .val (.int x4), .unset, .unset, .unset, .unset, .unset, .unset] [(.int (((p2 &&& (2147483647 : Int32)) % ((2147483647 : Int32) / x4)) + (1 : Int32)))])) _
      refine XS.istore X.here hx rfl (hb hby at_23) rfl (l' := #[.val (.int p1), .val (.int p2), .val (.int p3), .val (.int p4), .val (.int x4), .val (.int (((p2 &&& (2147483647 : Int32)) % ((2147483647 : Int32) / x4)) + (1 : Int32))), .unset, .unset, .unset, .unset, .unset]) rfl ?_
      exact kt
    exact S25 _ _ _ _ X (Nat.le_trans hcl (by decide)) (Nat.le_trans hsl (by decide)) eT N x4 (((p2 &&& (2147483647 : Int32)) % ((2147483647 : Int32) / x4)) + (1 : Int32)) hs (own_m p2 x4 hs)
  refine Go.step (T' := s₁) (f' := (mkF m 11 #[.val (.int p1), .val (.int p2), .val (.int p3), .val (.int p4), .val (.int (((p1 &&& (2147483647 : Int32)) % (2147483647 : Int32)) + (1 : Int32))), .unset, .unset, .unset, .unset, .unset, .unset] [])) (fun t kt => ?_) ?_
  · show Steps p.tables e below (s₁.setTop (mkF m 0 #[.val (.int p1), .val (.int p2), .val (.int p3), .val (.int p4), .unset, .unset, .unset, .unset, .unset, .unset, .unset] [])) _
    refine XS.iloadN X0.here hx rfl (hb hby at_0) rfl ?_
    show Steps p.tables e below (s₁.setTop (mkF m 1 #[.val (.int p1), .val (.int p2), .val (.int p3), .val (.int p4), .unset, .unset, .unset, .unset, .unset, .unset, .unset] [(.int p1)])) _
    refine X0.ldcInt hx hown (mvT hZ (hw _ (List.mem_of_getElem? (i := 0) rfl))) (g := (mkF m 1 #[.val (.int p1), .val (.int p2), .val (.int p3), .val (.int p4), .unset, .unset, .unset, .unset, .unset, .unset, .unset] [(.int p1)])) rfl (hb hby at_1) _ ?_
    show Steps p.tables e below (s₁.setTop (mkF m 3 #[.val (.int p1), .val (.int p2), .val (.int p3), .val (.int p4), .unset, .unset, .unset, .unset, .unset, .unset, .unset] [(.int (2147483647 : Int32)), (.int p1)])) _
    refine XS.iand X0.here hx rfl (hb hby at_3) rfl ?_
    show Steps p.tables e below (s₁.setTop (mkF m 4 #[.val (.int p1), .val (.int p2), .val (.int p3), .val (.int p4), .unset, .unset, .unset, .unset, .unset, .unset, .unset] [(.int (p1 &&& (2147483647 : Int32)))])) _
    refine X0.ldcInt hx hown (mvT hZ (hw _ (List.mem_of_getElem? (i := 0) rfl))) (g := (mkF m 4 #[.val (.int p1), .val (.int p2), .val (.int p3), .val (.int p4), .unset, .unset, .unset, .unset, .unset, .unset, .unset] [(.int (p1 &&& (2147483647 : Int32)))])) rfl (hb hby at_4) _ ?_
    show Steps p.tables e below (s₁.setTop (mkF m 6 #[.val (.int p1), .val (.int p2), .val (.int p3), .val (.int p4), .unset, .unset, .unset, .unset, .unset, .unset, .unset] [(.int (2147483647 : Int32)), (.int (p1 &&& (2147483647 : Int32)))])) _
    refine XS.irem X0.here hx rfl (hb hby at_6) rfl (by decide) ?_
    show Steps p.tables e below (s₁.setTop (mkF m 7 #[.val (.int p1), .val (.int p2), .val (.int p3), .val (.int p4), .unset, .unset, .unset, .unset, .unset, .unset, .unset] [(.int ((p1 &&& (2147483647 : Int32)) - ((p1 &&& (2147483647 : Int32)) / (2147483647 : Int32)) * (2147483647 : Int32)))])) _
    rw [own_irem ((p1 &&& (2147483647 : Int32))) ((2147483647 : Int32))]
    show Steps p.tables e below (s₁.setTop (mkF m 7 #[.val (.int p1), .val (.int p2), .val (.int p3), .val (.int p4), .unset, .unset, .unset, .unset, .unset, .unset, .unset] [(.int ((p1 &&& (2147483647 : Int32)) % (2147483647 : Int32)))])) _
    refine XS.iconst X0.here hx rfl (hb hby at_7) ?_
    show Steps p.tables e below (s₁.setTop (mkF m 8 #[.val (.int p1), .val (.int p2), .val (.int p3), .val (.int p4), .unset, .unset, .unset, .unset, .unset, .unset, .unset] [(.int (1 : Int32)), (.int ((p1 &&& (2147483647 : Int32)) % (2147483647 : Int32)))])) _
    refine XS.iadd X0.here hx rfl (hb hby at_8) rfl ?_
    show Steps p.tables e below (s₁.setTop (mkF m 9 #[.val (.int p1), .val (.int p2), .val (.int p3), .val (.int p4), .unset, .unset, .unset, .unset, .unset, .unset, .unset] [(.int (((p1 &&& (2147483647 : Int32)) % (2147483647 : Int32)) + (1 : Int32)))])) _
    refine XS.istore X0.here hx rfl (hb hby at_9) rfl (l' := #[.val (.int p1), .val (.int p2), .val (.int p3), .val (.int p4), .val (.int (((p1 &&& (2147483647 : Int32)) % (2147483647 : Int32)) + (1 : Int32))), .unset, .unset, .unset, .unset, .unset, .unset]) rfl ?_
    exact kt
  exact S11 _ _ _ _ X0 (Nat.le_trans (Nat.le_refl 0) (by decide)) (Nat.le_trans (Nat.le_refl 0) (by decide)) e0 N0 (((p1 &&& (2147483647 : Int32)) % (2147483647 : Int32)) + (1 : Int32)) (own_sm p1)
set_option maxRecDepth 65536 in
set_option maxHeartbeats 40000000 in
theorem comes_1 {Post : Tables → Env → Array Value → State → Outcome → State → Prop} (hpost : ∀ tb e args s v u, (limb_1_1.after args s (.returned v) u = true ∧ limb_1_2.after args s (.returned v) u = true ∧ True) → FrameEnd s (.returned v) u (Jvm.fieldLocs frame_1_writes args s ++ Jvm.arrayLocs frame_1_arrays args s ++ Jvm.staticLocs frame_1_statics s) 0 0 → Post tb e args s (.returned v) u) :
    ArmFor flags0 classFile x code maxLocals ret World_1 tables_1 room_1 Calls_1 rest_1 Pre_1 Post := by
  intro l hfl _ _ p e ha hc hk s m args below hf hA hF happ hP
  obtain ⟨hcalls, hrest, hpre⟩ := hP
  obtain ⟨-, -, -, hnamed, -, -, -, hat⟩ := (Spec.applies_iff hf).mp happ
  obtain ⟨hg, hn⟩ := and_e (Cond.before_iff.mp (show (Jvm.Cond.and given_1 narrow_1).before args s = true from hpre))
  obtain ⟨g1, g2⟩ := and_e hg
  obtain ⟨g3, g4⟩ := and_e g2
  obtain ⟨g5, g6⟩ := and_e g4
  obtain ⟨g7, g8⟩ := and_e g6
  obtain ⟨w0, w1, w2, w3, rfl⟩ : ∃ w0 w1 w2 w3 : Value, args = #[w0, w1, w2, w3] := by
    have hs : args.size = 4 := by simpa [Cond.value, given_1] using g1
    obtain ⟨L⟩ := args
    match L, hs with
    | [w0, w1, w2, w3], _ => exact ⟨w0, w1, w2, w3, rfl⟩
  have hw := fun d (hd : d ∈ tables_1) => atoms_spec (ws := Jvm.Cond.code x code maxLocals ret :: tables_1) hat d (List.mem_cons_of_mem _ hd)
  obtain ⟨i0, ei0⟩ := is_v g3
  obtain rfl : w0 = (.int i0) := Option.some.inj ei0
  obtain ⟨i1, ei1⟩ := is_v g5
  obtain rfl : w1 = (.int i1) := Option.some.inj ei1
  obtain ⟨i2, ei2⟩ := is_v g7
  obtain rfl : w2 = (.int i2) := Option.some.inj ei2
  obtain ⟨i3, ei3⟩ := is_v g8
  obtain rfl : w3 = (.int i3) := Option.some.inj ei3
  obtain ⟨n, o, h1, h2, h3, _, L, rfl, ⟨hv, N⟩, hq⟩ := rm_0 l s _ hw tables_1 i0 i1 i2 i3  s.heap s.heap.size (Nat.le_refl _)  p e ha hc hk s m _ below hf ((Spec.applies_iff_loose hf).mp happ).1 ⟨rfl, State.Warmed39.refl s, rfl⟩ trivial
  subst hv
  refine ⟨n, _, h1, h2, h3, hpost _ _ _ _ _ _ ⟨Cond.after_iff.mpr rfl, Cond.after_iff.mpr (eq_i res_at (Term.int_eval (1)) rfl), trivial⟩ ⟨hq.1, hq.2.1, (hq.2.2.sift fun y hy => Or.inr (N y hy)).mono (by decide) (by decide)⟩⟩
theorem main_1_1 : Claimed_1_1 := comes_1 fun _ _ _ _ _ _ h hF => ⟨h.1, hF⟩
theorem main_1_2 : Claimed_1_2 := comes_1 fun _ _ _ _ _ _ h hF => ⟨h.2.1, hF⟩
end Jvm.Pilot.@@N@@
namespace Jvm.Pilot.@@N@@
open Jvm Jvm.ClassFile Sem Op Lib Jvm.Free Jvm.Stand Jvm.Pilot.@@N@@.Jvm.D
/-! MADE BY PROGRAM (witnessworld.py) out of the Statement's table words and the real class files: 9 classes; the members and pool entries that the words name. The judged class is class 1, her method 1. -/
namespace start1
open Jvm.ClassFile
def u (s : String) : CpInfo := .utf8 (stringToUtf16 s)
/-- a pool by its gaps: so many unusable entries, then the entry; so many at the end -/
def gap : Nat → List CpInfo → List CpInfo
  | 0, r => r
  | n + 1, r => .unusable :: gap n r
def poolList (es : List (Nat × CpInfo)) (last : Nat) : List CpInfo := es.foldr (fun e r => gap e.1 (e.2 :: r)) (gap last [])
def pool (es : List (Nat × CpInfo)) (last : Nat) : Array CpInfo := ⟨poolList es last⟩
def fileOf (pool : Array CpInfo) (this : Nat) (attrs : Array Attribute := #[]) (ms : Array MethodInfo := #[]) (fl : Nat := 33) (sup : Nat := 0) (ifs : Array Nat := #[]) (fds : Array FieldInfo := #[]) : ClassFile where
  minorVersion := 0
  majorVersion := 65
  constantPool := pool
  accessFlags := fl
  thisClass := this
  superClass := sup
  interfaces := ifs
  fields := fds
  methods := ms
  attributes := attrs
def plain (name : String) (sup : Option ClassId) : Class where
  name := name
  kind := .ordinary
  loader := none
  accessFlags := 33
  super := sup
  interfaces := #[]
  cf := none
  fields := #[]
  methods := #[]
  instanceTypes := #[]
  staticTypes := #[]
  resolved := #[]
  callSites := []
  init := .initialized
  statics := none
  mirror := none

def pool0 : Array CpInfo := pool [(5, u "<init>"), (0, u "()V"), (1, .class_ 10), (1, u "java/lang/Object")] 113

def k0m0 : Method := { name := "<init>", desc := "()V", sig := { parameters := [], returnType := none }, accessFlags := 1, code := none }
/-- java/lang/Object -/
def k0 : Class := { plain "java/lang/Object" none with
  accessFlags := 33
  interfaces := #[]
  cf := some (fileOf pool0 8 #[] #[{ accessFlags := 1, nameIndex := 5, descriptorIndex := 6, attributes := #[] }] 33 0 #[] #[])
  fields := #[]
  methods := #[k0m0]
  instanceTypes := #[]
  staticTypes := #[]
  resolved := Array.replicate 124 none
  statics := none }

def pool1 : Array CpInfo := pool [(2, .class_ 4), (1, u "java/lang/Object"), (0, u "<init>"), (0, u "()V"), (0, .integer 2147483647), (2, .methodref 11 12), (0, .class_ 13), (0, .nameAndType 14 15), (0, u "com/example/laneweave/laneweave/Parts"), (0, u "select"), (0, u "(III)I"), (0, .class_ 17), (0, u "com/example/laneweave/laneweave/PartsSelectPinLaw"), (2, u "law"), (0, u "(IIII)Z")] 3

def k1m0 : Method := { name := "<init>", desc := "()V", sig := { parameters := [], returnType := none }, accessFlags := 2, code := none }
def k1c1 : Code := { maxStack := 3, maxLocals := 11, code := code, exceptionTable := #[], attributes := #[] }
def k1m1 : Method := { name := "law", desc := "(IIII)Z", sig := { parameters := [.int, .int, .int, .int], returnType := some .boolean }, accessFlags := 9, code := some k1c1 }
/-- com/example/laneweave/laneweave/PartsSelectPinLaw -/
def k1 : Class := { plain "com/example/laneweave/laneweave/PartsSelectPinLaw" (some 0) with
  accessFlags := 49
  interfaces := #[]
  cf := some (fileOf pool1 16 #[] #[{ accessFlags := 2, nameIndex := 5, descriptorIndex := 6, attributes := #[] }, { accessFlags := 9, nameIndex := 20, descriptorIndex := 21, attributes := #[] }] 49 2 #[] #[])
  fields := #[]
  methods := #[k1m0, k1m1]
  instanceTypes := #[]
  staticTypes := #[]
  resolved := Array.replicate 25 none
  statics := none }

def pool2 : Array CpInfo := pool [(2, .class_ 4), (1, u "java/lang/Object"), (0, u "<init>"), (0, u "()V"), (1, .class_ 10), (1, u "com/example/laneweave/laneweave/Parts"), (13, u "select"), (0, u "(III)I")] 20

def k2m0 : Method := { name := "<init>", desc := "()V", sig := { parameters := [], returnType := none }, accessFlags := 2, code := none }
def k2c1 : Code := { maxStack := 3, maxLocals := 6, code := prog_19_method_2_code, exceptionTable := #[], attributes := #[] }
def k2m1 : Method := { name := "select", desc := "(III)I", sig := { parameters := [.int, .int, .int], returnType := some .int }, accessFlags := 8, code := some k2c1 }
/-- com/example/laneweave/laneweave/Parts -/
def k2 : Class := { plain "com/example/laneweave/laneweave/Parts" (some 0) with
  accessFlags := 48
  interfaces := #[]
  cf := some (fileOf pool2 8 #[] #[{ accessFlags := 2, nameIndex := 5, descriptorIndex := 6, attributes := #[] }, { accessFlags := 8, nameIndex := 24, descriptorIndex := 25, attributes := #[] }] 48 2 #[] #[])
  fields := #[]
  methods := #[k2m0, k2m1]
  instanceTypes := #[]
  staticTypes := #[]
  resolved := Array.replicate 46 none
  statics := none }

def pool3 : Array CpInfo := pool [(1, u "java/lang/Cloneable"), (0, .class_ 1), (0, u "java/lang/Object"), (0, .class_ 3)] 3

/-- java/lang/Cloneable -/
def k3 : Class := { plain "java/lang/Cloneable" (some 0) with
  accessFlags := 1537
  interfaces := #[]
  cf := some (fileOf pool3 2 #[] #[] 1537 4 #[] #[])
  fields := #[]
  methods := #[]
  instanceTypes := #[]
  staticTypes := #[]
  resolved := Array.replicate 8 none
  statics := none }

def pool4 : Array CpInfo := pool [(1, u "java/io/Serializable"), (0, .class_ 1), (0, u "java/lang/Object"), (0, .class_ 3)] 3

/-- java/io/Serializable -/
def k4 : Class := { plain "java/io/Serializable" (some 0) with
  accessFlags := 1537
  interfaces := #[]
  cf := some (fileOf pool4 2 #[] #[] 1537 4 #[] #[])
  fields := #[]
  methods := #[]
  instanceTypes := #[]
  staticTypes := #[]
  resolved := Array.replicate 8 none
  statics := none }

/-- the primitive byte -/
def k5 : Class := { plain "byte" none with kind := .primitive 'B', accessFlags := 0x411 }
/-- [B -/
def k6 : Class := { plain "[B" (some 0) with kind := .array 5 .byte, interfaces := #[3, 4], accessFlags := 1041 }

/-- the primitive int -/
def k7 : Class := { plain "int" none with kind := .primitive 'I', accessFlags := 0x411 }
/-- [I -/
def k8 : Class := { plain "[I" (some 0) with kind := .array 7 .int, interfaces := #[3, 4], accessFlags := 1041 }

def heap : Heap := #[]
def classes : Array Class := #[k0, k1, k2, k3, k4, k5, k6, k7, k8]
def interned : List (Array UInt16 × Addr) := []
def slotsUsed : Nat := 0
def theMethod : MethodId := ⟨1, 1⟩
def args0 : Array Value := #[.int 5, .int 3, .int 1, .int 2]
def aboutOver (below : List Frame) : State where
  vm := { classes := classes, interned := interned.toArray }
  heap := heap
  slotsUsed := slotsUsed
  threads := #[{ frames := .invoking theMethod args0 :: below }]
def below0 : List Frame := [.native { method := ⟨0, 0⟩, args := #[] }]
def about1 : State := aboutOver below0
def p0 : Program := .bare "" "" ""
def e0 : Env := launch0.env 0 0 0
theorem w_frames : about1.frames = Frame.invoking theMethod args0 :: below0 := rfl
set_option maxRecDepth 65536 in
theorem w_args : argsFit about1.vm theMethod args0 = true := by decide +kernel
set_option maxRecDepth 65536 in
theorem w_heap : heapFits about1 = true := by decide +kernel
set_option maxRecDepth 65536 in
theorem w_runnable : about1.curStatus? = some .runnable := by decide +kernel
set_option maxRecDepth 65536 in
theorem w_alone : about1.alone = true := by decide +kernel
set_option maxRecDepth 65536 in
theorem w_named : about1.methodNamed? x = some theMethod := by decide +kernel
set_option maxRecDepth 65536 in
theorem w_hears : about1.hears theMethod below0 = true := by decide +kernel
set_option maxRecDepth 65536 in
theorem w_ripe : about1.ripe theMethod args0 below0 = true := by decide +kernel
theorem w_running : about1.status = .running := rfl
set_option maxRecDepth 65536 in
theorem w_room : about1.hasRoom e0.platform room_1 = true :=
  launch0.hasRoom_least _ room_1 (by decide +kernel) (by decide +kernel) (by decide +kernel) (by decide +kernel) (by decide +kernel) (by decide +kernel)
theorem allAtoms_all (ts : List Jvm.Cond) (a : Array Jvm.Value) (st : Jvm.State) : (allAtoms ts).before a st = ts.all (fun c => c.before a st) := by
  induction ts with
  | nil => rfl
  | cons c t ih =>
    show (Jvm.Cond.and c (allAtoms t)).before a st = _
    rw [Jvm.Cond.before_and, ih, List.all_cons]
def words1 : List Jvm.Cond := Jvm.Cond.code x code maxLocals ret :: tables_1
/-- a 'code' word, met by the world's own term for the bytes: nothing is compared byte by byte -/
theorem code_word {y : MethodName} {bytes : ByteArray} {mx : Nat} {rt : Option FieldType} {a : Array Value} {s : State} {m : MethodId} {meth : Method} {c : Code} (h1 : s.methodNamed? y = some m) (h2 : s.vm.method? m = some meth) (h3 : meth.code = some c) (h4 : c.code = bytes)
    (h5 : (c.maxLocals == mx && c.exceptionTable.isEmpty && decide (c.maxStack ≤ mostOperands) && decide (meth.sig.returnType = rt) && !meth.locks && decide (parseMethodDescriptor y.desc = some meth.sig)) = true) : (Jvm.Cond.code y bytes mx rt).before a s = true := by
  simp only [Bool.and_eq_true, beq_iff_eq, Bool.not_eq_true', decide_eq_true_eq] at h5
  obtain ⟨⟨⟨⟨⟨g1, g2⟩, g3⟩, g4⟩, g5⟩, g6⟩ := h5
  simp [Cond.before, Cond.holds, Cond.value, h1, h2, h3, h4, g1, g2, g3, g4, g5, g6]
def isCode : Jvm.Cond → Bool
  | .code _ _ _ _ => true
  | _ => false
theorem all_split {L : List Jvm.Cond} {P : Jvm.Cond → Bool} (h1 : L.all (fun c => isCode c || P c) = true) (h2 : ∀ c ∈ L.filter isCode, P c = true) : L.all P = true := by
  refine List.all_eq_true.mpr fun c hc => ?_
  have h := List.all_eq_true.mp h1 c hc
  rcases Bool.eq_false_or_eq_true (isCode c) with hi | hi
  · exact h2 c (List.mem_filter.mpr ⟨hc, hi⟩)
  · simpa [hi] using h
set_option maxRecDepth 65536 in
theorem w_c0 : (Jvm.Cond.code x code maxLocals ret).before args0 about1 = true := code_word (m := ⟨1, 1⟩) (meth := k1m1) (c := k1c1) (by decide +kernel) rfl rfl rfl (by decide +kernel)
set_option maxRecDepth 65536 in
theorem w_c1 : (Jvm.Cond.code ({ cls := "com/example/laneweave/laneweave/Parts", name := "select", desc := "(III)I" } : Jvm.MethodName) prog_19_method_2_code (6 : Nat) (Option.some Jvm.ClassFile.FieldType.int)).before args0 about1 = true := code_word (m := ⟨2, 1⟩) (meth := k2m1) (c := k2c1) (by decide +kernel) rfl rfl rfl (by decide +kernel)
def codes1 : List Jvm.Cond := [Jvm.Cond.code x code maxLocals ret, Jvm.Cond.code ({ cls := "com/example/laneweave/laneweave/Parts", name := "select", desc := "(III)I" } : Jvm.MethodName) prog_19_method_2_code (6 : Nat) (Option.some Jvm.ClassFile.FieldType.int)]
set_option maxRecDepth 65536 in
theorem codes_eq : words1.filter isCode = codes1 := rfl
theorem w_codes : ∀ c ∈ words1.filter isCode, c.before args0 about1 = true := by
  rw [codes_eq]
  intro c hc
  simp only [codes1, List.mem_cons, List.not_mem_nil, or_false] at hc
  rcases hc with rfl | rfl
  · exact w_c0
  · exact w_c1
set_option maxRecDepth 65536 in
theorem w_t1 : words1.all (fun c => isCode c || c.before args0 about1) = true := by decide +kernel
theorem w_tables : (allAtoms (Jvm.Cond.code x code maxLocals ret :: tables_1)).before args0 about1 = true := by
  rw [allAtoms_all]
  show words1.all (fun c => c.before args0 about1) = true
  refine all_split ?_ w_codes
  rw [w_t1]
set_option maxRecDepth 65536 in
theorem w_case : (Jvm.Cond.and given_1 narrow_1).before args0 about1 = true := by decide +kernel
theorem w_applies : (headSpec (Jvm.Cond.code x code maxLocals ret :: tables_1) room_1).applies x e0.platform about1 = true :=
  (Spec.applies_iff w_frames).mpr ⟨w_running, w_runnable, w_alone, w_named, w_hears, w_ripe, w_room, w_tables⟩
theorem atStart : AtStart classFile x code maxLocals ret World_1 tables_1 room_1 Calls_1 rest_1 Pre_1 launch0 p0 e0 about1 theMethod args0 below0 :=
  ⟨lists_1, trivial, launch0.admits_env _ _ _, launch0.least_env, fairChoices_fair.cas, fairChoices_fair.clock, w_frames, w_args, w_heap, w_applies, trivial, trivial, w_case⟩
end start1
theorem witness_1 : WitnessClaimed_1 := ⟨start1.p0, start1.e0, start1.about1, start1.theMethod, start1.args0, start1.below0, start1.atStart⟩
end Jvm.Pilot.@@N@@
