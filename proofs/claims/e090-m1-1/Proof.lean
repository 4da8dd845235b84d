import JvmDerived
import JvmDerived.Pilot.@@N@@Statement
import JvmDerived.Pilot.@@N@@Code
set_option linter.unusedVariables false
set_option linter.unusedSimpArgs false
namespace Jvm.RoadKit
open Sem ClassFile Op Lib Jvm.Stand Jvm.Free Jvm.LawKit
section New
variable {p : Program} {l : Launch} {e : Env} {R : Room} {s : State} {m : MethodId} {args : Array Value} {below : List Frame} {meth : Method} {c : Code} {T : State} {locs : List Loc} {cells slots : Nat}
theorem retI (X : Stand p l e R s m args below meth c T locs cells slots) (hx : p.tables.exec = Jvm.exec) {pc : Nat} {Ls : Array Slot} {z : Int32} {rest : List Value} (hret : meth.sig.returnType = some .int) (hd : decode c.code pc = .ok (.ireturn, 1)) {fs : List Frame}
    (hl : ∀ (f : JFrame) (acts : List Action), f.method = m → f.locked = none → f.entered = [] → (doReturn e (T.setTop f) acts (some (.int z))).1 = T.setFrames fs) : Steps p.tables e below (T.setTop (mkF m pc Ls (.int z :: rest))) (T.setFrames fs) := by
  have hm' : T.vm.method? m = some meth := X.method'
  have hn : narrow .int (.int z) = .int z := rfl
  show Steps p.tables e below (T.setTop { method := m, pc := pc, locals := Ls, stack := _ :: rest, locked := none }) _
  jvm_step X.here [X.here.top, hx, hd, hm', hret, hn]
  first | (intro acts; rw [hl _ acts rfl rfl rfl]) | rw [hl _ _ rfl rfl rfl]
  exact Steps.refl _
/-- what a body leaves -/
def own_P (s : State) (Q : Option Value → Heap → List Loc → Prop) (k n : Nat) (s₂ : State) (o : Outcome) : Prop := ∃ v L, o = .returned v ∧ Q v s₂.heap L ∧ FrameEnd s o s₂ L k n
/-- from A the run comes to an end that P allows -/
def own_G (p : Program) (e : Env) (below : List Frame) (P : State → Outcome → Prop) (A : State) : Prop := ∃ s₂ o, Steps p.tables e below A s₂ ∧ s₂.status = .running ∧ Ended s₂ below o ∧ P s₂ o
theorem own_via {P : State → Outcome → Prop} {A A' : State} (h : ∀ t, Steps p.tables e below A' t → Steps p.tables e below A t) (k : own_G p e below P A') : own_G p e below P A := by
  obtain ⟨s₂, o, h1, h2⟩ := k
  exact ⟨s₂, o, h _ h1, h2⟩
theorem own_retN (X : Stand p l e R s m args below meth c T locs cells slots) (hlocks : meth.locks = false) (hx : p.tables.exec = Jvm.exec) {pc : Nat} {Ls : Array Slot} {z : Int32} {t : FieldType} {rest : List Value} {K N : Nat} {Q : Option Value → Heap → List Loc → Prop} (hret : meth.sig.returnType = some t) (ht : t = .boolean ∨ t = .byte ∨ t = .char ∨ t = .short)
    (hd : decode c.code pc = .ok (.ireturn, 1)) (hq : Q (some (.int (nar t z))) T.heap locs) (hK : cells ≤ K) (hN : slots ≤ N) : own_G p e below (own_P s Q K N) (T.setTop (mkF m pc Ls (.int z :: rest))) := by
  obtain ⟨fs, hr, hrun, hended, hW, hsame⟩ := X.leave (v := some (.int (nar t z))) (fun h => by rw [hret] at h; cases h) hlocks
  exact ⟨_, _, retN X hx hret ht hd hr, hrun, hended, _, _, rfl, hq, ⟨_, rfl⟩, hW, hsame.mono hK hN⟩
theorem own_retI (X : Stand p l e R s m args below meth c T locs cells slots) (hlocks : meth.locks = false) (hx : p.tables.exec = Jvm.exec) {pc : Nat} {Ls : Array Slot} {z : Int32} {rest : List Value} {K N : Nat} {Q : Option Value → Heap → List Loc → Prop} (hret : meth.sig.returnType = some .int)
    (hd : decode c.code pc = .ok (.ireturn, 1)) (hq : Q (some (.int z)) T.heap locs) (hK : cells ≤ K) (hN : slots ≤ N) : own_G p e below (own_P s Q K N) (T.setTop (mkF m pc Ls (.int z :: rest))) := by
  obtain ⟨fs, hr, hrun, hended, hW, hsame⟩ := X.leave (v := some (.int z)) (fun h => by rw [hret] at h; cases h) hlocks
  exact ⟨_, _, retI X hx hret hd hr, hrun, hended, _, _, rfl, hq, ⟨_, rfl⟩, hW, hsame.mono hK hN⟩
theorem own_retA (X : Stand p l e R s m args below meth c T locs cells slots) (hlocks : meth.locks = false) (hx : p.tables.exec = Jvm.exec) {pc : Nat} {Ls : Array Slot} {w : Value} {C : String} {rest : List Value} {K N : Nat} {Q : Option Value → Heap → List Loc → Prop} (hret : meth.sig.returnType = some (.object C)) (hw : w.isRef = true)
    (hd : decode c.code pc = .ok (.areturn, 1)) (hq : Q (some w) T.heap locs) (hK : cells ≤ K) (hN : slots ≤ N) : own_G p e below (own_P s Q K N) (T.setTop (mkF m pc Ls (w :: rest))) := by
  obtain ⟨fs, hr, hrun, hended, hW, hsame⟩ := X.leave (v := some w) (fun h => by rw [hret] at h; cases h) hlocks
  have hn : narrow (.object C) w = w := by cases w <;> rfl
  exact ⟨_, _, retOut X hx hret hn (Or.inr (Or.inr (Or.inr (Or.inr ⟨rfl, rfl, hw⟩)))) hd hr, hrun, hended, _, _, rfl, hq, ⟨_, rfl⟩, hW, hsame.mono hK hN⟩
theorem own_retV (X : Stand p l e R s m args below meth c T locs cells slots) (hlocks : meth.locks = false) (hx : p.tables.exec = Jvm.exec) {pc : Nat} {Ls : Array Slot} {K N : Nat} {Q : Option Value → Heap → List Loc → Prop} (hret : meth.sig.returnType = none)
    (hd : decode c.code pc = .ok (.return_, 1)) (hq : Q none T.heap locs) (hK : cells ≤ K) (hN : slots ≤ N) : own_G p e below (own_P s Q K N) (T.setTop (mkF m pc Ls [])) := by
  obtain ⟨fs, hr, hrun, hended, hW, hsame⟩ := X.leave (v := none) (fun _ => rfl) hlocks
  exact ⟨_, _, X.returnOut hx hret hd hr, hrun, hended, _, _, rfl, hq, ⟨_, rfl⟩, hW, hsame.mono hK hN⟩
end New
end Jvm.RoadKit
namespace Jvm.Pilot.@@N@@
open Jvm Jvm.ClassFile Sem Op Lib Jvm.Free Jvm.Stand Jvm.LawKit Jvm.RoadKit Bundle Jvm.Pilot.@@N@@.Jvm.D

def own_exp (c : Int32) : Int32 := if c = 105 then 2 else if c = 109 then 8 else if c = 115 then 32 else if c = 100 then 1 else if c = 117 then 64 else if c = 99 then 128 else if c = 120 then 4 else if c = 85 then 320 else 0
def own_of (c : Int32) : Int32 := if c = 85 then 320 else if c = 99 then 128 else if c = 100 then 1 else if c = 105 then 2 else if c = 109 then 8 else if c = 115 then 32 else if c = 117 then 64 else if c = 120 then 4 else 0
theorem own_same (c : Int32) : own_of c = own_exp c := by
  by_cases h0 : c = 85
  · subst h0; decide
  by_cases h1 : c = 99
  · subst h1; decide
  by_cases h2 : c = 100
  · subst h2; decide
  by_cases h3 : c = 105
  · subst h3; decide
  by_cases h4 : c = 109
  · subst h4; decide
  by_cases h5 : c = 115
  · subst h5; decide
  by_cases h6 : c = 117
  · subst h6; decide
  by_cases h7 : c = 120
  · subst h7; decide
  simp [own_of, own_exp, h0, h1, h2, h3, h4, h5, h6, h7]
theorem d1_0 : decode prog_19_method_2_code 0 = .ok (.iload_n 0, 1) := by decide +kernel
theorem d1_1 : decode prog_19_method_2_code 1 = .ok (.lookupswitch 98 #[(85, 94), (99, 88), (100, 83), (105, 75), (109, 77), (115, 80), (117, 85), (120, 92)], 75) := by decide +kernel
theorem d1_76 : decode prog_19_method_2_code 76 = .ok (.iconst 2, 1) := by decide +kernel
theorem d1_77 : decode prog_19_method_2_code 77 = .ok (.ireturn, 1) := by decide +kernel
theorem d1_78 : decode prog_19_method_2_code 78 = .ok (.bipush 8, 2) := by decide +kernel
theorem d1_80 : decode prog_19_method_2_code 80 = .ok (.ireturn, 1) := by decide +kernel
theorem d1_81 : decode prog_19_method_2_code 81 = .ok (.bipush 32, 2) := by decide +kernel
theorem d1_83 : decode prog_19_method_2_code 83 = .ok (.ireturn, 1) := by decide +kernel
theorem d1_84 : decode prog_19_method_2_code 84 = .ok (.iconst 1, 1) := by decide +kernel
theorem d1_85 : decode prog_19_method_2_code 85 = .ok (.ireturn, 1) := by decide +kernel
theorem d1_86 : decode prog_19_method_2_code 86 = .ok (.bipush 64, 2) := by decide +kernel
theorem d1_88 : decode prog_19_method_2_code 88 = .ok (.ireturn, 1) := by decide +kernel
theorem d1_89 : decode prog_19_method_2_code 89 = .ok (.sipush 128, 3) := by decide +kernel
theorem d1_92 : decode prog_19_method_2_code 92 = .ok (.ireturn, 1) := by decide +kernel
theorem d1_93 : decode prog_19_method_2_code 93 = .ok (.iconst 4, 1) := by decide +kernel
theorem d1_94 : decode prog_19_method_2_code 94 = .ok (.ireturn, 1) := by decide +kernel
theorem d1_95 : decode prog_19_method_2_code 95 = .ok (.sipush 320, 3) := by decide +kernel
theorem d1_98 : decode prog_19_method_2_code 98 = .ok (.ireturn, 1) := by decide +kernel
theorem d1_99 : decode prog_19_method_2_code 99 = .ok (.iconst 0, 1) := by decide +kernel
theorem d1_100 : decode prog_19_method_2_code 100 = .ok (.ireturn, 1) := by decide +kernel
theorem pn_1 : plainName "holdfast/Flags" = true := by first | (simp [plainName, overriddenIn]; done) | decide +kernel
theorem ef_1 (m : MethodId) (p0 : Int32) : entryFrame m #[(.int p0)] 1 = mkF m 0 #[.val (.int p0)] [] := by first | (simp [entryFrame, mkF, argsToLocals, Value.category]; done) | rfl
def Q1 (Z : State) (p0 : Int32)  (h0 : Heap) (n0 : Nat) (v : Option Value) (h : Heap) (L : List Loc) : Prop := v = some (.int (own_of p0)) ∧ Fr n0 L ∧ h = h0
set_option maxRecDepth 65536 in
set_option maxHeartbeats 40000000 in
theorem rm1 (l : Launch) (Z : State) (a0 : Array Value) (hw : ∀ d ∈ tables_1, d.before a0 Z = true) (ws : List Jvm.Cond) (p0 : Int32)  (h0 : Heap) (n0 : Nat) (Z0 : n0 ≤ h0.size)  :
    MetFree l (⟨"holdfast/Flags", "ofLetter", "(I)I"⟩ : MethodName) (head1 (Jvm.Cond.code (⟨"holdfast/Flags", "ofLetter", "(I)I"⟩ : MethodName) prog_19_method_2_code 1 (some .int) :: ws) ({ frames := 0, cells := 0, slots := 0, locals := 0 } : Room)) (fun a U => a = #[(.int p0)] ∧ Z.Warmed39 U.vm ∧ U.heap = h0) (fun _ _ _ _ _ => True) (fun _ U o U' => ∃ v L, o = .returned v ∧ Q1 Z p0 h0 n0 v U'.heap L ∧ FrameEnd U o U' L ({ frames := 0, cells := 0, slots := 0, locals := 0 } : Room).cells ({ frames := 0, cells := 0, slots := 0, locals := 0 } : Room).slots) := by
  refine MetFree.of_bodySF (plainFor_of_name pn_1) hisR ?_
  intro p e s m args below meth c s₁ Bd hml0 hP hK
  obtain ⟨rfl, hZ, hh⟩ := hP
  have hx := Bd.exec
  have hby := Bd.bytes
  have hml : c.maxLocals = 1 := hml0
  have hown : s.vm.findClass "holdfast/Flags" = some m.cls := findClass_of_methodNamed Bd.named
  have X0 : Stand p l e ({ frames := 0, cells := 0, slots := 0, locals := 0 } : Room) s m #[(.int p0)] below meth c s₁ [] 0 0 := Stand.of_body Bd
  have e0 : s₁.heap = h0 := by rw [← hh, Bd.state]; rfl
  have N0 := Fr.nil n0
  show own_G p e below (own_P s (Q1 Z p0 h0 n0) 0 0) _
  refine own_via (A' := s₁.setTop (mkF m 0 #[.val (.int p0)] [])) (fun t k => castTop (ef_1 m p0) k) ?_
  refine own_via (A' := s₁.setTop (mkF m 1 #[.val (.int p0)] [(.int p0)])) (fun target kt => ?_) ?_
  · show Steps p.tables e below (s₁.setTop (mkF m 0 #[.val (.int p0)] [])) _
    refine XS.iloadN X0.here hx rfl (hb hby d1_0) rfl ?_
    exact kt
  by_cases hs1_0 : p0 = (85 : Int32)
  · refine own_via (A' := s₁.setTop (mkF m 95 #[.val (.int p0)] [])) (fun target kt => X0.lookupswitchHit hx (g := (mkF m 1 #[.val (.int p0)] [(.int p0)])) rfl rfl (hb hby d1_1) (by decide) (a := 85) (off := 94) (by rw [hs1_0]; decide) (show (0 : Int) ≤ ((1 : Nat) : Int) + 94 from by decide) _ kt) ?_
    refine own_via (A' := s₁.setTop (mkF m 98 #[.val (.int p0)] [(.int (320 : Int32))])) (fun target kt => ?_) ?_
    · show Steps p.tables e below (s₁.setTop (mkF m 95 #[.val (.int p0)] [])) _
      refine XS.sipush X0.here hx rfl (hb hby d1_95) ?_
      exact kt
    exact own_retI X0 Bd.notSynchronized hx Bd.returns (hb hby d1_98) (show Q1 Z p0 h0 n0 _ _ _ from ⟨by rw [show own_of p0 = 320 from by simp [own_of, hs1_0]] <;> rfl, N0, e0⟩) (by decide) (by decide)
  by_cases hs1_1 : p0 = (99 : Int32)
  · refine own_via (A' := s₁.setTop (mkF m 89 #[.val (.int p0)] [])) (fun target kt => X0.lookupswitchHit hx (g := (mkF m 1 #[.val (.int p0)] [(.int p0)])) rfl rfl (hb hby d1_1) (by decide) (a := 99) (off := 88) (by rw [hs1_1]; decide) (show (0 : Int) ≤ ((1 : Nat) : Int) + 88 from by decide) _ kt) ?_
    refine own_via (A' := s₁.setTop (mkF m 92 #[.val (.int p0)] [(.int (128 : Int32))])) (fun target kt => ?_) ?_
    · show Steps p.tables e below (s₁.setTop (mkF m 89 #[.val (.int p0)] [])) _
      refine XS.sipush X0.here hx rfl (hb hby d1_89) ?_
      exact kt
    exact own_retI X0 Bd.notSynchronized hx Bd.returns (hb hby d1_92) (show Q1 Z p0 h0 n0 _ _ _ from ⟨by rw [show own_of p0 = 128 from by simp [own_of, hs1_0, hs1_1]] <;> rfl, N0, e0⟩) (by decide) (by decide)
  by_cases hs1_2 : p0 = (100 : Int32)
  · refine own_via (A' := s₁.setTop (mkF m 84 #[.val (.int p0)] [])) (fun target kt => X0.lookupswitchHit hx (g := (mkF m 1 #[.val (.int p0)] [(.int p0)])) rfl rfl (hb hby d1_1) (by decide) (a := 100) (off := 83) (by rw [hs1_2]; decide) (show (0 : Int) ≤ ((1 : Nat) : Int) + 83 from by decide) _ kt) ?_
    refine own_via (A' := s₁.setTop (mkF m 85 #[.val (.int p0)] [(.int (1 : Int32))])) (fun target kt => ?_) ?_
    · show Steps p.tables e below (s₁.setTop (mkF m 84 #[.val (.int p0)] [])) _
      refine XS.iconst X0.here hx rfl (hb hby d1_84) ?_
      exact kt
    exact own_retI X0 Bd.notSynchronized hx Bd.returns (hb hby d1_85) (show Q1 Z p0 h0 n0 _ _ _ from ⟨by rw [show own_of p0 = 1 from by simp [own_of, hs1_0, hs1_1, hs1_2]] <;> rfl, N0, e0⟩) (by decide) (by decide)
  by_cases hs1_3 : p0 = (105 : Int32)
  · refine own_via (A' := s₁.setTop (mkF m 76 #[.val (.int p0)] [])) (fun target kt => X0.lookupswitchHit hx (g := (mkF m 1 #[.val (.int p0)] [(.int p0)])) rfl rfl (hb hby d1_1) (by decide) (a := 105) (off := 75) (by rw [hs1_3]; decide) (show (0 : Int) ≤ ((1 : Nat) : Int) + 75 from by decide) _ kt) ?_
    refine own_via (A' := s₁.setTop (mkF m 77 #[.val (.int p0)] [(.int (2 : Int32))])) (fun target kt => ?_) ?_
    · show Steps p.tables e below (s₁.setTop (mkF m 76 #[.val (.int p0)] [])) _
      refine XS.iconst X0.here hx rfl (hb hby d1_76) ?_
      exact kt
    exact own_retI X0 Bd.notSynchronized hx Bd.returns (hb hby d1_77) (show Q1 Z p0 h0 n0 _ _ _ from ⟨by rw [show own_of p0 = 2 from by simp [own_of, hs1_0, hs1_1, hs1_2, hs1_3]] <;> rfl, N0, e0⟩) (by decide) (by decide)
  by_cases hs1_4 : p0 = (109 : Int32)
  · refine own_via (A' := s₁.setTop (mkF m 78 #[.val (.int p0)] [])) (fun target kt => X0.lookupswitchHit hx (g := (mkF m 1 #[.val (.int p0)] [(.int p0)])) rfl rfl (hb hby d1_1) (by decide) (a := 109) (off := 77) (by rw [hs1_4]; decide) (show (0 : Int) ≤ ((1 : Nat) : Int) + 77 from by decide) _ kt) ?_
    refine own_via (A' := s₁.setTop (mkF m 80 #[.val (.int p0)] [(.int (8 : Int32))])) (fun target kt => ?_) ?_
    · show Steps p.tables e below (s₁.setTop (mkF m 78 #[.val (.int p0)] [])) _
      refine XS.bipush X0.here hx rfl (hb hby d1_78) ?_
      exact kt
    exact own_retI X0 Bd.notSynchronized hx Bd.returns (hb hby d1_80) (show Q1 Z p0 h0 n0 _ _ _ from ⟨by rw [show own_of p0 = 8 from by simp [own_of, hs1_0, hs1_1, hs1_2, hs1_3, hs1_4]] <;> rfl, N0, e0⟩) (by decide) (by decide)
  by_cases hs1_5 : p0 = (115 : Int32)
  · refine own_via (A' := s₁.setTop (mkF m 81 #[.val (.int p0)] [])) (fun target kt => X0.lookupswitchHit hx (g := (mkF m 1 #[.val (.int p0)] [(.int p0)])) rfl rfl (hb hby d1_1) (by decide) (a := 115) (off := 80) (by rw [hs1_5]; decide) (show (0 : Int) ≤ ((1 : Nat) : Int) + 80 from by decide) _ kt) ?_
    refine own_via (A' := s₁.setTop (mkF m 83 #[.val (.int p0)] [(.int (32 : Int32))])) (fun target kt => ?_) ?_
    · show Steps p.tables e below (s₁.setTop (mkF m 81 #[.val (.int p0)] [])) _
      refine XS.bipush X0.here hx rfl (hb hby d1_81) ?_
      exact kt
    exact own_retI X0 Bd.notSynchronized hx Bd.returns (hb hby d1_83) (show Q1 Z p0 h0 n0 _ _ _ from ⟨by rw [show own_of p0 = 32 from by simp [own_of, hs1_0, hs1_1, hs1_2, hs1_3, hs1_4, hs1_5]] <;> rfl, N0, e0⟩) (by decide) (by decide)
  by_cases hs1_6 : p0 = (117 : Int32)
  · refine own_via (A' := s₁.setTop (mkF m 86 #[.val (.int p0)] [])) (fun target kt => X0.lookupswitchHit hx (g := (mkF m 1 #[.val (.int p0)] [(.int p0)])) rfl rfl (hb hby d1_1) (by decide) (a := 117) (off := 85) (by rw [hs1_6]; decide) (show (0 : Int) ≤ ((1 : Nat) : Int) + 85 from by decide) _ kt) ?_
    refine own_via (A' := s₁.setTop (mkF m 88 #[.val (.int p0)] [(.int (64 : Int32))])) (fun target kt => ?_) ?_
    · show Steps p.tables e below (s₁.setTop (mkF m 86 #[.val (.int p0)] [])) _
      refine XS.bipush X0.here hx rfl (hb hby d1_86) ?_
      exact kt
    exact own_retI X0 Bd.notSynchronized hx Bd.returns (hb hby d1_88) (show Q1 Z p0 h0 n0 _ _ _ from ⟨by rw [show own_of p0 = 64 from by simp [own_of, hs1_0, hs1_1, hs1_2, hs1_3, hs1_4, hs1_5, hs1_6]] <;> rfl, N0, e0⟩) (by decide) (by decide)
  by_cases hs1_7 : p0 = (120 : Int32)
  · refine own_via (A' := s₁.setTop (mkF m 93 #[.val (.int p0)] [])) (fun target kt => X0.lookupswitchHit hx (g := (mkF m 1 #[.val (.int p0)] [(.int p0)])) rfl rfl (hb hby d1_1) (by decide) (a := 120) (off := 92) (by rw [hs1_7]; decide) (show (0 : Int) ≤ ((1 : Nat) : Int) + 92 from by decide) _ kt) ?_
    refine own_via (A' := s₁.setTop (mkF m 94 #[.val (.int p0)] [(.int (4 : Int32))])) (fun target kt => ?_) ?_
    · show Steps p.tables e below (s₁.setTop (mkF m 93 #[.val (.int p0)] [])) _
      refine XS.iconst X0.here hx rfl (hb hby d1_93) ?_
      exact kt
    exact own_retI X0 Bd.notSynchronized hx Bd.returns (hb hby d1_94) (show Q1 Z p0 h0 n0 _ _ _ from ⟨by rw [show own_of p0 = 4 from by simp [own_of, hs1_0, hs1_1, hs1_2, hs1_3, hs1_4, hs1_5, hs1_6, hs1_7]] <;> rfl, N0, e0⟩) (by decide) (by decide)
  have hm1 : ∀ q ∈ (#[(85, 94), (99, 88), (100, 83), (105, 75), (109, 77), (115, 80), (117, 85), (120, 92)] : Array (Int × Int)).toList, q.1 ≠ p0.toInt := by
    intro q hq e
    simp only [List.mem_cons, List.not_mem_nil, or_false] at hq
    rcases hq with rfl | rfl | rfl | rfl | rfl | rfl | rfl | rfl
    · exact hs1_0 (Int32.toInt_inj.mp e.symm)
    · exact hs1_1 (Int32.toInt_inj.mp e.symm)
    · exact hs1_2 (Int32.toInt_inj.mp e.symm)
    · exact hs1_3 (Int32.toInt_inj.mp e.symm)
    · exact hs1_4 (Int32.toInt_inj.mp e.symm)
    · exact hs1_5 (Int32.toInt_inj.mp e.symm)
    · exact hs1_6 (Int32.toInt_inj.mp e.symm)
    · exact hs1_7 (Int32.toInt_inj.mp e.symm)
  refine own_via (A' := s₁.setTop (mkF m 99 #[.val (.int p0)] [])) (fun target kt => X0.lookupswitchMiss hx (g := (mkF m 1 #[.val (.int p0)] [(.int p0)])) rfl rfl (hb hby d1_1) (by decide) (find_miss hm1) (show (0 : Int) ≤ ((1 : Nat) : Int) + 98 from by decide) _ kt) ?_
  refine own_via (A' := s₁.setTop (mkF m 100 #[.val (.int p0)] [(.int (0 : Int32))])) (fun target kt => ?_) ?_
  · show Steps p.tables e below (s₁.setTop (mkF m 99 #[.val (.int p0)] [])) _
    refine XS.iconst X0.here hx rfl (hb hby d1_99) ?_
    exact kt
  exact own_retI X0 Bd.notSynchronized hx Bd.returns (hb hby d1_100) (show Q1 Z p0 h0 n0 _ _ _ from ⟨by rw [show own_of p0 = 0 from by simp [own_of, hs1_0, hs1_1, hs1_2, hs1_3, hs1_4, hs1_5, hs1_6, hs1_7]] <;> rfl, N0, e0⟩) (by decide) (by decide)
theorem d2_0 : decode method_2_code 0 = .ok (.iload_n 0, 1) := by decide +kernel
theorem d2_1 : decode method_2_code 1 = .ok (.bipush 105, 2) := by decide +kernel
theorem d2_3 : decode method_2_code 3 = .ok (.if_icmp .ne 5, 3) := by decide +kernel
theorem d2_6 : decode method_2_code 6 = .ok (.iconst 2, 1) := by decide +kernel
theorem d2_7 : decode method_2_code 7 = .ok (.ireturn, 1) := by decide +kernel
theorem d2_8 : decode method_2_code 8 = .ok (.iload_n 0, 1) := by decide +kernel
theorem d2_9 : decode method_2_code 9 = .ok (.bipush 109, 2) := by decide +kernel
theorem d2_11 : decode method_2_code 11 = .ok (.if_icmp .ne 6, 3) := by decide +kernel
theorem d2_14 : decode method_2_code 14 = .ok (.bipush 8, 2) := by decide +kernel
theorem d2_16 : decode method_2_code 16 = .ok (.ireturn, 1) := by decide +kernel
theorem d2_17 : decode method_2_code 17 = .ok (.iload_n 0, 1) := by decide +kernel
theorem d2_18 : decode method_2_code 18 = .ok (.bipush 115, 2) := by decide +kernel
theorem d2_20 : decode method_2_code 20 = .ok (.if_icmp .ne 6, 3) := by decide +kernel
theorem d2_23 : decode method_2_code 23 = .ok (.bipush 32, 2) := by decide +kernel
theorem d2_25 : decode method_2_code 25 = .ok (.ireturn, 1) := by decide +kernel
theorem d2_26 : decode method_2_code 26 = .ok (.iload_n 0, 1) := by decide +kernel
theorem d2_27 : decode method_2_code 27 = .ok (.bipush 100, 2) := by decide +kernel
theorem d2_29 : decode method_2_code 29 = .ok (.if_icmp .ne 5, 3) := by decide +kernel
theorem d2_32 : decode method_2_code 32 = .ok (.iconst 1, 1) := by decide +kernel
theorem d2_33 : decode method_2_code 33 = .ok (.ireturn, 1) := by decide +kernel
theorem d2_34 : decode method_2_code 34 = .ok (.iload_n 0, 1) := by decide +kernel
theorem d2_35 : decode method_2_code 35 = .ok (.bipush 117, 2) := by decide +kernel
theorem d2_37 : decode method_2_code 37 = .ok (.if_icmp .ne 6, 3) := by decide +kernel
theorem d2_40 : decode method_2_code 40 = .ok (.bipush 64, 2) := by decide +kernel
theorem d2_42 : decode method_2_code 42 = .ok (.ireturn, 1) := by decide +kernel
theorem d2_43 : decode method_2_code 43 = .ok (.iload_n 0, 1) := by decide +kernel
theorem d2_44 : decode method_2_code 44 = .ok (.bipush 99, 2) := by decide +kernel
theorem d2_46 : decode method_2_code 46 = .ok (.if_icmp .ne 7, 3) := by decide +kernel
theorem d2_49 : decode method_2_code 49 = .ok (.sipush 128, 3) := by decide +kernel
theorem d2_52 : decode method_2_code 52 = .ok (.ireturn, 1) := by decide +kernel
theorem d2_53 : decode method_2_code 53 = .ok (.iload_n 0, 1) := by decide +kernel
theorem d2_54 : decode method_2_code 54 = .ok (.bipush 120, 2) := by decide +kernel
theorem d2_56 : decode method_2_code 56 = .ok (.if_icmp .ne 5, 3) := by decide +kernel
theorem d2_59 : decode method_2_code 59 = .ok (.iconst 4, 1) := by decide +kernel
theorem d2_60 : decode method_2_code 60 = .ok (.ireturn, 1) := by decide +kernel
theorem d2_61 : decode method_2_code 61 = .ok (.iload_n 0, 1) := by decide +kernel
theorem d2_62 : decode method_2_code 62 = .ok (.bipush 85, 2) := by decide +kernel
theorem d2_64 : decode method_2_code 64 = .ok (.if_icmp .ne 7, 3) := by decide +kernel
theorem d2_67 : decode method_2_code 67 = .ok (.sipush 320, 3) := by decide +kernel
theorem d2_70 : decode method_2_code 70 = .ok (.ireturn, 1) := by decide +kernel
theorem d2_71 : decode method_2_code 71 = .ok (.iconst 0, 1) := by decide +kernel
theorem d2_72 : decode method_2_code 72 = .ok (.ireturn, 1) := by decide +kernel
theorem pn_2 : plainName "holdfast/FlagsOfLetterPinLaw" = true := by first | (simp [plainName, overriddenIn]; done) | decide +kernel
theorem ef_2 (m : MethodId) (p0 : Int32) : entryFrame m #[(.int p0)] 1 = mkF m 0 #[.val (.int p0)] [] := by first | (simp [entryFrame, mkF, argsToLocals, Value.category]; done) | rfl
def Q2 (Z : State) (p0 : Int32)  (h0 : Heap) (n0 : Nat) (v : Option Value) (h : Heap) (L : List Loc) : Prop := v = some (.int (own_exp p0)) ∧ Fr n0 L ∧ h = h0
set_option maxRecDepth 65536 in
set_option maxHeartbeats 40000000 in
theorem rm2 (l : Launch) (Z : State) (a0 : Array Value) (hw : ∀ d ∈ tables_1, d.before a0 Z = true) (ws : List Jvm.Cond) (p0 : Int32)  (h0 : Heap) (n0 : Nat) (Z0 : n0 ≤ h0.size)  :
    MetFree l (⟨"holdfast/FlagsOfLetterPinLaw", "expected", "(I)I"⟩ : MethodName) (head1 (Jvm.Cond.code (⟨"holdfast/FlagsOfLetterPinLaw", "expected", "(I)I"⟩ : MethodName) method_2_code 1 (some .int) :: ws) ({ frames := 0, cells := 0, slots := 0, locals := 0 } : Room)) (fun a U => a = #[(.int p0)] ∧ Z.Warmed39 U.vm ∧ U.heap = h0) (fun _ _ _ _ _ => True) (fun _ U o U' => ∃ v L, o = .returned v ∧ Q2 Z p0 h0 n0 v U'.heap L ∧ FrameEnd U o U' L ({ frames := 0, cells := 0, slots := 0, locals := 0 } : Room).cells ({ frames := 0, cells := 0, slots := 0, locals := 0 } : Room).slots) := by
  refine MetFree.of_bodySF (plainFor_of_name pn_2) hisR ?_
  intro p e s m args below meth c s₁ Bd hml0 hP hK
  obtain ⟨rfl, hZ, hh⟩ := hP
  have hx := Bd.exec
  have hby := Bd.bytes
  have hml : c.maxLocals = 1 := hml0
  have hown : s.vm.findClass "holdfast/FlagsOfLetterPinLaw" = some m.cls := findClass_of_methodNamed Bd.named
  have X0 : Stand p l e ({ frames := 0, cells := 0, slots := 0, locals := 0 } : Room) s m #[(.int p0)] below meth c s₁ [] 0 0 := Stand.of_body Bd
  have e0 : s₁.heap = h0 := by rw [← hh, Bd.state]; rfl
  have N0 := Fr.nil n0
  show own_G p e below (own_P s (Q2 Z p0 h0 n0) 0 0) _
  refine own_via (A' := s₁.setTop (mkF m 0 #[.val (.int p0)] [])) (fun t k => castTop (ef_2 m p0) k) ?_
  refine own_via (A' := s₁.setTop (mkF m 3 #[.val (.int p0)] [(.int (105 : Int32)), (.int p0)])) (fun target kt => ?_) ?_
  · show Steps p.tables e below (s₁.setTop (mkF m 0 #[.val (.int p0)] [])) _
    refine XS.iloadN X0.here hx rfl (hb hby d2_0) rfl ?_
    show Steps p.tables e below (s₁.setTop (mkF m 1 #[.val (.int p0)] [(.int p0)])) _
    refine XS.bipush X0.here hx rfl (hb hby d2_1) ?_
    exact kt
  by_cases hc3 : p0 = (105 : Int32)
  · refine own_via (A' := s₁.setTop (mkF m 6 #[.val (.int p0)] [])) (fun target kt => XS.icmpNo X0.here hx rfl (hb hby d2_3) rfl (teq hc3).2 kt) ?_
    refine own_via (A' := s₁.setTop (mkF m 7 #[.val (.int p0)] [(.int (2 : Int32))])) (fun target kt => ?_) ?_
    · show Steps p.tables e below (s₁.setTop (mkF m 6 #[.val (.int p0)] [])) _
      refine XS.iconst X0.here hx rfl (hb hby d2_6) ?_
      exact kt
    exact own_retI X0 Bd.notSynchronized hx Bd.returns (hb hby d2_7) (show Q2 Z p0 h0 n0 _ _ _ from ⟨by rw [show own_exp p0 = 2 from by simp [own_exp, hc3]] <;> rfl, N0, e0⟩) (by decide) (by decide)
  · refine own_via (A' := s₁.setTop (mkF m 8 #[.val (.int p0)] [])) (fun target kt => XS.icmpYes X0.here hx rfl (pc0 := 3) (pc' := 8) rfl (hb hby d2_3) rfl (feq hc3).2 (by decide) (by decide) kt) ?_
    refine own_via (A' := s₁.setTop (mkF m 11 #[.val (.int p0)] [(.int (109 : Int32)), (.int p0)])) (fun target kt => ?_) ?_
    · show Steps p.tables e below (s₁.setTop (mkF m 8 #[.val (.int p0)] [])) _
      refine XS.iloadN X0.here hx rfl (hb hby d2_8) rfl ?_
      show Steps p.tables e below (s₁.setTop (mkF m 9 #[.val (.int p0)] [(.int p0)])) _
      refine XS.bipush X0.here hx rfl (hb hby d2_9) ?_
      exact kt
    by_cases hc11 : p0 = (109 : Int32)
    · refine own_via (A' := s₁.setTop (mkF m 14 #[.val (.int p0)] [])) (fun target kt => XS.icmpNo X0.here hx rfl (hb hby d2_11) rfl (teq hc11).2 kt) ?_
      refine own_via (A' := s₁.setTop (mkF m 16 #[.val (.int p0)] [(.int (8 : Int32))])) (fun target kt => ?_) ?_
      · show Steps p.tables e below (s₁.setTop (mkF m 14 #[.val (.int p0)] [])) _
        refine XS.bipush X0.here hx rfl (hb hby d2_14) ?_
        exact kt
      exact own_retI X0 Bd.notSynchronized hx Bd.returns (hb hby d2_16) (show Q2 Z p0 h0 n0 _ _ _ from ⟨by rw [show own_exp p0 = 8 from by simp [own_exp, hc3, hc11]] <;> rfl, N0, e0⟩) (by decide) (by decide)
    · refine own_via (A' := s₁.setTop (mkF m 17 #[.val (.int p0)] [])) (fun target kt => XS.icmpYes X0.here hx rfl (pc0 := 11) (pc' := 17) rfl (hb hby d2_11) rfl (feq hc11).2 (by decide) (by decide) kt) ?_
      refine own_via (A' := s₁.setTop (mkF m 20 #[.val (.int p0)] [(.int (115 : Int32)), (.int p0)])) (fun target kt => ?_) ?_
      · show Steps p.tables e below (s₁.setTop (mkF m 17 #[.val (.int p0)] [])) _
        refine XS.iloadN X0.here hx rfl (hb hby d2_17) rfl ?_
        show Steps p.tables e below (s₁.setTop (mkF m 18 #[.val (.int p0)] [(.int p0)])) _
        refine XS.bipush X0.here hx rfl (hb hby d2_18) ?_
        exact kt
      by_cases hc20 : p0 = (115 : Int32)
      · refine own_via (A' := s₁.setTop (mkF m 23 #[.val (.int p0)] [])) (fun target kt => XS.icmpNo X0.here hx rfl (hb hby d2_20) rfl (teq hc20).2 kt) ?_
        refine own_via (A' := s₁.setTop (mkF m 25 #[.val (.int p0)] [(.int (32 : Int32))])) (fun target kt => ?_) ?_
        · show Steps p.tables e below (s₁.setTop (mkF m 23 #[.val (.int p0)] [])) _
          refine XS.bipush X0.here hx rfl (hb hby d2_23) ?_
          exact kt
        exact own_retI X0 Bd.notSynchronized hx Bd.returns (hb hby d2_25) (show Q2 Z p0 h0 n0 _ _ _ from ⟨by rw [show own_exp p0 = 32 from by simp [own_exp, hc3, hc11, hc20]] <;> rfl, N0, e0⟩) (by decide) (by decide)
      · refine own_via (A' := s₁.setTop (mkF m 26 #[.val (.int p0)] [])) (fun target kt => XS.icmpYes X0.here hx rfl (pc0 := 20) (pc' := 26) rfl (hb hby d2_20) rfl (feq hc20).2 (by decide) (by decide) kt) ?_
        refine own_via (A' := s₁.setTop (mkF m 29 #[.val (.int p0)] [(.int (100 : Int32)), (.int p0)])) (fun target kt => ?_) ?_
        · show Steps p.tables e below (s₁.setTop (mkF m 26 #[.val (.int p0)] [])) _
          refine XS.iloadN X0.here hx rfl (hb hby d2_26) rfl ?_
          show Steps p.tables e below (s₁.setTop (mkF m 27 #[.val (.int p0)] [(.int p0)])) _
          refine XS.bipush X0.here hx rfl (hb hby d2_27) ?_
          exact kt
        by_cases hc29 : p0 = (100 : Int32)
        · refine own_via (A' := s₁.setTop (mkF m 32 #[.val (.int p0)] [])) (fun target kt => XS.icmpNo X0.here hx rfl (hb hby d2_29) rfl (teq hc29).2 kt) ?_
          refine own_via (A' := s₁.setTop (mkF m 33 #[.val (.int p0)] [(.int (1 : Int32))])) (fun target kt => ?_) ?_
          · show Steps p.tables e below (s₁.setTop (mkF m 32 #[.val (.int p0)] [])) _
            refine XS.iconst X0.here hx rfl (hb hby d2_32) ?_
            exact kt
          exact own_retI X0 Bd.notSynchronized hx Bd.returns (hb hby d2_33) (show Q2 Z p0 h0 n0 _ _ _ from ⟨by rw [show own_exp p0 = 1 from by simp [own_exp, hc3, hc11, hc20, hc29]] <;> rfl, N0, e0⟩) (by decide) (by decide)
        · refine own_via (A' := s₁.setTop (mkF m 34 #[.val (.int p0)] [])) (fun target kt => XS.icmpYes X0.here hx rfl (pc0 := 29) (pc' := 34) rfl (hb hby d2_29) rfl (feq hc29).2 (by decide) (by decide) kt) ?_
          refine own_via (A' := s₁.setTop (mkF m 37 #[.val (.int p0)] [(.int (117 : Int32)), (.int p0)])) (fun target kt => ?_) ?_
          · show Steps p.tables e below (s₁.setTop (mkF m 34 #[.val (.int p0)] [])) _
            refine XS.iloadN X0.here hx rfl (hb hby d2_34) rfl ?_
            show Steps p.tables e below (s₁.setTop (mkF m 35 #[.val (.int p0)] [(.int p0)])) _
            refine XS.bipush X0.here hx rfl (hb hby d2_35) ?_
            exact kt
          by_cases hc37 : p0 = (117 : Int32)
          · refine own_via (A' := s₁.setTop (mkF m 40 #[.val (.int p0)] [])) (fun target kt => XS.icmpNo X0.here hx rfl (hb hby d2_37) rfl (teq hc37).2 kt) ?_
            refine own_via (A' := s₁.setTop (mkF m 42 #[.val (.int p0)] [(.int (64 : Int32))])) (fun target kt => ?_) ?_
            · show Steps p.tables e below (s₁.setTop (mkF m 40 #[.val (.int p0)] [])) _
              refine XS.bipush X0.here hx rfl (hb hby d2_40) ?_
              exact kt
            exact own_retI X0 Bd.notSynchronized hx Bd.returns (hb hby d2_42) (show Q2 Z p0 h0 n0 _ _ _ from ⟨by rw [show own_exp p0 = 64 from by simp [own_exp, hc3, hc11, hc20, hc29, hc37]] <;> rfl, N0, e0⟩) (by decide) (by decide)
          · refine own_via (A' := s₁.setTop (mkF m 43 #[.val (.int p0)] [])) (fun target kt => XS.icmpYes X0.here hx rfl (pc0 := 37) (pc' := 43) rfl (hb hby d2_37) rfl (feq hc37).2 (by decide) (by decide) kt) ?_
            refine own_via (A' := s₁.setTop (mkF m 46 #[.val (.int p0)] [(.int (99 : Int32)), (.int p0)])) (fun target kt => ?_) ?_
            · show Steps p.tables e below (s₁.setTop (mkF m 43 #[.val (.int p0)] [])) _
              refine XS.iloadN X0.here hx rfl (hb hby d2_43) rfl ?_
              show Steps p.tables e below (s₁.setTop (mkF m 44 #[.val (.int p0)] [(.int p0)])) _
              refine XS.bipush X0.here hx rfl (hb hby d2_44) ?_
              exact kt
            by_cases hc46 : p0 = (99 : Int32)
            · refine own_via (A' := s₁.setTop (mkF m 49 #[.val (.int p0)] [])) (fun target kt => XS.icmpNo X0.here hx rfl (hb hby d2_46) rfl (teq hc46).2 kt) ?_
              refine own_via (A' := s₁.setTop (mkF m 52 #[.val (.int p0)] [(.int (128 : Int32))])) (fun target kt => ?_) ?_
              · show Steps p.tables e below (s₁.setTop (mkF m 49 #[.val (.int p0)] [])) _
                refine XS.sipush X0.here hx rfl (hb hby d2_49) ?_
                exact kt
              exact own_retI X0 Bd.notSynchronized hx Bd.returns (hb hby d2_52) (show Q2 Z p0 h0 n0 _ _ _ from ⟨by rw [show own_exp p0 = 128 from by simp [own_exp, hc3, hc11, hc20, hc29, hc37, hc46]] <;> rfl, N0, e0⟩) (by decide) (by decide)
            · refine own_via (A' := s₁.setTop (mkF m 53 #[.val (.int p0)] [])) (fun target kt => XS.icmpYes X0.here hx rfl (pc0 := 46) (pc' := 53) rfl (hb hby d2_46) rfl (feq hc46).2 (by decide) (by decide) kt) ?_
              refine own_via (A' := s₁.setTop (mkF m 56 #[.val (.int p0)] [(.int (120 : Int32)), (.int p0)])) (fun target kt => ?_) ?_
              · show Steps p.tables e below (s₁.setTop (mkF m 53 #[.val (.int p0)] [])) _
                refine XS.iloadN X0.here hx rfl (hb hby d2_53) rfl ?_
                show Steps p.tables e below (s₁.setTop (mkF m 54 #[.val (.int p0)] [(.int p0)])) _
                refine XS.bipush X0.here hx rfl (hb hby d2_54) ?_
                exact kt
              by_cases hc56 : p0 = (120 : Int32)
              · refine own_via (A' := s₁.setTop (mkF m 59 #[.val (.int p0)] [])) (fun target kt => XS.icmpNo X0.here hx rfl (hb hby d2_56) rfl (teq hc56).2 kt) ?_
                refine own_via (A' := s₁.setTop (mkF m 60 #[.val (.int p0)] [(.int (4 : Int32))])) (fun target kt => ?_) ?_
                · show Steps p.tables e below (s₁.setTop (mkF m 59 #[.val (.int p0)] [])) _
                  refine XS.iconst X0.here hx rfl (hb hby d2_59) ?_
                  exact kt
                exact own_retI X0 Bd.notSynchronized hx Bd.returns (hb hby d2_60) (show Q2 Z p0 h0 n0 _ _ _ from ⟨by rw [show own_exp p0 = 4 from by simp [own_exp, hc3, hc11, hc20, hc29, hc37, hc46, hc56]] <;> rfl, N0, e0⟩) (by decide) (by decide)
              · refine own_via (A' := s₁.setTop (mkF m 61 #[.val (.int p0)] [])) (fun target kt => XS.icmpYes X0.here hx rfl (pc0 := 56) (pc' := 61) rfl (hb hby d2_56) rfl (feq hc56).2 (by decide) (by decide) kt) ?_
                refine own_via (A' := s₁.setTop (mkF m 64 #[.val (.int p0)] [(.int (85 : Int32)), (.int p0)])) (fun target kt => ?_) ?_
                · show Steps p.tables e below (s₁.setTop (mkF m 61 #[.val (.int p0)] [])) _
                  refine XS.iloadN X0.here hx rfl (hb hby d2_61) rfl ?_
                  show Steps p.tables e below (s₁.setTop (mkF m 62 #[.val (.int p0)] [(.int p0)])) _
                  refine XS.bipush X0.here hx rfl (hb hby d2_62) ?_
                  exact kt
                by_cases hc64 : p0 = (85 : Int32)
                · refine own_via (A' := s₁.setTop (mkF m 67 #[.val (.int p0)] [])) (fun target kt => XS.icmpNo X0.here hx rfl (hb hby d2_64) rfl (teq hc64).2 kt) ?_
                  refine own_via (A' := s₁.setTop (mkF m 70 #[.val (.int p0)] [(.int (320 : Int32))])) (fun target kt => ?_) ?_
                  · show Steps p.tables e below (s₁.setTop (mkF m 67 #[.val (.int p0)] [])) _
                    refine XS.sipush X0.here hx rfl (hb hby d2_67) ?_
                    exact kt
                  exact own_retI X0 Bd.notSynchronized hx Bd.returns (hb hby d2_70) (show Q2 Z p0 h0 n0 _ _ _ from ⟨by rw [show own_exp p0 = 320 from by simp [own_exp, hc3, hc11, hc20, hc29, hc37, hc46, hc56, hc64]] <;> rfl, N0, e0⟩) (by decide) (by decide)
                · refine own_via (A' := s₁.setTop (mkF m 71 #[.val (.int p0)] [])) (fun target kt => XS.icmpYes X0.here hx rfl (pc0 := 64) (pc' := 71) rfl (hb hby d2_64) rfl (feq hc64).2 (by decide) (by decide) kt) ?_
                  refine own_via (A' := s₁.setTop (mkF m 72 #[.val (.int p0)] [(.int (0 : Int32))])) (fun target kt => ?_) ?_
                  · show Steps p.tables e below (s₁.setTop (mkF m 71 #[.val (.int p0)] [])) _
                    refine XS.iconst X0.here hx rfl (hb hby d2_71) ?_
                    exact kt
                  exact own_retI X0 Bd.notSynchronized hx Bd.returns (hb hby d2_72) (show Q2 Z p0 h0 n0 _ _ _ from ⟨by rw [show own_exp p0 = 0 from by simp [own_exp, hc3, hc11, hc20, hc29, hc37, hc46, hc56, hc64]] <;> rfl, N0, e0⟩) (by decide) (by decide)
theorem pn_0 : plainName "holdfast/FlagsOfLetterPinLaw" = true := by first | (simp [plainName, overriddenIn]; done) | decide +kernel
theorem pd_0_0 : parseMethodDescriptor "(I)I" = some ⟨[.int], some .int⟩ := by decide +kernel
theorem ef_0 (m : MethodId) (p0 : Int32) (p1 : Int32) : entryFrame m #[(.int p0), (.int p1)] maxLocals = mkF m 0 #[.val (.int p0), .val (.int p1), .unset, .unset, .unset] [] := by first | (simp [entryFrame, mkF, argsToLocals, Value.category, maxLocals]; done) | rfl
def Q0 (Z : State) (p0 : Int32) (p1 : Int32)  (h0 : Heap) (n0 : Nat) (v : Option Value) (h : Heap) (L : List Loc) : Prop := v = some (.int 1) ∧ Fr n0 L
set_option maxRecDepth 65536 in
set_option maxHeartbeats 40000000 in
theorem rm0 (l : Launch) (Z : State) (a0 : Array Value) (hw : ∀ d ∈ tables_1, d.before a0 Z = true) (ws : List Jvm.Cond) (p0 : Int32) (p1 : Int32)  (h0 : Heap) (n0 : Nat) (Z0 : n0 ≤ h0.size)  :
    MetFree l x (head1 (Jvm.Cond.code x code maxLocals ret :: ws) room_1) (fun a U => a = #[(.int p0), (.int p1)] ∧ Z.Warmed39 U.vm ∧ U.heap = h0) (fun _ _ _ _ _ => True) (fun _ U o U' => ∃ v L, o = .returned v ∧ Q0 Z p0 p1 h0 n0 v U'.heap L ∧ FrameEnd U o U' L 0 0) := by
  refine MetFree.of_bodySF (plainFor_of_name pn_0) hisR ?_
  intro p e s m args below meth c s₁ Bd hml0 hP hK
  obtain ⟨rfl, hZ, hh⟩ := hP
  have hx := Bd.exec
  have hby := Bd.bytes
  have hml : c.maxLocals = 5 := hml0
  have hown : s.vm.findClass "holdfast/FlagsOfLetterPinLaw" = some m.cls := findClass_of_methodNamed Bd.named
  have X0 : Stand p l e room_1 s m #[(.int p0), (.int p1)] below meth c s₁ [] 0 0 := Stand.of_body Bd
  have e0 : s₁.heap = h0 := by rw [← hh, Bd.state]; rfl
  have N0 := Fr.nil n0
  show own_G p e below (own_P s (Q0 Z p0 p1 h0 n0) 0 0) _
  refine own_via (A' := s₁.setTop (mkF m 0 #[.val (.int p0), .val (.int p1), .unset, .unset, .unset] [])) (fun t k => castTop (ef_0 m p0 p1) k) ?_
  refine own_via (A' := s₁.setTop (mkF m 3 #[.val (.int p0), .val (.int p1), .unset, .unset, .unset] [(.int (p1 &&& (1 : Int32)))])) (fun target kt => ?_) ?_
  · show Steps p.tables e below (s₁.setTop (mkF m 0 #[.val (.int p0), .val (.int p1), .unset, .unset, .unset] [])) _
    refine XS.iloadN X0.here hx rfl (hb hby at_0) rfl ?_
    show Steps p.tables e below (s₁.setTop (mkF m 1 #[.val (.int p0), .val (.int p1), .unset, .unset, .unset] [(.int p1)])) _
    refine XS.iconst X0.here hx rfl (hb hby at_1) ?_
    show Steps p.tables e below (s₁.setTop (mkF m 2 #[.val (.int p0), .val (.int p1), .unset, .unset, .unset] [(.int (1 : Int32)), (.int p1)])) _
    refine XS.iand X0.here hx rfl (hb hby at_2) rfl ?_
    exact kt
  by_cases hc3 : (p1 &&& (1 : Int32)) = (0 : Int32)
  · refine own_via (A' := s₁.setTop (mkF m 10 #[.val (.int p0), .val (.int p1), .unset, .unset, .unset] [])) (fun target kt => XS.ifYes X0.here hx rfl (pc0 := 3) (pc' := 10) rfl (hb hby at_3) rfl ((if0 _ _).trans (teq hc3).1) (by decide) (by decide) kt) ?_
    refine own_via (A' := s₁.setTop (mkF m 13 #[.val (.int p0), .val (.int p1), .val (.int (0 : Int32)), .unset, .unset] [(.int (0 : Int32))])) (fun target kt => ?_) ?_
    · show Steps p.tables e below (s₁.setTop (mkF m 10 #[.val (.int p0), .val (.int p1), .unset, .unset, .unset] [])) _
      refine XS.iconst X0.here hx rfl (hb hby at_10) ?_
      show Steps p.tables e below (s₁.setTop (mkF m 11 #[.val (.int p0), .val (.int p1), .unset, .unset, .unset] [(.int (0 : Int32))])) _
      refine XS.istoreN X0.here hx rfl (hb hby at_11) rfl (l' := #[.val (.int p0), .val (.int p1), .val (.int (0 : Int32)), .unset, .unset]) rfl ?_
      show Steps p.tables e below (s₁.setTop (mkF m 12 #[.val (.int p0), .val (.int p1), .val (.int (0 : Int32)), .unset, .unset] [])) _
      refine XS.iloadN X0.here hx rfl (hb hby at_12) rfl ?_
      exact kt
    refine own_via (A' := s₁.setTop (mkF m 20 #[.val (.int p0), .val (.int p1), .val (.int (0 : Int32)), .unset, .unset] [])) (fun target kt => XS.ifYes X0.here hx rfl (pc0 := 13) (pc' := 20) rfl (hb hby at_13) rfl ((if0 _ _).trans (teq ((by decide) : (0 : Int32) = (0 : Int32))).1) (by decide) (by decide) kt) ?_
    refine own_via (A' := s₁.setTop (mkF m 27 #[.val (.int p0), .val (.int p1), .val (.int (0 : Int32)), .val (.int (p0 &&& (255 : Int32))), .unset] [(.int (p0 &&& (255 : Int32)))])) (fun target kt => ?_) ?_
    · show Steps p.tables e below (s₁.setTop (mkF m 20 #[.val (.int p0), .val (.int p1), .val (.int (0 : Int32)), .unset, .unset] [])) _
      refine XS.iloadN X0.here hx rfl (hb hby at_20) rfl ?_
      show Steps p.tables e below (s₁.setTop (mkF m 21 #[.val (.int p0), .val (.int p1), .val (.int (0 : Int32)), .unset, .unset] [(.int p0)])) _
      refine XS.sipush X0.here hx rfl (hb hby at_21) ?_
      show Steps p.tables e below (s₁.setTop (mkF m 24 #[.val (.int p0), .val (.int p1), .val (.int (0 : Int32)), .unset, .unset] [(.int (255 : Int32)), (.int p0)])) _
      refine XS.iand X0.here hx rfl (hb hby at_24) rfl ?_
      show Steps p.tables e below (s₁.setTop (mkF m 25 #[.val (.int p0), .val (.int p1), .val (.int (0 : Int32)), .unset, .unset] [(.int (p0 &&& (255 : Int32)))])) _
      refine XS.istoreN X0.here hx rfl (hb hby at_25) rfl (l' := #[.val (.int p0), .val (.int p1), .val (.int (0 : Int32)), .val (.int (p0 &&& (255 : Int32))), .unset]) rfl ?_
      show Steps p.tables e below (s₁.setTop (mkF m 26 #[.val (.int p0), .val (.int p1), .val (.int (0 : Int32)), .val (.int (p0 &&& (255 : Int32))), .unset] [])) _
      refine XS.iloadN X0.here hx rfl (hb hby at_26) rfl ?_
      exact kt
    obtain ⟨_, _, ⟨T1, L1, k1, n1⟩, -, X1, ⟨Lc1, hQ1, l1, y1, z1⟩, st1⟩ := Jvm.LawKit.callS X0 hx (y := (⟨"holdfast/Flags", "ofLetter", "(I)I"⟩ : MethodName)) hown (mvT hZ (hw _ (List.mem_of_getElem? (i := 0) rfl))) (mvT hZ (hw _ (List.mem_of_getElem? (i := 1) rfl))) (mvT hZ (hw _ (List.mem_of_getElem? (i := 2) rfl))) (mvT hZ (hw _ (List.mem_of_getElem? (i := 3) rfl))) (by decide) (backOf (W := 0) (rm1 l Z a0 hw [] (p0 &&& (255 : Int32))  h0 n0 Z0 ) hZ (hw _ (List.mem_of_getElem? (i := 3) rfl)) (hw _ (List.mem_of_getElem? (i := 2) rfl)) (by decide) (by decide)) (g := (mkF m 27 #[.val (.int p0), .val (.int p1), .val (.int (0 : Int32)), .val (.int (p0 &&& (255 : Int32))), .unset] [(.int (p0 &&& (255 : Int32)))])) rfl (by rw [hml]; rfl) (argsL := [(.int (p0 &&& (255 : Int32)))]) (rest := []) (lenOf pd_0_0 rfl) rfl (by show 2 * 0 + _ ≤ _; exact Nat.le_of_eq rfl) (hb hby at_27) (fun _ _ => ⟨rfl, e0, (by decide : 0 + 0 ≤ _), (by decide : 0 + 0 ≤ _)⟩)
    dsimp only [Pt.U, Pt.locs, Pt.cells, Pt.slots] at X1 l1 y1 z1 st1 hQ1
    subst l1 y1 z1
    obtain ⟨rfl, N1q, e1⟩ := hQ1
    have N1 := Fr.app N0 N1q
    refine own_via (A' := T1.setTop (mkF m 30 #[.val (.int p0), .val (.int p1), .val (.int (0 : Int32)), .val (.int (p0 &&& (255 : Int32))), .unset] [(.int (own_of (p0 &&& (255 : Int32))))])) st1 ?_
    refine own_via (A' := T1.setTop (mkF m 35 #[.val (.int p0), .val (.int p1), .val (.int (0 : Int32)), .val (.int (p0 &&& (255 : Int32))), .val (.int (own_of (p0 &&& (255 : Int32))))] [(.int (p0 &&& (255 : Int32))), (.int (own_of (p0 &&& (255 : Int32))))])) (fun target kt => ?_) ?_
    · show Steps p.tables e below (T1.setTop (mkF m 30 #[.val (.int p0), .val (.int p1), .val (.int (0 : Int32)), .val (.int (p0 &&& (255 : Int32))), .unset] [(.int (own_of (p0 &&& (255 : Int32))))])) _
      refine XS.istore X1.here hx rfl (hb hby at_30) rfl (l' := #[.val (.int p0), .val (.int p1), .val (.int (0 : Int32)), .val (.int (p0 &&& (255 : Int32))), .val (.int (own_of (p0 &&& (255 : Int32))))]) rfl ?_
      show Steps p.tables e below (T1.setTop (mkF m 32 #[.val (.int p0), .val (.int p1), .val (.int (0 : Int32)), .val (.int (p0 &&& (255 : Int32))), .val (.int (own_of (p0 &&& (255 : Int32))))] [])) _
      refine XS.iload X1.here hx rfl (hb hby at_32) rfl ?_
      show Steps p.tables e below (T1.setTop (mkF m 34 #[.val (.int p0), .val (.int p1), .val (.int (0 : Int32)), .val (.int (p0 &&& (255 : Int32))), .val (.int (own_of (p0 &&& (255 : Int32))))] [(.int (own_of (p0 &&& (255 : Int32))))])) _
      refine XS.iloadN X1.here hx rfl (hb hby at_34) rfl ?_
      exact kt
    obtain ⟨_, _, ⟨T2, L2, k2, n2⟩, -, X2, ⟨Lc2, hQ2, l2, y2, z2⟩, st2⟩ := Jvm.LawKit.callS X1 hx (y := (⟨"holdfast/FlagsOfLetterPinLaw", "expected", "(I)I"⟩ : MethodName)) hown (mvT hZ (hw _ (List.mem_of_getElem? (i := 4) rfl))) (mvT hZ (hw _ (List.mem_of_getElem? (i := 5) rfl))) (mvT hZ (hw _ (List.mem_of_getElem? (i := 6) rfl))) (mvT hZ (hw _ (List.mem_of_getElem? (i := 7) rfl))) (by decide) (backOf (W := 1) (rm2 l Z a0 hw [] (p0 &&& (255 : Int32))  h0 n0 Z0 ) hZ (hw _ (List.mem_of_getElem? (i := 7) rfl)) (hw _ (List.mem_of_getElem? (i := 6) rfl)) (by decide) (by decide)) (g := (mkF m 35 #[.val (.int p0), .val (.int p1), .val (.int (0 : Int32)), .val (.int (p0 &&& (255 : Int32))), .val (.int (own_of (p0 &&& (255 : Int32))))] [(.int (p0 &&& (255 : Int32))), (.int (own_of (p0 &&& (255 : Int32))))])) rfl (by rw [hml]; rfl) (argsL := [(.int (p0 &&& (255 : Int32)))]) (rest := [(.int (own_of (p0 &&& (255 : Int32))))]) (lenOf pd_0_0 rfl) rfl (by show 2 * 0 + _ ≤ _; exact Nat.le_of_eq rfl) (hb hby at_35) (fun _ _ => ⟨rfl, e1, (by decide : 0 + 0 ≤ _), (by decide : 0 + 0 ≤ _)⟩)
    dsimp only [Pt.U, Pt.locs, Pt.cells, Pt.slots] at X2 l2 y2 z2 st2 hQ2
    subst l2 y2 z2
    obtain ⟨rfl, N2q, e2⟩ := hQ2
    have N2 := Fr.app N1 N2q
    refine own_via (A' := T2.setTop (mkF m 38 #[.val (.int p0), .val (.int p1), .val (.int (0 : Int32)), .val (.int (p0 &&& (255 : Int32))), .val (.int (own_of (p0 &&& (255 : Int32))))] [(.int (own_exp (p0 &&& (255 : Int32)))), (.int (own_of (p0 &&& (255 : Int32))))])) st2 ?_
    refine own_via (A' := T2.setTop (mkF m 41 #[.val (.int p0), .val (.int p1), .val (.int (0 : Int32)), .val (.int (p0 &&& (255 : Int32))), .val (.int (own_of (p0 &&& (255 : Int32))))] [])) (fun target kt => XS.icmpNo X2.here hx rfl (hb hby at_38) rfl (teq (own_same _ : (own_of (p0 &&& (255 : Int32))) = (own_exp (p0 &&& (255 : Int32))))).2 kt) ?_
    refine own_via (A' := T2.setTop (mkF m 46 #[.val (.int p0), .val (.int p1), .val (.int (0 : Int32)), .val (.int (p0 &&& (255 : Int32))), .val (.int (own_of (p0 &&& (255 : Int32))))] [(.int (1 : Int32))])) (fun target kt => ?_) ?_
    · show Steps p.tables e below (T2.setTop (mkF m 41 #[.val (.int p0), .val (.int p1), .val (.int (0 : Int32)), .val (.int (p0 &&& (255 : Int32))), .val (.int (own_of (p0 &&& (255 : Int32))))] [])) _
      refine XS.iconst X2.here hx rfl (hb hby at_41) ?_
      show Steps p.tables e below (T2.setTop (mkF m 42 #[.val (.int p0), .val (.int p1), .val (.int (0 : Int32)), .val (.int (p0 &&& (255 : Int32))), .val (.int (own_of (p0 &&& (255 : Int32))))] [(.int (1 : Int32))])) _
      refine XS.goto X2.here hx rfl (pc0 := 42) (pc' := 46) rfl (hb hby at_42) (by decide) (by decide) ?_
      exact kt
    exact own_retN X2 Bd.notSynchronized hx (t := .boolean) Bd.returns (by simp) (hb hby at_46) (show Q0 Z p0 p1 h0 n0 _ _ _ from ⟨rfl, N2⟩) (by decide) (by decide)
  · refine own_via (A' := s₁.setTop (mkF m 6 #[.val (.int p0), .val (.int p1), .unset, .unset, .unset] [])) (fun target kt => XS.ifNo X0.here hx rfl (hb hby at_3) rfl ((if0 _ _).trans (feq hc3).1) kt) ?_
    refine own_via (A' := s₁.setTop (mkF m 13 #[.val (.int p0), .val (.int p1), .val (.int (1 : Int32)), .unset, .unset] [(.int (1 : Int32))])) (fun target kt => ?_) ?_
    · show Steps p.tables e below (s₁.setTop (mkF m 6 #[.val (.int p0), .val (.int p1), .unset, .unset, .unset] [])) _
      refine XS.iconst X0.here hx rfl (hb hby at_6) ?_
      show Steps p.tables e below (s₁.setTop (mkF m 7 #[.val (.int p0), .val (.int p1), .unset, .unset, .unset] [(.int (1 : Int32))])) _
      refine XS.goto X0.here hx rfl (pc0 := 7) (pc' := 11) rfl (hb hby at_7) (by decide) (by decide) ?_
      show Steps p.tables e below (s₁.setTop (mkF m 11 #[.val (.int p0), .val (.int p1), .unset, .unset, .unset] [(.int (1 : Int32))])) _
      refine XS.istoreN X0.here hx rfl (hb hby at_11) rfl (l' := #[.val (.int p0), .val (.int p1), .val (.int (1 : Int32)), .unset, .unset]) rfl ?_
      show Steps p.tables e below (s₁.setTop (mkF m 12 #[.val (.int p0), .val (.int p1), .val (.int (1 : Int32)), .unset, .unset] [])) _
      refine XS.iloadN X0.here hx rfl (hb hby at_12) rfl ?_
      exact kt
    refine own_via (A' := s₁.setTop (mkF m 16 #[.val (.int p0), .val (.int p1), .val (.int (1 : Int32)), .unset, .unset] [])) (fun target kt => XS.ifNo X0.here hx rfl (hb hby at_13) rfl ((if0 _ _).trans (feq ((by decide) : ¬ ((1 : Int32) = (0 : Int32)))).1) kt) ?_
    refine own_via (A' := s₁.setTop (mkF m 27 #[.val (.int p0), .val (.int p1), .val (.int (1 : Int32)), .val (.int p0), .unset] [(.int p0)])) (fun target kt => ?_) ?_
    · show Steps p.tables e below (s₁.setTop (mkF m 16 #[.val (.int p0), .val (.int p1), .val (.int (1 : Int32)), .unset, .unset] [])) _
      refine XS.iloadN X0.here hx rfl (hb hby at_16) rfl ?_
      show Steps p.tables e below (s₁.setTop (mkF m 17 #[.val (.int p0), .val (.int p1), .val (.int (1 : Int32)), .unset, .unset] [(.int p0)])) _
      refine XS.goto X0.here hx rfl (pc0 := 17) (pc' := 25) rfl (hb hby at_17) (by decide) (by decide) ?_
      show Steps p.tables e below (s₁.setTop (mkF m 25 #[.val (.int p0), .val (.int p1), .val (.int (1 : Int32)), .unset, .unset] [(.int p0)])) _
      refine XS.istoreN X0.here hx rfl (hb hby at_25) rfl (l' := #[.val (.int p0), .val (.int p1), .val (.int (1 : Int32)), .val (.int p0), .unset]) rfl ?_
      show Steps p.tables e below (s₁.setTop (mkF m 26 #[.val (.int p0), .val (.int p1), .val (.int (1 : Int32)), .val (.int p0), .unset] [])) _
      refine XS.iloadN X0.here hx rfl (hb hby at_26) rfl ?_
      exact kt
    obtain ⟨_, _, ⟨T3, L3, k3, n3⟩, -, X3, ⟨Lc3, hQ3, l3, y3, z3⟩, st3⟩ := Jvm.LawKit.callS X0 hx (y := (⟨"holdfast/Flags", "ofLetter", "(I)I"⟩ : MethodName)) hown (mvT hZ (hw _ (List.mem_of_getElem? (i := 0) rfl))) (mvT hZ (hw _ (List.mem_of_getElem? (i := 1) rfl))) (mvT hZ (hw _ (List.mem_of_getElem? (i := 2) rfl))) (mvT hZ (hw _ (List.mem_of_getElem? (i := 3) rfl))) (by decide) (backOf (W := 0) (rm1 l Z a0 hw [] p0  h0 n0 Z0 ) hZ (hw _ (List.mem_of_getElem? (i := 3) rfl)) (hw _ (List.mem_of_getElem? (i := 2) rfl)) (by decide) (by decide)) (g := (mkF m 27 #[.val (.int p0), .val (.int p1), .val (.int (1 : Int32)), .val (.int p0), .unset] [(.int p0)])) rfl (by rw [hml]; rfl) (argsL := [(.int p0)]) (rest := []) (lenOf pd_0_0 rfl) rfl (by show 2 * 0 + _ ≤ _; exact Nat.le_of_eq rfl) (hb hby at_27) (fun _ _ => ⟨rfl, e0, (by decide : 0 + 0 ≤ _), (by decide : 0 + 0 ≤ _)⟩)
    dsimp only [Pt.U, Pt.locs, Pt.cells, Pt.slots] at X3 l3 y3 z3 st3 hQ3
    subst l3 y3 z3
    obtain ⟨rfl, N3q, e3⟩ := hQ3
    have N3 := Fr.app N0 N3q
    refine own_via (A' := T3.setTop (mkF m 30 #[.val (.int p0), .val (.int p1), .val (.int (1 : Int32)), .val (.int p0), .unset] [(.int (own_of p0))])) st3 ?_
    refine own_via (A' := T3.setTop (mkF m 35 #[.val (.int p0), .val (.int p1), .val (.int (1 : Int32)), .val (.int p0), .val (.int (own_of p0))] [(.int p0), (.int (own_of p0))])) (fun target kt => ?_) ?_
    · show Steps p.tables e below (T3.setTop (mkF m 30 #[.val (.int p0), .val (.int p1), .val (.int (1 : Int32)), .val (.int p0), .unset] [(.int (own_of p0))])) _
      refine XS.istore X3.here hx rfl (hb hby at_30) rfl (l' := #[.val (.int p0), .val (.int p1), .val (.int (1 : Int32)), .val (.int p0), .val (.int (own_of p0))]) rfl ?_
      show Steps p.tables e below (T3.setTop (mkF m 32 #[.val (.int p0), .val (.int p1), .val (.int (1 : Int32)), .val (.int p0), .val (.int (own_of p0))] [])) _
      refine XS.iload X3.here hx rfl (hb hby at_32) rfl ?_
      show Steps p.tables e below (T3.setTop (mkF m 34 #[.val (.int p0), .val (.int p1), .val (.int (1 : Int32)), .val (.int p0), .val (.int (own_of p0))] [(.int (own_of p0))])) _
      refine XS.iloadN X3.here hx rfl (hb hby at_34) rfl ?_
      exact kt
    obtain ⟨_, _, ⟨T4, L4, k4, n4⟩, -, X4, ⟨Lc4, hQ4, l4, y4, z4⟩, st4⟩ := Jvm.LawKit.callS X3 hx (y := (⟨"holdfast/FlagsOfLetterPinLaw", "expected", "(I)I"⟩ : MethodName)) hown (mvT hZ (hw _ (List.mem_of_getElem? (i := 4) rfl))) (mvT hZ (hw _ (List.mem_of_getElem? (i := 5) rfl))) (mvT hZ (hw _ (List.mem_of_getElem? (i := 6) rfl))) (mvT hZ (hw _ (List.mem_of_getElem? (i := 7) rfl))) (by decide) (backOf (W := 1) (rm2 l Z a0 hw [] p0  h0 n0 Z0 ) hZ (hw _ (List.mem_of_getElem? (i := 7) rfl)) (hw _ (List.mem_of_getElem? (i := 6) rfl)) (by decide) (by decide)) (g := (mkF m 35 #[.val (.int p0), .val (.int p1), .val (.int (1 : Int32)), .val (.int p0), .val (.int (own_of p0))] [(.int p0), (.int (own_of p0))])) rfl (by rw [hml]; rfl) (argsL := [(.int p0)]) (rest := [(.int (own_of p0))]) (lenOf pd_0_0 rfl) rfl (by show 2 * 0 + _ ≤ _; exact Nat.le_of_eq rfl) (hb hby at_35) (fun _ _ => ⟨rfl, e3, (by decide : 0 + 0 ≤ _), (by decide : 0 + 0 ≤ _)⟩)
    dsimp only [Pt.U, Pt.locs, Pt.cells, Pt.slots] at X4 l4 y4 z4 st4 hQ4
    subst l4 y4 z4
    obtain ⟨rfl, N4q, e4⟩ := hQ4
    have N4 := Fr.app N3 N4q
    refine own_via (A' := T4.setTop (mkF m 38 #[.val (.int p0), .val (.int p1), .val (.int (1 : Int32)), .val (.int p0), .val (.int (own_of p0))] [(.int (own_exp p0)), (.int (own_of p0))])) st4 ?_
    refine own_via (A' := T4.setTop (mkF m 41 #[.val (.int p0), .val (.int p1), .val (.int (1 : Int32)), .val (.int p0), .val (.int (own_of p0))] [])) (fun target kt => XS.icmpNo X4.here hx rfl (hb hby at_38) rfl (teq (own_same _ : (own_of p0) = (own_exp p0))).2 kt) ?_
    refine own_via (A' := T4.setTop (mkF m 46 #[.val (.int p0), .val (.int p1), .val (.int (1 : Int32)), .val (.int p0), .val (.int (own_of p0))] [(.int (1 : Int32))])) (fun target kt => ?_) ?_
    · show Steps p.tables e below (T4.setTop (mkF m 41 #[.val (.int p0), .val (.int p1), .val (.int (1 : Int32)), .val (.int p0), .val (.int (own_of p0))] [])) _
      refine XS.iconst X4.here hx rfl (hb hby at_41) ?_
      show Steps p.tables e below (T4.setTop (mkF m 42 #[.val (.int p0), .val (.int p1), .val (.int (1 : Int32)), .val (.int p0), .val (.int (own_of p0))] [(.int (1 : Int32))])) _
      refine XS.goto X4.here hx rfl (pc0 := 42) (pc' := 46) rfl (hb hby at_42) (by decide) (by decide) ?_
      exact kt
    exact own_retN X4 Bd.notSynchronized hx (t := .boolean) Bd.returns (by simp) (hb hby at_46) (show Q0 Z p0 p1 h0 n0 _ _ _ from ⟨rfl, N4⟩) (by decide) (by decide)
set_option maxRecDepth 65536 in
set_option maxHeartbeats 40000000 in
theorem comes_1 {Post : Tables → Env → Array Value → State → Outcome → State → Prop} (hpost : ∀ tb e args s v u, (limb_1_1.after args s (.returned v) u = true ∧ limb_1_2.after args s (.returned v) u = true ∧ True) → FrameEnd s (.returned v) u (Jvm.fieldLocs frame_1_writes args s ++ Jvm.arrayLocs frame_1_arrays args s ++ Jvm.staticLocs frame_1_statics s) 0 0 → Post tb e args s (.returned v) u) :
    ArmFor flags0 classFile x code maxLocals ret World_1 tables_1 room_1 Calls_1 rest_1 Pre_1 Post := by
  intro l hfl _ _ p e ha hc hk s m args below hf hA hF happ hP
  obtain ⟨hcalls, hrest, hpre⟩ := hP
  obtain ⟨-, -, -, hnamed, -, -, -, hat⟩ := (Spec.applies_iff hf).mp happ
  obtain ⟨hg, hn⟩ := and_e (Cond.before_iff.mp (show (Jvm.Cond.and given_1 narrow_1).before args s = true from hpre))
  obtain ⟨h1, g0⟩ := and_e hg
  obtain ⟨a0, g1⟩ := and_e g0
  obtain ⟨w0, w1, rfl⟩ : ∃ w0 w1 : Value, args = #[w0, w1] := by
    have hs : args.size = 2 := by simpa [Cond.value, given_1] using h1
    obtain ⟨L⟩ := args
    match L, hs with
    | [w0, w1], _ => exact ⟨w0, w1, rfl⟩
  have hw := fun d (hd : d ∈ tables_1) => atoms_spec (ws := Jvm.Cond.code x code maxLocals ret :: tables_1) hat d (List.mem_cons_of_mem _ hd)
  obtain ⟨i0, ei0⟩ := is_v a0
  obtain rfl : w0 = (.int i0) := Option.some.inj ei0
  obtain ⟨i1, ei1⟩ := is_v g1
  obtain rfl : w1 = (.int i1) := Option.some.inj ei1
  obtain ⟨n, o, h1, h2, h3, _, L, rfl, ⟨rfl, N⟩, hq⟩ := rm0 l s _ hw tables_1 i0 i1 s.heap s.heap.size (Nat.le_refl _) p e ha hc hk s m _ below hf ((Spec.applies_iff_loose hf).mp happ).1 ⟨rfl, State.Warmed39.refl s, rfl⟩ trivial
  refine ⟨n, _, h1, h2, h3, hpost _ _ _ _ _ _ ⟨Cond.after_iff.mpr rfl, Cond.after_iff.mpr (eq_i res_at (Term.int_eval (1)) rfl), trivial⟩ ⟨hq.1, hq.2.1, (hq.2.2.sift fun y hy => Or.inr (N y hy)).mono (by decide) (by decide)⟩⟩
theorem main_1_1 : Claimed_1_1 := comes_1 fun _ _ _ _ _ _ h hF => ⟨h.1, hF⟩
theorem main_1_2 : Claimed_1_2 := comes_1 fun _ _ _ _ _ _ h hF => ⟨h.2.1, hF⟩
end Jvm.Pilot.@@N@@
namespace Jvm.Pilot.@@N@@
open Jvm Jvm.ClassFile Sem Op Lib Jvm.Free Jvm.Stand Jvm.Pilot.@@N@@.Jvm.D
/-! MADE BY PROGRAM (witnessworld.py) out of the Statement's table words and the real class files: 9 classes; the members and pool entries that the words name. The judged class is class 1, her method 2. -/
namespace start1
open Jvm.ClassFile
def u (s : String) : CpInfo := .utf8 (stringToUtf16 s)
/-- a pool by its gaps: so many unusable entries, then the entry; so many at the end -/
def gap : Nat → List CpInfo → List CpInfo
  | 0, r => r
  | n + 1, r => .unusable :: gap n r
def poolList (es : List (Nat × CpInfo)) (last : Nat) : List CpInfo := es.foldr (fun e r => gap e.1 (e.2 :: r)) (gap last [])
def pool (es : List (Nat × CpInfo)) (last : Nat) : Array CpInfo := ⟨poolList es last⟩
def fileOf (pool : Array CpInfo) (this : Nat) (attrs : Array Attribute := #[]) (ms : Array MethodInfo := #[]) (fl : Nat := 33) (sup : Nat := 0) (ifs : Array Nat := #[]) (fds : Array FieldInfo := #[]) : ClassFile where
  minorVersion := 0
  majorVersion := 65
  constantPool := pool
  accessFlags := fl
  thisClass := this
  superClass := sup
  interfaces := ifs
  fields := fds
  methods := ms
  attributes := attrs
def plain (name : String) (sup : Option ClassId) : Class where
  name := name
  kind := .ordinary
  loader := none
  accessFlags := 33
  super := sup
  interfaces := #[]
  cf := none
  fields := #[]
  methods := #[]
  instanceTypes := #[]
  staticTypes := #[]
  resolved := #[]
  callSites := []
  init := .initialized
  statics := none
  mirror := none

def pool0 : Array CpInfo := pool [(5, u "<init>"), (0, u "()V"), (1, .class_ 10), (1, u "java/lang/Object")] 113

def k0m0 : Method := { name := "<init>", desc := "()V", sig := { parameters := [], returnType := none }, accessFlags := 1, code := none }
/-- java/lang/Object -/
def k0 : Class := { plain "java/lang/Object" none with
  accessFlags := 33
  interfaces := #[]
  cf := some (fileOf pool0 8 #[] #[{ accessFlags := 1, nameIndex := 5, descriptorIndex := 6, attributes := #[] }] 33 0 #[] #[])
  fields := #[]
  methods := #[k0m0]
  instanceTypes := #[]
  staticTypes := #[]
  resolved := Array.replicate 124 none
  statics := none }

def pool1 : Array CpInfo := pool [(2, .class_ 4), (1, u "java/lang/Object"), (0, u "<init>"), (0, u "()V"), (0, .methodref 8 9), (0, .class_ 10), (0, .nameAndType 11 12), (0, u "holdfast/Flags"), (0, u "ofLetter"), (0, u "(I)I"), (0, .methodref 14 15), (0, .class_ 16), (0, .nameAndType 17 12), (0, u "holdfast/FlagsOfLetterPinLaw"), (0, u "expected"), (3, u "law"), (0, u "(II)Z")] 2

def k1m0 : Method := { name := "<init>", desc := "()V", sig := { parameters := [], returnType := none }, accessFlags := 2, code := none }
def k1c1 : Code := { maxStack := 2, maxLocals := 1, code := method_2_code, exceptionTable := #[], attributes := #[] }
def k1m1 : Method := { name := "expected", desc := "(I)I", sig := { parameters := [.int], returnType := some .int }, accessFlags := 10, code := some k1c1 }
def k1c2 : Code := { maxStack := 2, maxLocals := 5, code := code, exceptionTable := #[], attributes := #[] }
def k1m2 : Method := { name := "law", desc := "(II)Z", sig := { parameters := [.int, .int], returnType := some .boolean }, accessFlags := 9, code := some k1c2 }
/-- holdfast/FlagsOfLetterPinLaw -/
def k1 : Class := { plain "holdfast/FlagsOfLetterPinLaw" (some 0) with
  accessFlags := 49
  interfaces := #[]
  cf := some (fileOf pool1 14 #[] #[{ accessFlags := 2, nameIndex := 5, descriptorIndex := 6, attributes := #[] }, { accessFlags := 10, nameIndex := 17, descriptorIndex := 12, attributes := #[] }, { accessFlags := 9, nameIndex := 21, descriptorIndex := 22, attributes := #[] }] 49 2 #[] #[])
  fields := #[]
  methods := #[k1m0, k1m1, k1m2]
  instanceTypes := #[]
  staticTypes := #[]
  resolved := Array.replicate 25 none
  statics := none }

def pool2 : Array CpInfo := pool [(1, .class_ 2), (0, u "holdfast/Flags"), (1, .class_ 6), (1, u "java/lang/Object"), (0, u "<init>"), (0, u "()V"), (3, u "UNIX_LINES"), (1, u "CASE_INSENSITIVE"), (1, u "COMMENTS"), (1, u "MULTILINE"), (1, u "LITERAL"), (1, u "DOTALL"), (1, u "UNICODE_CASE"), (1, u "CANON_EQ"), (1, u "UNICODE_CHARACTER_CLASS"), (19, u "I"), (10, u "KNOWN"), (1, u "SUPPORTED"), (3, u "ofLetter"), (0, u "(I)I")] 7

def k2m0 : Method := { name := "<init>", desc := "()V", sig := { parameters := [], returnType := none }, accessFlags := 2, code := none }
def k2c1 : Code := { maxStack := 1, maxLocals := 1, code := prog_19_method_2_code, exceptionTable := #[], attributes := #[] }
def k2m1 : Method := { name := "ofLetter", desc := "(I)I", sig := { parameters := [.int], returnType := some .int }, accessFlags := 8, code := some k2c1 }
/-- holdfast/Flags -/
def k2 : Class := { plain "holdfast/Flags" (some 0) with
  accessFlags := 48
  interfaces := #[]
  cf := some (fileOf pool2 1 #[] #[{ accessFlags := 2, nameIndex := 7, descriptorIndex := 8, attributes := #[] }, { accessFlags := 8, nameIndex := 65, descriptorIndex := 66, attributes := #[] }] 48 4 #[] #[{ accessFlags := 24, nameIndex := 12, descriptorIndex := 48, attributes := #[] }, { accessFlags := 24, nameIndex := 14, descriptorIndex := 48, attributes := #[] }, { accessFlags := 24, nameIndex := 16, descriptorIndex := 48, attributes := #[] }, { accessFlags := 24, nameIndex := 18, descriptorIndex := 48, attributes := #[] }, { accessFlags := 24, nameIndex := 20, descriptorIndex := 48, attributes := #[] }, { accessFlags := 24, nameIndex := 22, descriptorIndex := 48, attributes := #[] }, { accessFlags := 24, nameIndex := 24, descriptorIndex := 48, attributes := #[] }, { accessFlags := 24, nameIndex := 26, descriptorIndex := 48, attributes := #[] }, { accessFlags := 24, nameIndex := 28, descriptorIndex := 48, attributes := #[] }, { accessFlags := 24, nameIndex := 59, descriptorIndex := 48, attributes := #[] }, { accessFlags := 24, nameIndex := 61, descriptorIndex := 48, attributes := #[] }])
  fields := #[{ name := "UNIX_LINES", type := .int, accessFlags := 24, slot := 0, constantValue := 0 }, { name := "CASE_INSENSITIVE", type := .int, accessFlags := 24, slot := 1, constantValue := 0 }, { name := "COMMENTS", type := .int, accessFlags := 24, slot := 2, constantValue := 0 }, { name := "MULTILINE", type := .int, accessFlags := 24, slot := 3, constantValue := 0 }, { name := "LITERAL", type := .int, accessFlags := 24, slot := 4, constantValue := 0 }, { name := "DOTALL", type := .int, accessFlags := 24, slot := 5, constantValue := 0 }, { name := "UNICODE_CASE", type := .int, accessFlags := 24, slot := 6, constantValue := 0 }, { name := "CANON_EQ", type := .int, accessFlags := 24, slot := 7, constantValue := 0 }, { name := "UNICODE_CHARACTER_CLASS", type := .int, accessFlags := 24, slot := 8, constantValue := 0 }, { name := "KNOWN", type := .int, accessFlags := 24, slot := 9, constantValue := 0 }, { name := "SUPPORTED", type := .int, accessFlags := 24, slot := 10, constantValue := 0 }]
  methods := #[k2m0, k2m1]
  instanceTypes := #[]
  staticTypes := #[.int, .int, .int, .int, .int, .int, .int, .int, .int, .int, .int]
  resolved := Array.replicate 74 none
  statics := none }

def pool3 : Array CpInfo := pool [(1, u "java/lang/Cloneable"), (0, .class_ 1), (0, u "java/lang/Object"), (0, .class_ 3)] 3

/-- java/lang/Cloneable -/
def k3 : Class := { plain "java/lang/Cloneable" (some 0) with
  accessFlags := 1537
  interfaces := #[]
  cf := some (fileOf pool3 2 #[] #[] 1537 4 #[] #[])
  fields := #[]
  methods := #[]
  instanceTypes := #[]
  staticTypes := #[]
  resolved := Array.replicate 8 none
  statics := none }

def pool4 : Array CpInfo := pool [(1, u "java/io/Serializable"), (0, .class_ 1), (0, u "java/lang/Object"), (0, .class_ 3)] 3

/-- java/io/Serializable -/
def k4 : Class := { plain "java/io/Serializable" (some 0) with
  accessFlags := 1537
  interfaces := #[]
  cf := some (fileOf pool4 2 #[] #[] 1537 4 #[] #[])
  fields := #[]
  methods := #[]
  instanceTypes := #[]
  staticTypes := #[]
  resolved := Array.replicate 8 none
  statics := none }

/-- the primitive byte -/
def k5 : Class := { plain "byte" none with kind := .primitive 'B', accessFlags := 0x411 }
/-- [B -/
def k6 : Class := { plain "[B" (some 0) with kind := .array 5 .byte, interfaces := #[3, 4], accessFlags := 1041 }

/-- the primitive int -/
def k7 : Class := { plain "int" none with kind := .primitive 'I', accessFlags := 0x411 }
/-- [I -/
def k8 : Class := { plain "[I" (some 0) with kind := .array 7 .int, interfaces := #[3, 4], accessFlags := 1041 }

def heap : Heap := #[]
def classes : Array Class := #[k0, k1, k2, k3, k4, k5, k6, k7, k8]
def interned : List (Array UInt16 × Addr) := []
def slotsUsed : Nat := 0
def theMethod : MethodId := ⟨1, 2⟩
def args0 : Array Value := #[.int 105, .int 1]
def aboutOver (below : List Frame) : State where
  vm := { classes := classes, interned := interned.toArray }
  heap := heap
  slotsUsed := slotsUsed
  threads := #[{ frames := .invoking theMethod args0 :: below }]
def below0 : List Frame := [.native { method := ⟨0, 0⟩, args := #[] }]
def about1 : State := aboutOver below0
def p0 : Program := .bare "" "" ""
def e0 : Env := launch0.env 0 0 0
theorem w_frames : about1.frames = Frame.invoking theMethod args0 :: below0 := rfl
set_option maxRecDepth 65536 in
theorem w_args : argsFit about1.vm theMethod args0 = true := by decide +kernel
set_option maxRecDepth 65536 in
theorem w_heap : heapFits about1 = true := by decide +kernel
set_option maxRecDepth 65536 in
theorem w_runnable : about1.curStatus? = some .runnable := by decide +kernel
set_option maxRecDepth 65536 in
theorem w_alone : about1.alone = true := by decide +kernel
set_option maxRecDepth 65536 in
theorem w_named : about1.methodNamed? x = some theMethod := by decide +kernel
set_option maxRecDepth 65536 in
theorem w_hears : about1.hears theMethod below0 = true := by decide +kernel
set_option maxRecDepth 65536 in
theorem w_ripe : about1.ripe theMethod args0 below0 = true := by decide +kernel
theorem w_running : about1.status = .running := rfl
set_option maxRecDepth 65536 in
theorem w_room : about1.hasRoom e0.platform room_1 = true :=
  launch0.hasRoom_least _ room_1 (by decide +kernel) (by decide +kernel) (by decide +kernel) (by decide +kernel) (by decide +kernel) (by decide +kernel)
theorem allAtoms_all (ts : List Jvm.Cond) (a : Array Jvm.Value) (st : Jvm.State) : (allAtoms ts).before a st = ts.all (fun c => c.before a st) := by
  induction ts with
  | nil => rfl
  | cons c t ih =>
    show (Jvm.Cond.and c (allAtoms t)).before a st = _
    rw [Jvm.Cond.before_and, ih, List.all_cons]
def words1 : List Jvm.Cond := Jvm.Cond.code x code maxLocals ret :: tables_1
/-- a 'code' word, met by the world's own term for the bytes: nothing is compared byte by byte -/
theorem code_word {y : MethodName} {bytes : ByteArray} {mx : Nat} {rt : Option FieldType} {a : Array Value} {s : State} {m : MethodId} {meth : Method} {c : Code} (h1 : s.methodNamed? y = some m) (h2 : s.vm.method? m = some meth) (h3 : meth.code = some c) (h4 : c.code = bytes)
    (h5 : (c.maxLocals == mx && c.exceptionTable.isEmpty && decide (c.maxStack ≤ mostOperands) && decide (meth.sig.returnType = rt) && !meth.locks && decide (parseMethodDescriptor y.desc = some meth.sig)) = true) : (Jvm.Cond.code y bytes mx rt).before a s = true := by
  simp only [Bool.and_eq_true, beq_iff_eq, Bool.not_eq_true', decide_eq_true_eq] at h5
  obtain ⟨⟨⟨⟨⟨g1, g2⟩, g3⟩, g4⟩, g5⟩, g6⟩ := h5
  simp [Cond.before, Cond.holds, Cond.value, h1, h2, h3, h4, g1, g2, g3, g4, g5, g6]
def isCode : Jvm.Cond → Bool
  | .code _ _ _ _ => true
  | _ => false
theorem all_split {L : List Jvm.Cond} {P : Jvm.Cond → Bool} (h1 : L.all (fun c => isCode c || P c) = true) (h2 : ∀ c ∈ L.filter isCode, P c = true) : L.all P = true := by
  refine List.all_eq_true.mpr fun c hc => ?_
  have h := List.all_eq_true.mp h1 c hc
  rcases Bool.eq_false_or_eq_true (isCode c) with hi | hi
  · exact h2 c (List.mem_filter.mpr ⟨hc, hi⟩)
  · simpa [hi] using h
set_option maxRecDepth 65536 in
theorem w_c0 : (Jvm.Cond.code x code maxLocals ret).before args0 about1 = true := code_word (m := ⟨1, 2⟩) (meth := k1m2) (c := k1c2) (by decide +kernel) rfl rfl rfl (by decide +kernel)
set_option maxRecDepth 65536 in
theorem w_c1 : (Jvm.Cond.code ({ cls := "holdfast/Flags", name := "ofLetter", desc := "(I)I" } : Jvm.MethodName) prog_19_method_2_code (1 : Nat) (Option.some Jvm.ClassFile.FieldType.int)).before args0 about1 = true := code_word (m := ⟨2, 1⟩) (meth := k2m1) (c := k2c1) (by decide +kernel) rfl rfl rfl (by decide +kernel)
set_option maxRecDepth 65536 in
theorem w_c2 : (Jvm.Cond.code ({ cls := "holdfast/FlagsOfLetterPinLaw", name := "expected", desc := "(I)I" } : Jvm.MethodName) method_2_code (1 : Nat) (Option.some Jvm.ClassFile.FieldType.int)).before args0 about1 = true := code_word (m := ⟨1, 1⟩) (meth := k1m1) (c := k1c1) (by decide +kernel) rfl rfl rfl (by decide +kernel)
def codes1 : List Jvm.Cond := [Jvm.Cond.code x code maxLocals ret, Jvm.Cond.code ({ cls := "holdfast/Flags", name := "ofLetter", desc := "(I)I" } : Jvm.MethodName) prog_19_method_2_code (1 : Nat) (Option.some Jvm.ClassFile.FieldType.int), Jvm.Cond.code ({ cls := "holdfast/FlagsOfLetterPinLaw", name := "expected", desc := "(I)I" } : Jvm.MethodName) method_2_code (1 : Nat) (Option.some Jvm.ClassFile.FieldType.int)]
set_option maxRecDepth 65536 in
theorem codes_eq : words1.filter isCode = codes1 := rfl
theorem w_codes : ∀ c ∈ words1.filter isCode, c.before args0 about1 = true := by
  rw [codes_eq]
  intro c hc
  simp only [codes1, List.mem_cons, List.not_mem_nil, or_false] at hc
  rcases hc with rfl | rfl | rfl
  · exact w_c0
  · exact w_c1
  · exact w_c2
set_option maxRecDepth 65536 in
theorem w_t1 : words1.all (fun c => isCode c || c.before args0 about1) = true := by decide +kernel
theorem w_tables : (allAtoms (Jvm.Cond.code x code maxLocals ret :: tables_1)).before args0 about1 = true := by
  rw [allAtoms_all]
  show words1.all (fun c => c.before args0 about1) = true
  refine all_split ?_ w_codes
  rw [w_t1]
set_option maxRecDepth 65536 in
theorem w_case : (Jvm.Cond.and given_1 narrow_1).before args0 about1 = true := by decide +kernel
theorem w_applies : (headSpec (Jvm.Cond.code x code maxLocals ret :: tables_1) room_1).applies x e0.platform about1 = true :=
  (Spec.applies_iff w_frames).mpr ⟨w_running, w_runnable, w_alone, w_named, w_hears, w_ripe, w_room, w_tables⟩
theorem atStart : AtStart classFile x code maxLocals ret World_1 tables_1 room_1 Calls_1 rest_1 Pre_1 launch0 p0 e0 about1 theMethod args0 below0 :=
  ⟨lists_1, trivial, launch0.admits_env _ _ _, launch0.least_env, fairChoices_fair.cas, fairChoices_fair.clock, w_frames, w_args, w_heap, w_applies, trivial, trivial, w_case⟩
end start1
theorem witness_1 : WitnessClaimed_1 := ⟨start1.p0, start1.e0, start1.about1, start1.theMethod, start1.args0, start1.below0, start1.atStart⟩
end Jvm.Pilot.@@N@@
