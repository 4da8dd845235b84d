import JvmDerived
import JvmDerived.Pilot.@@N@@Statement
import JvmDerived.Pilot.@@N@@Code
set_option linter.unusedVariables false
set_option linter.unusedSimpArgs false
namespace Jvm.RoadKit
open Sem ClassFile Op Lib Jvm.Stand Jvm.Free Jvm.LawKit
section New
variable {p : Program} {l : Launch} {e : Env} {R : Room} {s : State} {m : MethodId} {args : Array Value} {below : List Frame} {meth : Method} {c : Code} {T : State} {locs : List Loc} {cells slots : Nat}
theorem retI (X : Stand p l e R s m args below meth c T locs cells slots) (hx : p.tables.exec = Jvm.exec) {pc : Nat} {Ls : Array Slot} {z : Int32} {rest : List Value} (hret : meth.sig.returnType = some .int) (hd : decode c.code pc = .ok (.ireturn, 1)) {fs : List Frame}
    (hl : ∀ (f : JFrame) (acts : List Action), f.method = m → f.locked = none → f.entered = [] → (doReturn e (T.setTop f) acts (some (.int z))).1 = T.setFrames fs) : Steps p.tables e below (T.setTop (mkF m pc Ls (.int z :: rest))) (T.setFrames fs) := by
  have hm' : T.vm.method? m = some meth := X.method'
  have hn : narrow .int (.int z) = .int z := rfl
  show Steps p.tables e below (T.setTop { method := m, pc := pc, locals := Ls, stack := _ :: rest, locked := none }) _
  jvm_step X.here [X.here.top, hx, hd, hm', hret, hn]
  first | (intro acts; rw [hl _ acts rfl rfl rfl]) | rw [hl _ _ rfl rfl rfl]
  exact Steps.refl _
/-- what a body leaves -/
def own_P (s : State) (Q : Option Value → Heap → List Loc → Prop) (k n : Nat) (s₂ : State) (o : Outcome) : Prop := ∃ v L, o = .returned v ∧ Q v s₂.heap L ∧ FrameEnd s o s₂ L k n
/-- from A the run comes to an end that P allows -/
def own_G (p : Program) (e : Env) (below : List Frame) (P : State → Outcome → Prop) (A : State) : Prop := ∃ s₂ o, Steps p.tables e below A s₂ ∧ s₂.status = .running ∧ Ended s₂ below o ∧ P s₂ o
theorem own_via {P : State → Outcome → Prop} {A A' : State} (h : ∀ t, Steps p.tables e below A' t → Steps p.tables e below A t) (k : own_G p e below P A') : own_G p e below P A := by
  obtain ⟨s₂, o, h1, h2⟩ := k
  exact ⟨s₂, o, h _ h1, h2⟩
theorem own_retN (X : Stand p l e R s m args below meth c T locs cells slots) (hlocks : meth.locks = false) (hx : p.tables.exec = Jvm.exec) {pc : Nat} {Ls : Array Slot} {z : Int32} {t : FieldType} {rest : List Value} {K N : Nat} {Q : Option Value → Heap → List Loc → Prop} (hret : meth.sig.returnType = some t) (ht : t = .boolean ∨ t = .byte ∨ t = .char ∨ t = .short)
    (hd : decode c.code pc = .ok (.ireturn, 1)) (hq : Q (some (.int (nar t z))) T.heap locs) (hK : cells ≤ K) (hN : slots ≤ N) : own_G p e below (own_P s Q K N) (T.setTop (mkF m pc Ls (.int z :: rest))) := by
  obtain ⟨fs, hr, hrun, hended, hW, hsame⟩ := X.leave (v := some (.int (nar t z))) (fun h => by rw [hret] at h; cases h) hlocks
  exact ⟨_, _, retN X hx hret ht hd hr, hrun, hended, _, _, rfl, hq, ⟨_, rfl⟩, hW, hsame.mono hK hN⟩
theorem own_retI (X : Stand p l e R s m args below meth c T locs cells slots) (hlocks : meth.locks = false) (hx : p.tables.exec = Jvm.exec) {pc : Nat} {Ls : Array Slot} {z : Int32} {rest : List Value} {K N : Nat} {Q : Option Value → Heap → List Loc → Prop} (hret : meth.sig.returnType = some .int)
    (hd : decode c.code pc = .ok (.ireturn, 1)) (hq : Q (some (.int z)) T.heap locs) (hK : cells ≤ K) (hN : slots ≤ N) : own_G p e below (own_P s Q K N) (T.setTop (mkF m pc Ls (.int z :: rest))) := by
  obtain ⟨fs, hr, hrun, hended, hW, hsame⟩ := X.leave (v := some (.int z)) (fun h => by rw [hret] at h; cases h) hlocks
  exact ⟨_, _, retI X hx hret hd hr, hrun, hended, _, _, rfl, hq, ⟨_, rfl⟩, hW, hsame.mono hK hN⟩
theorem own_retA (X : Stand p l e R s m args below meth c T locs cells slots) (hlocks : meth.locks = false) (hx : p.tables.exec = Jvm.exec) {pc : Nat} {Ls : Array Slot} {w : Value} {C : String} {rest : List Value} {K N : Nat} {Q : Option Value → Heap → List Loc → Prop} (hret : meth.sig.returnType = some (.object C)) (hw : w.isRef = true)
    (hd : decode c.code pc = .ok (.areturn, 1)) (hq : Q (some w) T.heap locs) (hK : cells ≤ K) (hN : slots ≤ N) : own_G p e below (own_P s Q K N) (T.setTop (mkF m pc Ls (w :: rest))) := by
  obtain ⟨fs, hr, hrun, hended, hW, hsame⟩ := X.leave (v := some w) (fun h => by rw [hret] at h; cases h) hlocks
  have hn : narrow (.object C) w = w := by cases w <;> rfl
  exact ⟨_, _, retOut X hx hret hn (Or.inr (Or.inr (Or.inr (Or.inr ⟨rfl, rfl, hw⟩)))) hd hr, hrun, hended, _, _, rfl, hq, ⟨_, rfl⟩, hW, hsame.mono hK hN⟩
theorem own_retV (X : Stand p l e R s m args below meth c T locs cells slots) (hlocks : meth.locks = false) (hx : p.tables.exec = Jvm.exec) {pc : Nat} {Ls : Array Slot} {K N : Nat} {Q : Option Value → Heap → List Loc → Prop} (hret : meth.sig.returnType = none)
    (hd : decode c.code pc = .ok (.return_, 1)) (hq : Q none T.heap locs) (hK : cells ≤ K) (hN : slots ≤ N) : own_G p e below (own_P s Q K N) (T.setTop (mkF m pc Ls [])) := by
  obtain ⟨fs, hr, hrun, hended, hW, hsame⟩ := X.leave (v := none) (fun _ => rfl) hlocks
  exact ⟨_, _, X.returnOut hx hret hd hr, hrun, hended, _, _, rfl, hq, ⟨_, rfl⟩, hW, hsame.mono hK hN⟩
end New
end Jvm.RoadKit
namespace Jvm.Pilot.@@N@@
open Jvm Jvm.ClassFile Sem Op Lib Jvm.Free Jvm.Stand Jvm.LawKit Jvm.RoadKit Bundle Jvm.Pilot.@@N@@.Jvm.D

def own_is (c : Int32) : Int32 := if c = 32 then 1 else if c = 9 then 1 else if c = 13 then 1 else if c = 10 then 1 else 0
def own_mask (c : Int32) : Int32 := lcmpW (((4294977024 : Int64).toUInt64 >>> (c &&& 0x3f).toInt64.toUInt64).toInt64 &&& (1 : Int64)) (0 : Int64)
theorem own_fin : ∀ n : Fin 33, (own_mask (Int32.ofNat n.val) = 0 ∧ own_is (Int32.ofNat n.val) = 0) ∨ (¬ own_mask (Int32.ofNat n.val) = 0 ∧ own_is (Int32.ofNat n.val) = 1) := by decide +kernel
theorem own_small {c : Int32} (h0 : 0 ≤ c.toInt) (h : ¬ (32 : Int32) < c) : (own_mask c = 0 ∧ own_is c = 0) ∨ (¬ own_mask c = 0 ∧ own_is c = 1) := by
  have h1 : c.toInt ≤ 32 := by
    rw [Int32.lt_iff_toInt_lt] at h
    have : (32 : Int32).toInt = 32 := by decide
    omega
  have e : c = Int32.ofNat c.toInt.toNat := by
    apply Int32.toInt_inj.mp
    rw [Int32.toInt_ofNat_small (by omega)]
    omega
  have q : (own_mask (Int32.ofNat c.toInt.toNat) = 0 ∧ own_is (Int32.ofNat c.toInt.toNat) = 0) ∨ (¬ own_mask (Int32.ofNat c.toInt.toNat) = 0 ∧ own_is (Int32.ofNat c.toInt.toNat) = 1) := own_fin ⟨c.toInt.toNat, by omega⟩
  rw [← e] at q
  exact q
theorem own_big {c : Int32} (h : (32 : Int32) < c) : own_is c = 0 := by
  rw [Int32.lt_iff_toInt_lt] at h
  have h32 : (32 : Int32).toInt = 32 := by decide
  have a1 : ¬ c = 32 := fun e => by subst e; omega
  have a2 : ¬ c = 9 := fun e => by subst e; revert h; decide
  have a3 : ¬ c = 13 := fun e => by subst e; revert h; decide
  have a4 : ¬ c = 10 := fun e => by subst e; revert h; decide
  simp [own_is, a1, a2, a3, a4]
theorem own_char (y : Int32) : 0 ≤ (y.toUInt32.toUInt16.toUInt32.toInt32).toInt := by
  have h : y.toUInt32.toUInt16.toUInt32.toNat < 65536 := by
    rw [UInt16.toNat_toUInt32]; exact y.toUInt32.toUInt16.toNat_lt
  have e : (y.toUInt32.toUInt16.toUInt32.toInt32).toInt = y.toUInt32.toUInt16.toUInt32.toNat := by
    show y.toUInt32.toUInt16.toUInt32.toBitVec.toInt = (y.toUInt32.toUInt16.toUInt32.toBitVec.toNat : Int)
    apply BitVec.toInt_eq_toNat_of_lt
    have h' : y.toUInt32.toUInt16.toUInt32.toBitVec.toNat < 65536 := h
    omega
  omega
theorem d1_0 : decode prog_225_method_2_code 0 = .ok (.iload_n 0, 1) := by decide +kernel
theorem d1_1 : decode prog_225_method_2_code 1 = .ok (.bipush 32, 2) := by decide +kernel
theorem d1_3 : decode prog_225_method_2_code 3 = .ok (.if_icmp .eq 21, 3) := by decide +kernel
theorem d1_6 : decode prog_225_method_2_code 6 = .ok (.iload_n 0, 1) := by decide +kernel
theorem d1_7 : decode prog_225_method_2_code 7 = .ok (.bipush 9, 2) := by decide +kernel
theorem d1_9 : decode prog_225_method_2_code 9 = .ok (.if_icmp .eq 15, 3) := by decide +kernel
theorem d1_12 : decode prog_225_method_2_code 12 = .ok (.iload_n 0, 1) := by decide +kernel
theorem d1_13 : decode prog_225_method_2_code 13 = .ok (.bipush 13, 2) := by decide +kernel
theorem d1_15 : decode prog_225_method_2_code 15 = .ok (.if_icmp .eq 9, 3) := by decide +kernel
theorem d1_18 : decode prog_225_method_2_code 18 = .ok (.iload_n 0, 1) := by decide +kernel
theorem d1_19 : decode prog_225_method_2_code 19 = .ok (.bipush 10, 2) := by decide +kernel
theorem d1_21 : decode prog_225_method_2_code 21 = .ok (.if_icmp .ne 7, 3) := by decide +kernel
theorem d1_24 : decode prog_225_method_2_code 24 = .ok (.iconst 1, 1) := by decide +kernel
theorem d1_25 : decode prog_225_method_2_code 25 = .ok (.goto 4, 3) := by decide +kernel
theorem d1_28 : decode prog_225_method_2_code 28 = .ok (.iconst 0, 1) := by decide +kernel
theorem d1_29 : decode prog_225_method_2_code 29 = .ok (.ireturn, 1) := by decide +kernel
theorem pn_1 : plainName "com/example/txq/txq/xdm/Whitespace" = true := by first | (simp [plainName, overriddenIn]; done) | decide +kernel
theorem ef_1 (m : MethodId) (p0 : Int32) : entryFrame m #[(.int p0)] 1 = mkF m 0 #[.val (.int p0)] [] := by first | (simp [entryFrame, mkF, argsToLocals, Value.category]; done) | rfl
def Q1 (Z : State) (p0 : Int32)  (h0 : Heap) (n0 : Nat) (v : Option Value) (h : Heap) (L : List Loc) : Prop := v = some (.int (own_is p0)) ∧ Fr n0 L ∧ h = h0
set_option maxRecDepth 65536 in
set_option maxHeartbeats 40000000 in
theorem rm1 (l : Launch) (Z : State) (a0 : Array Value) (hw : ∀ d ∈ tables_1, d.before a0 Z = true) (ws : List Jvm.Cond) (p0 : Int32)  (h0 : Heap) (n0 : Nat) (Z0 : n0 ≤ h0.size)  :
    MetFree l (⟨"com/example/txq/txq/xdm/Whitespace", "is", "(C)Z"⟩ : MethodName) (head1 (Jvm.Cond.code (⟨"com/example/txq/txq/xdm/Whitespace", "is", "(C)Z"⟩ : MethodName) prog_225_method_2_code 1 (some .boolean) :: ws) ({ frames := 0, cells := 0, slots := 0, locals := 0 } : Room)) (fun a U => a = #[(.int p0)] ∧ Z.Warmed39 U.vm ∧ U.heap = h0) (fun _ _ _ _ _ => True) (fun _ U o U' => ∃ v L, o = .returned v ∧ Q1 Z p0 h0 n0 v U'.heap L ∧ FrameEnd U o U' L ({ frames := 0, cells := 0, slots := 0, locals := 0 } : Room).cells ({ frames := 0, cells := 0, slots := 0, locals := 0 } : Room).slots) := by
  refine MetFree.of_bodySF (plainFor_of_name pn_1) hisR ?_
  intro p e s m args below meth c s₁ Bd hml0 hP hK
  obtain ⟨rfl, hZ, hh⟩ := hP
  have hx := Bd.exec
  have hby := Bd.bytes
  have hml : c.maxLocals = 1 := hml0
  have hown : s.vm.findClass "com/example/txq/txq/xdm/Whitespace" = some m.cls := findClass_of_methodNamed Bd.named
  have X0 : Stand p l e ({ frames := 0, cells := 0, slots := 0, locals := 0 } : Room) s m #[(.int p0)] below meth c s₁ [] 0 0 := Stand.of_body Bd
  have e0 : s₁.heap = h0 := by rw [← hh, Bd.state]; rfl
  have N0 := Fr.nil n0
  show own_G p e below (own_P s (Q1 Z p0 h0 n0) 0 0) _
  refine own_via (A' := s₁.setTop (mkF m 0 #[.val (.int p0)] [])) (fun t k => castTop (ef_1 m p0) k) ?_
  refine own_via (A' := s₁.setTop (mkF m 3 #[.val (.int p0)] [(.int (32 : Int32)), (.int p0)])) (fun target kt => ?_) ?_
  · show Steps p.tables e below (s₁.setTop (mkF m 0 #[.val (.int p0)] [])) _
    refine XS.iloadN X0.here hx rfl (hb hby d1_0) rfl ?_
    show Steps p.tables e below (s₁.setTop (mkF m 1 #[.val (.int p0)] [(.int p0)])) _
    refine XS.bipush X0.here hx rfl (hb hby d1_1) ?_
    exact kt
  by_cases hc3 : p0 = (32 : Int32)
  · refine own_via (A' := s₁.setTop (mkF m 24 #[.val (.int p0)] [])) (fun target kt => XS.icmpYes X0.here hx rfl (pc0 := 3) (pc' := 24) rfl (hb hby d1_3) rfl (teq hc3).1 (by decide) (by decide) kt) ?_
    refine own_via (A' := s₁.setTop (mkF m 29 #[.val (.int p0)] [(.int (1 : Int32))])) (fun target kt => ?_) ?_
    · show Steps p.tables e below (s₁.setTop (mkF m 24 #[.val (.int p0)] [])) _
      refine XS.iconst X0.here hx rfl (hb hby d1_24) ?_
      show Steps p.tables e below (s₁.setTop (mkF m 25 #[.val (.int p0)] [(.int (1 : Int32))])) _
      refine XS.goto X0.here hx rfl (pc0 := 25) (pc' := 29) rfl (hb hby d1_25) (by decide) (by decide) ?_
      exact kt
    exact own_retN X0 Bd.notSynchronized hx (t := .boolean) Bd.returns (by simp) (hb hby d1_29) (show Q1 Z p0 h0 n0 _ _ _ from ⟨by rw [show own_is p0 = 1 from by simp [own_is, hc3]] <;> rfl, N0, e0⟩) (by decide) (by decide)
  · refine own_via (A' := s₁.setTop (mkF m 6 #[.val (.int p0)] [])) (fun target kt => XS.icmpNo X0.here hx rfl (hb hby d1_3) rfl (feq hc3).1 kt) ?_
    refine own_via (A' := s₁.setTop (mkF m 9 #[.val (.int p0)] [(.int (9 : Int32)), (.int p0)])) (fun target kt => ?_) ?_
    · show Steps p.tables e below (s₁.setTop (mkF m 6 #[.val (.int p0)] [])) _
      refine XS.iloadN X0.here hx rfl (hb hby d1_6) rfl ?_
      show Steps p.tables e below (s₁.setTop (mkF m 7 #[.val (.int p0)] [(.int p0)])) _
      refine XS.bipush X0.here hx rfl (hb hby d1_7) ?_
      exact kt
    by_cases hc9 : p0 = (9 : Int32)
    · refine own_via (A' := s₁.setTop (mkF m 24 #[.val (.int p0)] [])) (fun target kt => XS.icmpYes X0.here hx rfl (pc0 := 9) (pc' := 24) rfl (hb hby d1_9) rfl (teq hc9).1 (by decide) (by decide) kt) ?_
      refine own_via (A' := s₁.setTop (mkF m 29 #[.val (.int p0)] [(.int (1 : Int32))])) (fun target kt => ?_) ?_
      · show Steps p.tables e below (s₁.setTop (mkF m 24 #[.val (.int p0)] [])) _
        refine XS.iconst X0.here hx rfl (hb hby d1_24) ?_
        show Steps p.tables e below (s₁.setTop (mkF m 25 #[.val (.int p0)] [(.int (1 : Int32))])) _
        refine XS.goto X0.here hx rfl (pc0 := 25) (pc' := 29) rfl (hb hby d1_25) (by decide) (by decide) ?_
        exact kt
      exact own_retN X0 Bd.notSynchronized hx (t := .boolean) Bd.returns (by simp) (hb hby d1_29) (show Q1 Z p0 h0 n0 _ _ _ from ⟨by rw [show own_is p0 = 1 from by simp [own_is, hc3, hc9]] <;> rfl, N0, e0⟩) (by decide) (by decide)
    · refine own_via (A' := s₁.setTop (mkF m 12 #[.val (.int p0)] [])) (fun target kt => XS.icmpNo X0.here hx rfl (hb hby d1_9) rfl (feq hc9).1 kt) ?_
      refine own_via (A' := s₁.setTop (mkF m 15 #[.val (.int p0)] [(.int (13 : Int32)), (.int p0)])) (fun target kt => ?_) ?_
      · show Steps p.tables e below (s₁.setTop (mkF m 12 #[.val (.int p0)] [])) _
        refine XS.iloadN X0.here hx rfl (hb hby d1_12) rfl ?_
        show Steps p.tables e below (s₁.setTop (mkF m 13 #[.val (.int p0)] [(.int p0)])) _
        refine XS.bipush X0.here hx rfl (hb hby d1_13) ?_
        exact kt
      by_cases hc15 : p0 = (13 : Int32)
      · refine own_via (A' := s₁.setTop (mkF m 24 #[.val (.int p0)] [])) (fun target kt => XS.icmpYes X0.here hx rfl (pc0 := 15) (pc' := 24) rfl (hb hby d1_15) rfl (teq hc15).1 (by decide) (by decide) kt) ?_
        refine own_via (A' := s₁.setTop (mkF m 29 #[.val (.int p0)] [(.int (1 : Int32))])) (fun target kt => ?_) ?_
        · show Steps p.tables e below (s₁.setTop (mkF m 24 #[.val (.int p0)] [])) _
          refine XS.iconst X0.here hx rfl (hb hby d1_24) ?_
          show Steps p.tables e below (s₁.setTop (mkF m 25 #[.val (.int p0)] [(.int (1 : Int32))])) _
          refine XS.goto X0.here hx rfl (pc0 := 25) (pc' := 29) rfl (hb hby d1_25) (by decide) (by decide) ?_
          exact kt
        exact own_retN X0 Bd.notSynchronized hx (t := .boolean) Bd.returns (by simp) (hb hby d1_29) (show Q1 Z p0 h0 n0 _ _ _ from ⟨by rw [show own_is p0 = 1 from by simp [own_is, hc3, hc9, hc15]] <;> rfl, N0, e0⟩) (by decide) (by decide)
      · refine own_via (A' := s₁.setTop (mkF m 18 #[.val (.int p0)] [])) (fun target kt => XS.icmpNo X0.here hx rfl (hb hby d1_15) rfl (feq hc15).1 kt) ?_
        refine own_via (A' := s₁.setTop (mkF m 21 #[.val (.int p0)] [(.int (10 : Int32)), (.int p0)])) (fun target kt => ?_) ?_
        · show Steps p.tables e below (s₁.setTop (mkF m 18 #[.val (.int p0)] [])) _
          refine XS.iloadN X0.here hx rfl (hb hby d1_18) rfl ?_
          show Steps p.tables e below (s₁.setTop (mkF m 19 #[.val (.int p0)] [(.int p0)])) _
          refine XS.bipush X0.here hx rfl (hb hby d1_19) ?_
          exact kt
        by_cases hc21 : p0 = (10 : Int32)
        · refine own_via (A' := s₁.setTop (mkF m 24 #[.val (.int p0)] [])) (fun target kt => XS.icmpNo X0.here hx rfl (hb hby d1_21) rfl (teq hc21).2 kt) ?_
          refine own_via (A' := s₁.setTop (mkF m 29 #[.val (.int p0)] [(.int (1 : Int32))])) (fun target kt => ?_) ?_
          · show Steps p.tables e below (s₁.setTop (mkF m 24 #[.val (.int p0)] [])) _
            refine XS.iconst X0.here hx rfl (hb hby d1_24) ?_
            show Steps p.tables e below (s₁.setTop (mkF m 25 #[.val (.int p0)] [(.int (1 : Int32))])) _
            refine XS.goto X0.here hx rfl (pc0 := 25) (pc' := 29) rfl (hb hby d1_25) (by decide) (by decide) ?_
            exact kt
          exact own_retN X0 Bd.notSynchronized hx (t := .boolean) Bd.returns (by simp) (hb hby d1_29) (show Q1 Z p0 h0 n0 _ _ _ from ⟨by rw [show own_is p0 = 1 from by simp [own_is, hc3, hc9, hc15, hc21]] <;> rfl, N0, e0⟩) (by decide) (by decide)
        · refine own_via (A' := s₁.setTop (mkF m 28 #[.val (.int p0)] [])) (fun target kt => XS.icmpYes X0.here hx rfl (pc0 := 21) (pc' := 28) rfl (hb hby d1_21) rfl (feq hc21).2 (by decide) (by decide) kt) ?_
          refine own_via (A' := s₁.setTop (mkF m 29 #[.val (.int p0)] [(.int (0 : Int32))])) (fun target kt => ?_) ?_
          · show Steps p.tables e below (s₁.setTop (mkF m 28 #[.val (.int p0)] [])) _
            refine XS.iconst X0.here hx rfl (hb hby d1_28) ?_
            exact kt
          exact own_retN X0 Bd.notSynchronized hx (t := .boolean) Bd.returns (by simp) (hb hby d1_29) (show Q1 Z p0 h0 n0 _ _ _ from ⟨by rw [show own_is p0 = 0 from by simp [own_is, hc3, hc9, hc15, hc21]] <;> rfl, N0, e0⟩) (by decide) (by decide)
theorem pn_0 : plainName "com/example/txq/txq/xdm/WhitespaceIsPinLaw" = true := by first | (simp [plainName, overriddenIn]; done) | decide +kernel
theorem pd_0_0 : parseMethodDescriptor "(C)Z" = some ⟨[.char], some .boolean⟩ := by decide +kernel
theorem ef_0 (m : MethodId) (p0 : Int32) : entryFrame m #[(.int p0)] maxLocals = mkF m 0 #[.val (.int p0), .unset, .unset, .unset, .unset] [] := by first | (simp [entryFrame, mkF, argsToLocals, Value.category, maxLocals]; done) | rfl
def Q0 (Z : State) (p0 : Int32)  (h0 : Heap) (n0 : Nat) (v : Option Value) (h : Heap) (L : List Loc) : Prop := v = some (.int 1) ∧ Fr n0 L
set_option maxRecDepth 65536 in
set_option maxHeartbeats 40000000 in
theorem rm0 (l : Launch) (Z : State) (a0 : Array Value) (hw : ∀ d ∈ tables_1, d.before a0 Z = true) (ws : List Jvm.Cond) (p0 : Int32)  (h0 : Heap) (n0 : Nat) (Z0 : n0 ≤ h0.size)  :
    MetFree l x (head1 (Jvm.Cond.code x code maxLocals ret :: ws) room_1) (fun a U => a = #[(.int p0)] ∧ Z.Warmed39 U.vm ∧ U.heap = h0) (fun _ _ _ _ _ => True) (fun _ U o U' => ∃ v L, o = .returned v ∧ Q0 Z p0 h0 n0 v U'.heap L ∧ FrameEnd U o U' L 0 0) := by
  refine MetFree.of_bodySF (plainFor_of_name pn_0) hisR ?_
  intro p e s m args below meth c s₁ Bd hml0 hP hK
  obtain ⟨rfl, hZ, hh⟩ := hP
  have hx := Bd.exec
  have hby := Bd.bytes
  have hml : c.maxLocals = 5 := hml0
  have hown : s.vm.findClass "com/example/txq/txq/xdm/WhitespaceIsPinLaw" = some m.cls := findClass_of_methodNamed Bd.named
  have X0 : Stand p l e room_1 s m #[(.int p0)] below meth c s₁ [] 0 0 := Stand.of_body Bd
  have e0 : s₁.heap = h0 := by rw [← hh, Bd.state]; rfl
  have N0 := Fr.nil n0
  show own_G p e below (own_P s (Q0 Z p0 h0 n0) 0 0) _
  refine own_via (A' := s₁.setTop (mkF m 0 #[.val (.int p0), .unset, .unset, .unset, .unset] [])) (fun t k => castTop (ef_0 m p0) k) ?_
  refine own_via (A' := s₁.setTop (mkF m 6 #[.val (.int p0), .val (.int ((p0 &&& (65535 : Int32)).toUInt32.toUInt16.toUInt32.toInt32)), .unset, .unset, .unset] [])) (fun target kt => ?_) ?_
  · show Steps p.tables e below (s₁.setTop (mkF m 0 #[.val (.int p0), .unset, .unset, .unset, .unset] [])) _
    refine XS.iloadN X0.here hx rfl (hb hby at_0) rfl ?_
    show Steps p.tables e below (s₁.setTop (mkF m 1 #[.val (.int p0), .unset, .unset, .unset, .unset] [(.int p0)])) _
    refine X0.ldcInt hx hown (mvT hZ (hw _ (List.mem_of_getElem? (i := 0) rfl))) (g := (mkF m 1 #[.val (.int p0), .unset, .unset, .unset, .unset] [(.int p0)])) rfl (hb hby at_1) _ ?_
    show Steps p.tables e below (s₁.setTop (mkF m 3 #[.val (.int p0), .unset, .unset, .unset, .unset] [(.int (65535 : Int32)), (.int p0)])) _
    refine XS.iand X0.here hx rfl (hb hby at_3) rfl ?_
    show Steps p.tables e below (s₁.setTop (mkF m 4 #[.val (.int p0), .unset, .unset, .unset, .unset] [(.int (p0 &&& (65535 : Int32)))])) _
    refine XS.i2c X0.here hx rfl (hb hby at_4) rfl ?_
    show Steps p.tables e below (s₁.setTop (mkF m 5 #[.val (.int p0), .unset, .unset, .unset, .unset] [(.int ((p0 &&& (65535 : Int32)).toUInt32.toUInt16.toUInt32.toInt32))])) _
    refine XS.istoreN X0.here hx rfl (hb hby at_5) rfl (l' := #[.val (.int p0), .val (.int ((p0 &&& (65535 : Int32)).toUInt32.toUInt16.toUInt32.toInt32)), .unset, .unset, .unset]) rfl ?_
    exact kt
  have hc0 := own_char (p0 &&& (65535 : Int32))
  generalize ((p0 &&& (65535 : Int32)).toUInt32.toUInt16.toUInt32.toInt32) = cc at hc0 ⊢
  refine own_via (A' := s₁.setTop (mkF m 13 #[.val (.int p0), .val (.int cc), .val (.long (4294977024 : Int64)), .second, .unset] [(.int (32 : Int32)), (.int cc)])) (fun target kt => ?_) ?_
  · show Steps p.tables e below (s₁.setTop (mkF m 6 #[.val (.int p0), .val (.int cc), .unset, .unset, .unset] [])) _
    refine X0.ldc2Long hx hown (mvT hZ (hw _ (List.mem_of_getElem? (i := 1) rfl))) (g := (mkF m 6 #[.val (.int p0), .val (.int cc), .unset, .unset, .unset] [])) rfl (hb hby at_6) _ ?_
    show Steps p.tables e below (s₁.setTop (mkF m 9 #[.val (.int p0), .val (.int cc), .unset, .unset, .unset] [(.long (4294977024 : Int64))])) _
    refine XS.lstoreN X0.here hx rfl (hb hby at_9) rfl (l' := #[.val (.int p0), .val (.int cc), .val (.long (4294977024 : Int64)), .second, .unset]) rfl ?_
    show Steps p.tables e below (s₁.setTop (mkF m 10 #[.val (.int p0), .val (.int cc), .val (.long (4294977024 : Int64)), .second, .unset] [])) _
    refine XS.iloadN X0.here hx rfl (hb hby at_10) rfl ?_
    show Steps p.tables e below (s₁.setTop (mkF m 11 #[.val (.int p0), .val (.int cc), .val (.long (4294977024 : Int64)), .second, .unset] [(.int cc)])) _
    refine XS.bipush X0.here hx rfl (hb hby at_11) ?_
    exact kt
  by_cases hc13 : (32 : Int32) < cc
  · refine own_via (A' := s₁.setTop (mkF m 30 #[.val (.int p0), .val (.int cc), .val (.long (4294977024 : Int64)), .second, .unset] [])) (fun target kt => XS.icmpYes X0.here hx rfl (pc0 := 13) (pc' := 30) rfl (hb hby at_13) rfl (tlt hc13).2.2.1 (by decide) (by decide) kt) ?_
    refine own_via (A' := s₁.setTop (mkF m 34 #[.val (.int p0), .val (.int cc), .val (.long (4294977024 : Int64)), .second, .val (.int (0 : Int32))] [(.int cc)])) (fun target kt => ?_) ?_
    · show Steps p.tables e below (s₁.setTop (mkF m 30 #[.val (.int p0), .val (.int cc), .val (.long (4294977024 : Int64)), .second, .unset] [])) _
      refine XS.iconst X0.here hx rfl (hb hby at_30) ?_
      show Steps p.tables e below (s₁.setTop (mkF m 31 #[.val (.int p0), .val (.int cc), .val (.long (4294977024 : Int64)), .second, .unset] [(.int (0 : Int32))])) _
      refine XS.istore X0.here hx rfl (hb hby at_31) rfl (l' := #[.val (.int p0), .val (.int cc), .val (.long (4294977024 : Int64)), .second, .val (.int (0 : Int32))]) rfl ?_
      show Steps p.tables e below (s₁.setTop (mkF m 33 #[.val (.int p0), .val (.int cc), .val (.long (4294977024 : Int64)), .second, .val (.int (0 : Int32))] [])) _
      refine XS.iloadN X0.here hx rfl (hb hby at_33) rfl ?_
      exact kt
    obtain ⟨_, _, ⟨T1, L1, k1, n1⟩, -, X1, ⟨Lc1, hQ1, l1, y1, z1⟩, st1⟩ := Jvm.LawKit.callS X0 hx (y := (⟨"com/example/txq/txq/xdm/Whitespace", "is", "(C)Z"⟩ : MethodName)) hown (mvT hZ (hw _ (List.mem_of_getElem? (i := 2) rfl))) (mvT hZ (hw _ (List.mem_of_getElem? (i := 3) rfl))) (mvT hZ (hw _ (List.mem_of_getElem? (i := 4) rfl))) (mvT hZ (hw _ (List.mem_of_getElem? (i := 5) rfl))) (by decide) (backOf (W := 0) (rm1 l Z a0 hw [] cc  h0 n0 Z0 ) hZ (hw _ (List.mem_of_getElem? (i := 5) rfl)) (hw _ (List.mem_of_getElem? (i := 4) rfl)) (by decide) (by decide)) (g := (mkF m 34 #[.val (.int p0), .val (.int cc), .val (.long (4294977024 : Int64)), .second, .val (.int (0 : Int32))] [(.int cc)])) rfl (by rw [hml]; rfl) (argsL := [(.int cc)]) (rest := []) (lenOf pd_0_0 rfl) rfl (by show 2 * 0 + _ ≤ _; exact Nat.le_of_eq rfl) (hb hby at_34) (fun _ _ => ⟨rfl, e0, (by decide : 0 + 0 ≤ _), (by decide : 0 + 0 ≤ _)⟩)
    dsimp only [Pt.U, Pt.locs, Pt.cells, Pt.slots] at X1 l1 y1 z1 st1 hQ1
    subst l1 y1 z1
    obtain ⟨rfl, N1q, e1⟩ := hQ1
    have N1 := Fr.app N0 N1q
    refine own_via (A' := T1.setTop (mkF m 37 #[.val (.int p0), .val (.int cc), .val (.long (4294977024 : Int64)), .second, .val (.int (0 : Int32))] [(.int (own_is cc))])) st1 ?_
    refine own_via (A' := T1.setTop (mkF m 39 #[.val (.int p0), .val (.int cc), .val (.long (4294977024 : Int64)), .second, .val (.int (0 : Int32))] [(.int (0 : Int32)), (.int (own_is cc))])) (fun target kt => ?_) ?_
    · show Steps p.tables e below (T1.setTop (mkF m 37 #[.val (.int p0), .val (.int cc), .val (.long (4294977024 : Int64)), .second, .val (.int (0 : Int32))] [(.int (own_is cc))])) _
      refine XS.iload X1.here hx rfl (hb hby at_37) rfl ?_
      exact kt
    refine own_via (A' := T1.setTop (mkF m 42 #[.val (.int p0), .val (.int cc), .val (.long (4294977024 : Int64)), .second, .val (.int (0 : Int32))] [])) (fun target kt => XS.icmpNo X1.here hx rfl (hb hby at_39) rfl (teq (own_big hc13 : (own_is cc) = (0 : Int32))).2 kt) ?_
    refine own_via (A' := T1.setTop (mkF m 47 #[.val (.int p0), .val (.int cc), .val (.long (4294977024 : Int64)), .second, .val (.int (0 : Int32))] [(.int (1 : Int32))])) (fun target kt => ?_) ?_
    · show Steps p.tables e below (T1.setTop (mkF m 42 #[.val (.int p0), .val (.int cc), .val (.long (4294977024 : Int64)), .second, .val (.int (0 : Int32))] [])) _
      refine XS.iconst X1.here hx rfl (hb hby at_42) ?_
      show Steps p.tables e below (T1.setTop (mkF m 43 #[.val (.int p0), .val (.int cc), .val (.long (4294977024 : Int64)), .second, .val (.int (0 : Int32))] [(.int (1 : Int32))])) _
      refine XS.goto X1.here hx rfl (pc0 := 43) (pc' := 47) rfl (hb hby at_43) (by decide) (by decide) ?_
      exact kt
    exact own_retN X1 Bd.notSynchronized hx (t := .boolean) Bd.returns (by simp) (hb hby at_47) (show Q0 Z p0 h0 n0 _ _ _ from ⟨rfl, N1⟩) (by decide) (by decide)
  · refine own_via (A' := s₁.setTop (mkF m 16 #[.val (.int p0), .val (.int cc), .val (.long (4294977024 : Int64)), .second, .unset] [])) (fun target kt => XS.icmpNo X0.here hx rfl (hb hby at_13) rfl (flt hc13).2.2.1 kt) ?_
    refine own_via (A' := s₁.setTop (mkF m 23 #[.val (.int p0), .val (.int cc), .val (.long (4294977024 : Int64)), .second, .unset] [(.int (lcmpW ((((4294977024 : Int64).toUInt64 >>> (cc &&& 0x3f).toInt64.toUInt64).toInt64) &&& (1 : Int64)) (0 : Int64)))])) (fun target kt => ?_) ?_
    · show Steps p.tables e below (s₁.setTop (mkF m 16 #[.val (.int p0), .val (.int cc), .val (.long (4294977024 : Int64)), .second, .unset] [])) _
      refine XS.lloadN X0.here hx rfl (hb hby at_16) rfl ?_
      show Steps p.tables e below (s₁.setTop (mkF m 17 #[.val (.int p0), .val (.int cc), .val (.long (4294977024 : Int64)), .second, .unset] [(.long (4294977024 : Int64))])) _
      refine XS.iloadN X0.here hx rfl (hb hby at_17) rfl ?_
      show Steps p.tables e below (s₁.setTop (mkF m 18 #[.val (.int p0), .val (.int cc), .val (.long (4294977024 : Int64)), .second, .unset] [(.int cc), (.long (4294977024 : Int64))])) _
      refine XS.lushr X0.here hx rfl (hb hby at_18) rfl ?_
      show Steps p.tables e below (s₁.setTop (mkF m 19 #[.val (.int p0), .val (.int cc), .val (.long (4294977024 : Int64)), .second, .unset] [(.long (((4294977024 : Int64).toUInt64 >>> (cc &&& 0x3f).toInt64.toUInt64).toInt64))])) _
      refine XS.lconst X0.here hx rfl (hb hby at_19) ?_
      show Steps p.tables e below (s₁.setTop (mkF m 20 #[.val (.int p0), .val (.int cc), .val (.long (4294977024 : Int64)), .second, .unset] [(.long (1 : Int64)), (.long (((4294977024 : Int64).toUInt64 >>> (cc &&& 0x3f).toInt64.toUInt64).toInt64))])) _
      refine XS.land X0.here hx rfl (hb hby at_20) rfl ?_
      show Steps p.tables e below (s₁.setTop (mkF m 21 #[.val (.int p0), .val (.int cc), .val (.long (4294977024 : Int64)), .second, .unset] [(.long ((((4294977024 : Int64).toUInt64 >>> (cc &&& 0x3f).toInt64.toUInt64).toInt64) &&& (1 : Int64)))])) _
      refine XS.lconst X0.here hx rfl (hb hby at_21) ?_
      show Steps p.tables e below (s₁.setTop (mkF m 22 #[.val (.int p0), .val (.int cc), .val (.long (4294977024 : Int64)), .second, .unset] [(.long (0 : Int64)), (.long ((((4294977024 : Int64).toUInt64 >>> (cc &&& 0x3f).toInt64.toUInt64).toInt64) &&& (1 : Int64)))])) _
      refine XS.lcmp X0.here hx rfl (hb hby at_22) rfl ?_
      exact kt
    by_cases hc23 : (lcmpW ((((4294977024 : Int64).toUInt64 >>> (cc &&& 0x3f).toInt64.toUInt64).toInt64) &&& (1 : Int64)) (0 : Int64)) = (0 : Int32)
    · refine own_via (A' := s₁.setTop (mkF m 30 #[.val (.int p0), .val (.int cc), .val (.long (4294977024 : Int64)), .second, .unset] [])) (fun target kt => XS.ifYes X0.here hx rfl (pc0 := 23) (pc' := 30) rfl (hb hby at_23) rfl ((if0 _ _).trans (teq hc23).1) (by decide) (by decide) kt) ?_
      refine own_via (A' := s₁.setTop (mkF m 34 #[.val (.int p0), .val (.int cc), .val (.long (4294977024 : Int64)), .second, .val (.int (0 : Int32))] [(.int cc)])) (fun target kt => ?_) ?_
      · show Steps p.tables e below (s₁.setTop (mkF m 30 #[.val (.int p0), .val (.int cc), .val (.long (4294977024 : Int64)), .second, .unset] [])) _
        refine XS.iconst X0.here hx rfl (hb hby at_30) ?_
        show Steps p.tables e below (s₁.setTop (mkF m 31 #[.val (.int p0), .val (.int cc), .val (.long (4294977024 : Int64)), .second, .unset] [(.int (0 : Int32))])) _
        refine XS.istore X0.here hx rfl (hb hby at_31) rfl (l' := #[.val (.int p0), .val (.int cc), .val (.long (4294977024 : Int64)), .second, .val (.int (0 : Int32))]) rfl ?_
        show Steps p.tables e below (s₁.setTop (mkF m 33 #[.val (.int p0), .val (.int cc), .val (.long (4294977024 : Int64)), .second, .val (.int (0 : Int32))] [])) _
        refine XS.iloadN X0.here hx rfl (hb hby at_33) rfl ?_
        exact kt
      obtain ⟨_, _, ⟨T2, L2, k2, n2⟩, -, X2, ⟨Lc2, hQ2, l2, y2, z2⟩, st2⟩ := Jvm.LawKit.callS X0 hx (y := (⟨"com/example/txq/txq/xdm/Whitespace", "is", "(C)Z"⟩ : MethodName)) hown (mvT hZ (hw _ (List.mem_of_getElem? (i := 2) rfl))) (mvT hZ (hw _ (List.mem_of_getElem? (i := 3) rfl))) (mvT hZ (hw _ (List.mem_of_getElem? (i := 4) rfl))) (mvT hZ (hw _ (List.mem_of_getElem? (i := 5) rfl))) (by decide) (backOf (W := 0) (rm1 l Z a0 hw [] cc  h0 n0 Z0 ) hZ (hw _ (List.mem_of_getElem? (i := 5) rfl)) (hw _ (List.mem_of_getElem? (i := 4) rfl)) (by decide) (by decide)) (g := (mkF m 34 #[.val (.int p0), .val (.int cc), .val (.long (4294977024 : Int64)), .second, .val (.int (0 : Int32))] [(.int cc)])) rfl (by rw [hml]; rfl) (argsL := [(.int cc)]) (rest := []) (lenOf pd_0_0 rfl) rfl (by show 2 * 0 + _ ≤ _; exact Nat.le_of_eq rfl) (hb hby at_34) (fun _ _ => ⟨rfl, e0, (by decide : 0 + 0 ≤ _), (by decide : 0 + 0 ≤ _)⟩)
      dsimp only [Pt.U, Pt.locs, Pt.cells, Pt.slots] at X2 l2 y2 z2 st2 hQ2
      subst l2 y2 z2
      obtain ⟨rfl, N2q, e2⟩ := hQ2
      have N2 := Fr.app N0 N2q
      refine own_via (A' := T2.setTop (mkF m 37 #[.val (.int p0), .val (.int cc), .val (.long (4294977024 : Int64)), .second, .val (.int (0 : Int32))] [(.int (own_is cc))])) st2 ?_
      refine own_via (A' := T2.setTop (mkF m 39 #[.val (.int p0), .val (.int cc), .val (.long (4294977024 : Int64)), .second, .val (.int (0 : Int32))] [(.int (0 : Int32)), (.int (own_is cc))])) (fun target kt => ?_) ?_
      · show Steps p.tables e below (T2.setTop (mkF m 37 #[.val (.int p0), .val (.int cc), .val (.long (4294977024 : Int64)), .second, .val (.int (0 : Int32))] [(.int (own_is cc))])) _
        refine XS.iload X2.here hx rfl (hb hby at_37) rfl ?_
        exact kt
      refine own_via (A' := T2.setTop (mkF m 42 #[.val (.int p0), .val (.int cc), .val (.long (4294977024 : Int64)), .second, .val (.int (0 : Int32))] [])) (fun target kt => XS.icmpNo X2.here hx rfl (hb hby at_39) rfl (teq ((own_small hc0 hc13).elim (fun q => q.2) (fun q => absurd hc23 q.1) : (own_is cc) = (0 : Int32))).2 kt) ?_
      refine own_via (A' := T2.setTop (mkF m 47 #[.val (.int p0), .val (.int cc), .val (.long (4294977024 : Int64)), .second, .val (.int (0 : Int32))] [(.int (1 : Int32))])) (fun target kt => ?_) ?_
      · show Steps p.tables e below (T2.setTop (mkF m 42 #[.val (.int p0), .val (.int cc), .val (.long (4294977024 : Int64)), .second, .val (.int (0 : Int32))] [])) _
        refine XS.iconst X2.here hx rfl (hb hby at_42) ?_
        show Steps p.tables e below (T2.setTop (mkF m 43 #[.val (.int p0), .val (.int cc), .val (.long (4294977024 : Int64)), .second, .val (.int (0 : Int32))] [(.int (1 : Int32))])) _
        refine XS.goto X2.here hx rfl (pc0 := 43) (pc' := 47) rfl (hb hby at_43) (by decide) (by decide) ?_
        exact kt
      exact own_retN X2 Bd.notSynchronized hx (t := .boolean) Bd.returns (by simp) (hb hby at_47) (show Q0 Z p0 h0 n0 _ _ _ from ⟨rfl, N2⟩) (by decide) (by decide)
    · refine own_via (A' := s₁.setTop (mkF m 26 #[.val (.int p0), .val (.int cc), .val (.long (4294977024 : Int64)), .second, .unset] [])) (fun target kt => XS.ifNo X0.here hx rfl (hb hby at_23) rfl ((if0 _ _).trans (feq hc23).1) kt) ?_
      refine own_via (A' := s₁.setTop (mkF m 34 #[.val (.int p0), .val (.int cc), .val (.long (4294977024 : Int64)), .second, .val (.int (1 : Int32))] [(.int cc)])) (fun target kt => ?_) ?_
      · show Steps p.tables e below (s₁.setTop (mkF m 26 #[.val (.int p0), .val (.int cc), .val (.long (4294977024 : Int64)), .second, .unset] [])) _
        refine XS.iconst X0.here hx rfl (hb hby at_26) ?_
        show Steps p.tables e below (s₁.setTop (mkF m 27 #[.val (.int p0), .val (.int cc), .val (.long (4294977024 : Int64)), .second, .unset] [(.int (1 : Int32))])) _
        refine XS.goto X0.here hx rfl (pc0 := 27) (pc' := 31) rfl (hb hby at_27) (by decide) (by decide) ?_
        show Steps p.tables e below (s₁.setTop (mkF m 31 #[.val (.int p0), .val (.int cc), .val (.long (4294977024 : Int64)), .second, .unset] [(.int (1 : Int32))])) _
        refine XS.istore X0.here hx rfl (hb hby at_31) rfl (l' := #[.val (.int p0), .val (.int cc), .val (.long (4294977024 : Int64)), .second, .val (.int (1 : Int32))]) rfl ?_
        show Steps p.tables e below (s₁.setTop (mkF m 33 #[.val (.int p0), .val (.int cc), .val (.long (4294977024 : Int64)), .second, .val (.int (1 : Int32))] [])) _
        refine XS.iloadN X0.here hx rfl (hb hby at_33) rfl ?_
        exact kt
      obtain ⟨_, _, ⟨T3, L3, k3, n3⟩, -, X3, ⟨Lc3, hQ3, l3, y3, z3⟩, st3⟩ := Jvm.LawKit.callS X0 hx (y := (⟨"com/example/txq/txq/xdm/Whitespace", "is", "(C)Z"⟩ : MethodName)) hown (mvT hZ (hw _ (List.mem_of_getElem? (i := 2) rfl))) (mvT hZ (hw _ (List.mem_of_getElem? (i := 3) rfl))) (mvT hZ (hw _ (List.mem_of_getElem? (i := 4) rfl))) (mvT hZ (hw _ (List.mem_of_getElem? (i := 5) rfl))) (by decide) (backOf (W := 0) (rm1 l Z a0 hw [] cc  h0 n0 Z0 ) hZ (hw _ (List.mem_of_getElem? (i := 5) rfl)) (hw _ (List.mem_of_getElem? (i := 4) rfl)) (by decide) (by decide)) (g := (mkF m 34 #[.val (.int p0), .val (.int cc), .val (.long (4294977024 : Int64)), .second, .val (.int (1 : Int32))] [(.int cc)])) rfl (by rw [hml]; rfl) (argsL := [(.int cc)]) (rest := []) (lenOf pd_0_0 rfl) rfl (by show 2 * 0 + _ ≤ _; exact Nat.le_of_eq rfl) (hb hby at_34) (fun _ _ => ⟨rfl, e0, (by decide : 0 + 0 ≤ _), (by decide : 0 + 0 ≤ _)⟩)
      dsimp only [Pt.U, Pt.locs, Pt.cells, Pt.slots] at X3 l3 y3 z3 st3 hQ3
      subst l3 y3 z3
      obtain ⟨rfl, N3q, e3⟩ := hQ3
      have N3 := Fr.app N0 N3q
      refine own_via (A' := T3.setTop (mkF m 37 #[.val (.int p0), .val (.int cc), .val (.long (4294977024 : Int64)), .second, .val (.int (1 : Int32))] [(.int (own_is cc))])) st3 ?_
      refine own_via (A' := T3.setTop (mkF m 39 #[.val (.int p0), .val (.int cc), .val (.long (4294977024 : Int64)), .second, .val (.int (1 : Int32))] [(.int (1 : Int32)), (.int (own_is cc))])) (fun target kt => ?_) ?_
      · show Steps p.tables e below (T3.setTop (mkF m 37 #[.val (.int p0), .val (.int cc), .val (.long (4294977024 : Int64)), .second, .val (.int (1 : Int32))] [(.int (own_is cc))])) _
        refine XS.iload X3.here hx rfl (hb hby at_37) rfl ?_
        exact kt
      refine own_via (A' := T3.setTop (mkF m 42 #[.val (.int p0), .val (.int cc), .val (.long (4294977024 : Int64)), .second, .val (.int (1 : Int32))] [])) (fun target kt => XS.icmpNo X3.here hx rfl (hb hby at_39) rfl (teq ((own_small hc0 hc13).elim (fun q => absurd q.1 hc23) (fun q => q.2) : (own_is cc) = (1 : Int32))).2 kt) ?_
      refine own_via (A' := T3.setTop (mkF m 47 #[.val (.int p0), .val (.int cc), .val (.long (4294977024 : Int64)), .second, .val (.int (1 : Int32))] [(.int (1 : Int32))])) (fun target kt => ?_) ?_
      · show Steps p.tables e below (T3.setTop (mkF m 42 #[.val (.int p0), .val (.int cc), .val (.long (4294977024 : Int64)), .second, .val (.int (1 : Int32))] [])) _
        refine XS.iconst X3.here hx rfl (hb hby at_42) ?_
        show Steps p.tables e below (T3.setTop (mkF m 43 #[.val (.int p0), .val (.int cc), .val (.long (4294977024 : Int64)), .second, .val (.int (1 : Int32))] [(.int (1 : Int32))])) _
        refine XS.goto X3.here hx rfl (pc0 := 43) (pc' := 47) rfl (hb hby at_43) (by decide) (by decide) ?_
        exact kt
      exact own_retN X3 Bd.notSynchronized hx (t := .boolean) Bd.returns (by simp) (hb hby at_47) (show Q0 Z p0 h0 n0 _ _ _ from ⟨rfl, N3⟩) (by decide) (by decide)
set_option maxRecDepth 65536 in
set_option maxHeartbeats 40000000 in
theorem comes_1 {Post : Tables → Env → Array Value → State → Outcome → State → Prop} (hpost : ∀ tb e args s v u, (limb_1_1.after args s (.returned v) u = true ∧ limb_1_2.after args s (.returned v) u = true ∧ True) → FrameEnd s (.returned v) u (Jvm.fieldLocs frame_1_writes args s ++ Jvm.arrayLocs frame_1_arrays args s ++ Jvm.staticLocs frame_1_statics s) 0 0 → Post tb e args s (.returned v) u) :
    ArmFor flags0 classFile x code maxLocals ret World_1 tables_1 room_1 Calls_1 rest_1 Pre_1 Post := by
  intro l hfl _ _ p e ha hc hk s m args below hf hA hF happ hP
  obtain ⟨hcalls, hrest, hpre⟩ := hP
  obtain ⟨-, -, -, hnamed, -, -, -, hat⟩ := (Spec.applies_iff hf).mp happ
  obtain ⟨hg, hn⟩ := and_e (Cond.before_iff.mp (show (Jvm.Cond.and given_1 narrow_1).before args s = true from hpre))
  obtain ⟨h1, g0⟩ := and_e hg
  obtain ⟨w0, rfl⟩ : ∃ w0 : Value, args = #[w0] := by
    have hs : args.size = 1 := by simpa [Cond.value, given_1] using h1
    obtain ⟨L⟩ := args
    match L, hs with
    | [w0], _ => exact ⟨w0, rfl⟩
  have hw := fun d (hd : d ∈ tables_1) => atoms_spec (ws := Jvm.Cond.code x code maxLocals ret :: tables_1) hat d (List.mem_cons_of_mem _ hd)
  obtain ⟨i0, ei0⟩ := is_v g0
  obtain rfl : w0 = (.int i0) := Option.some.inj ei0
  obtain ⟨n, o, h1, h2, h3, _, L, rfl, ⟨rfl, N⟩, hq⟩ := rm0 l s _ hw tables_1 i0 s.heap s.heap.size (Nat.le_refl _) p e ha hc hk s m _ below hf ((Spec.applies_iff_loose hf).mp happ).1 ⟨rfl, State.Warmed39.refl s, rfl⟩ trivial
  refine ⟨n, _, h1, h2, h3, hpost _ _ _ _ _ _ ⟨Cond.after_iff.mpr rfl, Cond.after_iff.mpr (eq_i res_at (Term.int_eval (1)) rfl), trivial⟩ ⟨hq.1, hq.2.1, (hq.2.2.sift fun y hy => Or.inr (N y hy)).mono (by decide) (by decide)⟩⟩
theorem main_1_1 : Claimed_1_1 := comes_1 fun _ _ _ _ _ _ h hF => ⟨h.1, hF⟩
theorem main_1_2 : Claimed_1_2 := comes_1 fun _ _ _ _ _ _ h hF => ⟨h.2.1, hF⟩
end Jvm.Pilot.@@N@@
namespace Jvm.Pilot.@@N@@
open Jvm Jvm.ClassFile Sem Op Lib Jvm.Free Jvm.Stand Jvm.Pilot.@@N@@.Jvm.D
/-! MADE BY PROGRAM (witnessworld.py) out of the Statement's table words and the real class files: 9 classes; the members and pool entries that the words name. The judged class is class 1, her method 1. -/
namespace start1
open Jvm.ClassFile
def u (s : String) : CpInfo := .utf8 (stringToUtf16 s)
/-- a pool by its gaps: so many unusable entries, then the entry; so many at the end -/
def gap : Nat → List CpInfo → List CpInfo
  | 0, r => r
  | n + 1, r => .unusable :: gap n r
def poolList (es : List (Nat × CpInfo)) (last : Nat) : List CpInfo := es.foldr (fun e r => gap e.1 (e.2 :: r)) (gap last [])
def pool (es : List (Nat × CpInfo)) (last : Nat) : Array CpInfo := ⟨poolList es last⟩
def fileOf (pool : Array CpInfo) (this : Nat) (attrs : Array Attribute := #[]) (ms : Array MethodInfo := #[]) (fl : Nat := 33) (sup : Nat := 0) (ifs : Array Nat := #[]) (fds : Array FieldInfo := #[]) : ClassFile where
  minorVersion := 0
  majorVersion := 65
  constantPool := pool
  accessFlags := fl
  thisClass := this
  superClass := sup
  interfaces := ifs
  fields := fds
  methods := ms
  attributes := attrs
def plain (name : String) (sup : Option ClassId) : Class where
  name := name
  kind := .ordinary
  loader := none
  accessFlags := 33
  super := sup
  interfaces := #[]
  cf := none
  fields := #[]
  methods := #[]
  instanceTypes := #[]
  staticTypes := #[]
  resolved := #[]
  callSites := []
  init := .initialized
  statics := none
  mirror := none

def pool0 : Array CpInfo := pool [(5, u "<init>"), (0, u "()V"), (1, .class_ 10), (1, u "java/lang/Object")] 113

def k0m0 : Method := { name := "<init>", desc := "()V", sig := { parameters := [], returnType := none }, accessFlags := 1, code := none }
/-- java/lang/Object -/
def k0 : Class := { plain "java/lang/Object" none with
  accessFlags := 33
  interfaces := #[]
  cf := some (fileOf pool0 8 #[] #[{ accessFlags := 1, nameIndex := 5, descriptorIndex := 6, attributes := #[] }] 33 0 #[] #[])
  fields := #[]
  methods := #[k0m0]
  instanceTypes := #[]
  staticTypes := #[]
  resolved := Array.replicate 124 none
  statics := none }

def pool1 : Array CpInfo := pool [(2, .class_ 4), (1, u "java/lang/Object"), (0, u "<init>"), (0, u "()V"), (0, .integer 65535), (0, .long 4294977024), (1, .methodref 11 12), (0, .class_ 13), (0, .nameAndType 14 15), (0, u "com/example/txq/txq/xdm/Whitespace"), (0, u "is"), (0, u "(C)Z"), (0, .class_ 17), (0, u "com/example/txq/txq/xdm/WhitespaceIsPinLaw"), (2, u "law"), (0, u "(I)Z")] 3

def k1m0 : Method := { name := "<init>", desc := "()V", sig := { parameters := [], returnType := none }, accessFlags := 2, code := none }
def k1c1 : Code := { maxStack := 4, maxLocals := 5, code := code, exceptionTable := #[], attributes := #[] }
def k1m1 : Method := { name := "law", desc := "(I)Z", sig := { parameters := [.int], returnType := some .boolean }, accessFlags := 9, code := some k1c1 }
/-- com/example/txq/txq/xdm/WhitespaceIsPinLaw -/
def k1 : Class := { plain "com/example/txq/txq/xdm/WhitespaceIsPinLaw" (some 0) with
  accessFlags := 49
  interfaces := #[]
  cf := some (fileOf pool1 16 #[] #[{ accessFlags := 2, nameIndex := 5, descriptorIndex := 6, attributes := #[] }, { accessFlags := 9, nameIndex := 20, descriptorIndex := 21, attributes := #[] }] 49 2 #[] #[])
  fields := #[]
  methods := #[k1m0, k1m1]
  instanceTypes := #[]
  staticTypes := #[]
  resolved := Array.replicate 25 none
  statics := none }

def pool2 : Array CpInfo := pool [(2, .class_ 4), (1, u "java/lang/Object"), (0, u "<init>"), (0, u "()V"), (11, .class_ 20), (1, u "com/example/txq/txq/xdm/Whitespace"), (0, u "is"), (0, u "(C)Z")] 54

def k2m0 : Method := { name := "<init>", desc := "()V", sig := { parameters := [], returnType := none }, accessFlags := 2, code := none }
def k2c1 : Code := { maxStack := 2, maxLocals := 1, code := prog_225_method_2_code, exceptionTable := #[], attributes := #[] }
def k2m1 : Method := { name := "is", desc := "(C)Z", sig := { parameters := [.char], returnType := some .boolean }, accessFlags := 9, code := some k2c1 }
/-- com/example/txq/txq/xdm/Whitespace -/
def k2 : Class := { plain "com/example/txq/txq/xdm/Whitespace" (some 0) with
  accessFlags := 49
  interfaces := #[]
  cf := some (fileOf pool2 18 #[] #[{ accessFlags := 2, nameIndex := 5, descriptorIndex := 6, attributes := #[] }, { accessFlags := 9, nameIndex := 21, descriptorIndex := 22, attributes := #[] }] 49 2 #[] #[])
  fields := #[]
  methods := #[k2m0, k2m1]
  instanceTypes := #[]
  staticTypes := #[]
  resolved := Array.replicate 77 none
  statics := none }

def pool3 : Array CpInfo := pool [(1, u "java/lang/Cloneable"), (0, .class_ 1), (0, u "java/lang/Object"), (0, .class_ 3)] 3

/-- java/lang/Cloneable -/
def k3 : Class := { plain "java/lang/Cloneable" (some 0) with
  accessFlags := 1537
  interfaces := #[]
  cf := some (fileOf pool3 2 #[] #[] 1537 4 #[] #[])
  fields := #[]
  methods := #[]
  instanceTypes := #[]
  staticTypes := #[]
  resolved := Array.replicate 8 none
  statics := none }

def pool4 : Array CpInfo := pool [(1, u "java/io/Serializable"), (0, .class_ 1), (0, u "java/lang/Object"), (0, .class_ 3)] 3

/-- java/io/Serializable -/
def k4 : Class := { plain "java/io/Serializable" (some 0) with
  accessFlags := 1537
  interfaces := #[]
  cf := some (fileOf pool4 2 #[] #[] 1537 4 #[] #[])
  fields := #[]
  methods := #[]
  instanceTypes := #[]
  staticTypes := #[]
  resolved := Array.replicate 8 none
  statics := none }

/-- the primitive byte -/
def k5 : Class := { plain "byte" none with kind := .primitive 'B', accessFlags := 0x411 }
/-- [B -/
def k6 : Class := { plain "[B" (some 0) with kind := .array 5 .byte, interfaces := #[3, 4], accessFlags := 1041 }

/-- the primitive int -/
def k7 : Class := { plain "int" none with kind := .primitive 'I', accessFlags := 0x411 }
/-- [I -/
def k8 : Class := { plain "[I" (some 0) with kind := .array 7 .int, interfaces := #[3, 4], accessFlags := 1041 }

def heap : Heap := #[]
def classes : Array Class := #[k0, k1, k2, k3, k4, k5, k6, k7, k8]
def interned : List (Array UInt16 × Addr) := []
def slotsUsed : Nat := 0
def theMethod : MethodId := ⟨1, 1⟩
def args0 : Array Value := #[.int 5]
def aboutOver (below : List Frame) : State where
  vm := { classes := classes, interned := interned.toArray }
  heap := heap
  slotsUsed := slotsUsed
  threads := #[{ frames := .invoking theMethod args0 :: below }]
def below0 : List Frame := [.native { method := ⟨0, 0⟩, args := #[] }]
def about1 : State := aboutOver below0
def p0 : Program := .bare "" "" ""
def e0 : Env := launch0.env 0 0 0
theorem w_frames : about1.frames = Frame.invoking theMethod args0 :: below0 := rfl
set_option maxRecDepth 65536 in
theorem w_args : argsFit about1.vm theMethod args0 = true := by decide +kernel
set_option maxRecDepth 65536 in
theorem w_heap : heapFits about1 = true := by decide +kernel
set_option maxRecDepth 65536 in
theorem w_runnable : about1.curStatus? = some .runnable := by decide +kernel
set_option maxRecDepth 65536 in
theorem w_alone : about1.alone = true := by decide +kernel
set_option maxRecDepth 65536 in
theorem w_named : about1.methodNamed? x = some theMethod := by decide +kernel
set_option maxRecDepth 65536 in
theorem w_hears : about1.hears theMethod below0 = true := by decide +kernel
set_option maxRecDepth 65536 in
theorem w_ripe : about1.ripe theMethod args0 below0 = true := by decide +kernel
theorem w_running : about1.status = .running := rfl
set_option maxRecDepth 65536 in
theorem w_room : about1.hasRoom e0.platform room_1 = true :=
  launch0.hasRoom_least _ room_1 (by decide +kernel) (by decide +kernel) (by decide +kernel) (by decide +kernel) (by decide +kernel) (by decide +kernel)
theorem allAtoms_all (ts : List Jvm.Cond) (a : Array Jvm.Value) (st : Jvm.State) : (allAtoms ts).before a st = ts.all (fun c => c.before a st) := by
  induction ts with
  | nil => rfl
  | cons c t ih =>
    show (Jvm.Cond.and c (allAtoms t)).before a st = _
    rw [Jvm.Cond.before_and, ih, List.all_cons]
def words1 : List Jvm.Cond := Jvm.Cond.code x code maxLocals ret :: tables_1
/-- a 'code' word, met by the world's own term for the bytes: nothing is compared byte by byte -/
theorem code_word {y : MethodName} {bytes : ByteArray} {mx : Nat} {rt : Option FieldType} {a : Array Value} {s : State} {m : MethodId} {meth : Method} {c : Code} (h1 : s.methodNamed? y = some m) (h2 : s.vm.method? m = some meth) (h3 : meth.code = some c) (h4 : c.code = bytes)
    (h5 : (c.maxLocals == mx && c.exceptionTable.isEmpty && decide (c.maxStack ≤ mostOperands) && decide (meth.sig.returnType = rt) && !meth.locks && decide (parseMethodDescriptor y.desc = some meth.sig)) = true) : (Jvm.Cond.code y bytes mx rt).before a s = true := by
  simp only [Bool.and_eq_true, beq_iff_eq, Bool.not_eq_true', decide_eq_true_eq] at h5
  obtain ⟨⟨⟨⟨⟨g1, g2⟩, g3⟩, g4⟩, g5⟩, g6⟩ := h5
  simp [Cond.before, Cond.holds, Cond.value, h1, h2, h3, h4, g1, g2, g3, g4, g5, g6]
def isCode : Jvm.Cond → Bool
  | .code _ _ _ _ => true
  | _ => false
theorem all_split {L : List Jvm.Cond} {P : Jvm.Cond → Bool} (h1 : L.all (fun c => isCode c || P c) = true) (h2 : ∀ c ∈ L.filter isCode, P c = true) : L.all P = true := by
  refine List.all_eq_true.mpr fun c hc => ?_
  have h := List.all_eq_true.mp h1 c hc
  rcases Bool.eq_false_or_eq_true (isCode c) with hi | hi
  · exact h2 c (List.mem_filter.mpr ⟨hc, hi⟩)
  · simpa [hi] using h
set_option maxRecDepth 65536 in
theorem w_c0 : (Jvm.Cond.code x code maxLocals ret).before args0 about1 = true := code_word (m := ⟨1, 1⟩) (meth := k1m1) (c := k1c1) (by decide +kernel) rfl rfl rfl (by decide +kernel)
set_option maxRecDepth 65536 in
theorem w_c1 : (Jvm.Cond.code ({ cls := "com/example/txq/txq/xdm/Whitespace", name := "is", desc := "(C)Z" } : Jvm.MethodName) prog_225_method_2_code (1 : Nat) (Option.some Jvm.ClassFile.FieldType.boolean)).before args0 about1 = true := code_word (m := ⟨2, 1⟩) (meth := k2m1) (c := k2c1) (by decide +kernel) rfl rfl rfl (by decide +kernel)
def codes1 : List Jvm.Cond := [Jvm.Cond.code x code maxLocals ret, Jvm.Cond.code ({ cls := "com/example/txq/txq/xdm/Whitespace", name := "is", desc := "(C)Z" } : Jvm.MethodName) prog_225_method_2_code (1 : Nat) (Option.some Jvm.ClassFile.FieldType.boolean)]
set_option maxRecDepth 65536 in
theorem codes_eq : words1.filter isCode = codes1 := rfl
theorem w_codes : ∀ c ∈ words1.filter isCode, c.before args0 about1 = true := by
  rw [codes_eq]
  intro c hc
  simp only [codes1, List.mem_cons, List.not_mem_nil, or_false] at hc
  rcases hc with rfl | rfl
  · exact w_c0
  · exact w_c1
set_option maxRecDepth 65536 in
theorem w_t1 : words1.all (fun c => isCode c || c.before args0 about1) = true := by decide +kernel
theorem w_tables : (allAtoms (Jvm.Cond.code x code maxLocals ret :: tables_1)).before args0 about1 = true := by
  rw [allAtoms_all]
  show words1.all (fun c => c.before args0 about1) = true
  refine all_split ?_ w_codes
  rw [w_t1]
set_option maxRecDepth 65536 in
theorem w_case : (Jvm.Cond.and given_1 narrow_1).before args0 about1 = true := by decide +kernel
theorem w_applies : (headSpec (Jvm.Cond.code x code maxLocals ret :: tables_1) room_1).applies x e0.platform about1 = true :=
  (Spec.applies_iff w_frames).mpr ⟨w_running, w_runnable, w_alone, w_named, w_hears, w_ripe, w_room, w_tables⟩
theorem atStart : AtStart classFile x code maxLocals ret World_1 tables_1 room_1 Calls_1 rest_1 Pre_1 launch0 p0 e0 about1 theMethod args0 below0 :=
  ⟨lists_1, trivial, launch0.admits_env _ _ _, launch0.least_env, fairChoices_fair.cas, fairChoices_fair.clock, w_frames, w_args, w_heap, w_applies, trivial, trivial, w_case⟩
end start1
theorem witness_1 : WitnessClaimed_1 := ⟨start1.p0, start1.e0, start1.about1, start1.theMethod, start1.args0, start1.below0, start1.atStart⟩
end Jvm.Pilot.@@N@@
