import JvmDerived
import JvmDerived.Pilot.@@N@@Statement
import JvmDerived.Pilot.@@N@@Code
set_option linter.unusedVariables false
set_option linter.unusedSimpArgs false
namespace Jvm.RoadKit
open Sem ClassFile Op Lib Jvm.Stand Jvm.Free Jvm.LawKit
section New
variable {p : Program} {l : Launch} {e : Env} {R : Room} {s : State} {m : MethodId} {args : Array Value} {below : List Frame} {meth : Method} {c : Code} {T : State} {locs : List Loc} {cells slots : Nat}
theorem retI (X : Stand p l e R s m args below meth c T locs cells slots) (hx : p.tables.exec = Jvm.exec) {pc : Nat} {Ls : Array Slot} {z : Int32} {rest : List Value} (hret : meth.sig.returnType = some .int) (hd : decode c.code pc = .ok (.ireturn, 1)) {fs : List Frame}
    (hl : ∀ (f : JFrame) (acts : List Action), f.method = m → f.locked = none → f.entered = [] → (doReturn e (T.setTop f) acts (some (.int z))).1 = T.setFrames fs) : Steps p.tables e below (T.setTop (mkF m pc Ls (.int z :: rest))) (T.setFrames fs) := by
  have hm' : T.vm.method? m = some meth := X.method'
  have hn : narrow .int (.int z) = .int z := rfl
  show Steps p.tables e below (T.setTop { method := m, pc := pc, locals := Ls, stack := _ :: rest, locked := none }) _
  jvm_step X.here [X.here.top, hx, hd, hm', hret, hn]
  first | (intro acts; rw [hl _ acts rfl rfl rfl]) | rw [hl _ _ rfl rfl rfl]
  exact Steps.refl _
/-- what a body leaves -/
def own_P (s : State) (Q : Option Value → Heap → List Loc → Prop) (k n : Nat) (s₂ : State) (o : Outcome) : Prop := ∃ v L, o = .returned v ∧ Q v s₂.heap L ∧ FrameEnd s o s₂ L k n
/-- from A the run comes to an end that P allows -/
def own_G (p : Program) (e : Env) (below : List Frame) (P : State → Outcome → Prop) (A : State) : Prop := ∃ s₂ o, Steps p.tables e below A s₂ ∧ s₂.status = .running ∧ Ended s₂ below o ∧ P s₂ o
theorem own_via {P : State → Outcome → Prop} {A A' : State} (h : ∀ t, Steps p.tables e below A' t → Steps p.tables e below A t) (k : own_G p e below P A') : own_G p e below P A := by
  obtain ⟨s₂, o, h1, h2⟩ := k
  exact ⟨s₂, o, h _ h1, h2⟩
theorem own_retN (X : Stand p l e R s m args below meth c T locs cells slots) (hlocks : meth.locks = false) (hx : p.tables.exec = Jvm.exec) {pc : Nat} {Ls : Array Slot} {z : Int32} {t : FieldType} {rest : List Value} {K N : Nat} {Q : Option Value → Heap → List Loc → Prop} (hret : meth.sig.returnType = some t) (ht : t = .boolean ∨ t = .byte ∨ t = .char ∨ t = .short)
    (hd : decode c.code pc = .ok (.ireturn, 1)) (hq : Q (some (.int (nar t z))) T.heap locs) (hK : cells ≤ K) (hN : slots ≤ N) : own_G p e below (own_P s Q K N) (T.setTop (mkF m pc Ls (.int z :: rest))) := by
  obtain ⟨fs, hr, hrun, hended, hW, hsame⟩ := X.leave (v := some (.int (nar t z))) (fun h => by rw [hret] at h; cases h) hlocks
  exact ⟨_, _, retN X hx hret ht hd hr, hrun, hended, _, _, rfl, hq, ⟨_, rfl⟩, hW, hsame.mono hK hN⟩
theorem own_retI (X : Stand p l e R s m args below meth c T locs cells slots) (hlocks : meth.locks = false) (hx : p.tables.exec = Jvm.exec) {pc : Nat} {Ls : Array Slot} {z : Int32} {rest : List Value} {K N : Nat} {Q : Option Value → Heap → List Loc → Prop} (hret : meth.sig.returnType = some .int)
    (hd : decode c.code pc = .ok (.ireturn, 1)) (hq : Q (some (.int z)) T.heap locs) (hK : cells ≤ K) (hN : slots ≤ N) : own_G p e below (own_P s Q K N) (T.setTop (mkF m pc Ls (.int z :: rest))) := by
  obtain ⟨fs, hr, hrun, hended, hW, hsame⟩ := X.leave (v := some (.int z)) (fun h => by rw [hret] at h; cases h) hlocks
  exact ⟨_, _, retI X hx hret hd hr, hrun, hended, _, _, rfl, hq, ⟨_, rfl⟩, hW, hsame.mono hK hN⟩
theorem own_retA (X : Stand p l e R s m args below meth c T locs cells slots) (hlocks : meth.locks = false) (hx : p.tables.exec = Jvm.exec) {pc : Nat} {Ls : Array Slot} {w : Value} {C : String} {rest : List Value} {K N : Nat} {Q : Option Value → Heap → List Loc → Prop} (hret : meth.sig.returnType = some (.object C)) (hw : w.isRef = true)
    (hd : decode c.code pc = .ok (.areturn, 1)) (hq : Q (some w) T.heap locs) (hK : cells ≤ K) (hN : slots ≤ N) : own_G p e below (own_P s Q K N) (T.setTop (mkF m pc Ls (w :: rest))) := by
  obtain ⟨fs, hr, hrun, hended, hW, hsame⟩ := X.leave (v := some w) (fun h => by rw [hret] at h; cases h) hlocks
  have hn : narrow (.object C) w = w := by cases w <;> rfl
  exact ⟨_, _, retOut X hx hret hn (Or.inr (Or.inr (Or.inr (Or.inr ⟨rfl, rfl, hw⟩)))) hd hr, hrun, hended, _, _, rfl, hq, ⟨_, rfl⟩, hW, hsame.mono hK hN⟩
theorem own_retV (X : Stand p l e R s m args below meth c T locs cells slots) (hlocks : meth.locks = false) (hx : p.tables.exec = Jvm.exec) {pc : Nat} {Ls : Array Slot} {K N : Nat} {Q : Option Value → Heap → List Loc → Prop} (hret : meth.sig.returnType = none)
    (hd : decode c.code pc = .ok (.return_, 1)) (hq : Q none T.heap locs) (hK : cells ≤ K) (hN : slots ≤ N) : own_G p e below (own_P s Q K N) (T.setTop (mkF m pc Ls [])) := by
  obtain ⟨fs, hr, hrun, hended, hW, hsame⟩ := X.leave (v := none) (fun _ => rfl) hlocks
  exact ⟨_, _, X.returnOut hx hret hd hr, hrun, hended, _, _, rfl, hq, ⟨_, rfl⟩, hW, hsame.mono hK hN⟩
end New
end Jvm.RoadKit
namespace Jvm.Pilot.@@N@@
open Jvm Jvm.ClassFile Sem Op Lib Jvm.Free Jvm.Stand Jvm.LawKit Jvm.RoadKit Bundle Jvm.Pilot.@@N@@.Jvm.D
theorem own_fld {args : Array Value} {s : State} {t : Term} {C n d : String} {k : Int32} {a : Addr} (et : t.eval args s none [] s = some (.ref a)) (h : (Jvm.Cond.eq (Term.field t C n d) (Term.int k)).value args s none s [] = some true) : Fld s s.heap a C n d (.int k) := by
  obtain ⟨x, y, e1, e2, k1, k2⟩ := cmp_v (Or.inl h)
  have e3 : y = .int k := Option.some.inj (e2.symm.trans (Term.int_eval k))
  subst e3
  obtain ⟨z, rfl⟩ := k2
  have e4 : z = k := gotT (Cond.eq_ints e1 e2) h
  subst e4
  exact Fld.start ((fld_at et).symm.trans e1)

def own_oc (e m : Int32) (a00 a11 a01 a10 : Addr) : Addr := if e = 0 then (if m = 0 then a00 else a01) else (if m = 0 then a10 else a11)
def own_al (p we wm : Int32) : Int32 := if p = 0 then we &&& 1 else if p = 1 then 1 else if wm = 0 then 0 else 1
theorem d1_0 : decode prog_187_method_4_code 0 = .ok (.iload_n 0, 1) := by decide +kernel
theorem d1_1 : decode prog_187_method_4_code 1 = .ok (.ifCond .eq 17, 3) := by decide +kernel
theorem d1_4 : decode prog_187_method_4_code 4 = .ok (.iload_n 1, 1) := by decide +kernel
theorem d1_5 : decode prog_187_method_4_code 5 = .ok (.ifCond .eq 9, 3) := by decide +kernel
theorem d1_8 : decode prog_187_method_4_code 8 = .ok (.getstatic 13, 3) := by decide +kernel
theorem d1_11 : decode prog_187_method_4_code 11 = .ok (.goto 6, 3) := by decide +kernel
theorem d1_14 : decode prog_187_method_4_code 14 = .ok (.getstatic 7, 3) := by decide +kernel
theorem d1_17 : decode prog_187_method_4_code 17 = .ok (.areturn, 1) := by decide +kernel
theorem d1_18 : decode prog_187_method_4_code 18 = .ok (.iload_n 1, 1) := by decide +kernel
theorem d1_19 : decode prog_187_method_4_code 19 = .ok (.ifCond .eq 9, 3) := by decide +kernel
theorem d1_22 : decode prog_187_method_4_code 22 = .ok (.getstatic 10, 3) := by decide +kernel
theorem d1_25 : decode prog_187_method_4_code 25 = .ok (.goto 6, 3) := by decide +kernel
theorem d1_28 : decode prog_187_method_4_code 28 = .ok (.getstatic 3, 3) := by decide +kernel
theorem d1_31 : decode prog_187_method_4_code 31 = .ok (.areturn, 1) := by decide +kernel
theorem pn_1 : plainName "com/example/txq/txq/type/Occurrence" = true := by first | (simp [plainName, overriddenIn]; done) | decide +kernel
theorem ef_1 (m : MethodId) (p0 : Int32) (p1 : Int32) : entryFrame m #[(.int p0), (.int p1)] 2 = mkF m 0 #[.val (.int p0), .val (.int p1)] [] := by first | (simp [entryFrame, mkF, argsToLocals, Value.category]; done) | rfl
def Q1 (Z : State) (p0 : Int32) (p1 : Int32) (a_EXACTLY_ONE a_ZERO_OR_MORE a_ONE_OR_MORE a_ZERO_OR_ONE : Addr) (h0 : Heap) (n0 : Nat) (v : Option Value) (h : Heap) (L : List Loc) : Prop := v = some (.ref (own_oc p0 p1 a_EXACTLY_ONE a_ZERO_OR_MORE a_ONE_OR_MORE a_ZERO_OR_ONE)) ∧ Fr n0 L ∧ h = h0
set_option maxRecDepth 65536 in
set_option maxHeartbeats 40000000 in
theorem rm1 (l : Launch) (Z : State) (a0 : Array Value) (hw : ∀ d ∈ tables_1, d.before a0 Z = true) (ws : List Jvm.Cond) (p0 : Int32) (p1 : Int32) (a_EXACTLY_ONE a_ZERO_OR_MORE a_ONE_OR_MORE a_ZERO_OR_ONE : Addr) (h0 : Heap) (n0 : Nat) (Z0 : n0 ≤ h0.size) (S_EXACTLY_ONE : Sta Z h0 "com/example/txq/txq/type/Occurrence" "EXACTLY_ONE" "Lcom/example/txq/txq/type/Occurrence;" (.ref a_EXACTLY_ONE)) (S_ZERO_OR_MORE : Sta Z h0 "com/example/txq/txq/type/Occurrence" "ZERO_OR_MORE" "Lcom/example/txq/txq/type/Occurrence;" (.ref a_ZERO_OR_MORE)) (S_ONE_OR_MORE : Sta Z h0 "com/example/txq/txq/type/Occurrence" "ONE_OR_MORE" "Lcom/example/txq/txq/type/Occurrence;" (.ref a_ONE_OR_MORE)) (S_ZERO_OR_ONE : Sta Z h0 "com/example/txq/txq/type/Occurrence" "ZERO_OR_ONE" "Lcom/example/txq/txq/type/Occurrence;" (.ref a_ZERO_OR_ONE)) :
    MetFree l (⟨"com/example/txq/txq/type/Occurrence", "of", "(ZZ)Lcom/example/txq/txq/type/Occurrence;"⟩ : MethodName) (head1 (Jvm.Cond.code (⟨"com/example/txq/txq/type/Occurrence", "of", "(ZZ)Lcom/example/txq/txq/type/Occurrence;"⟩ : MethodName) prog_187_method_4_code 2 (some (.object "com/example/txq/txq/type/Occurrence")) :: ws) ({ frames := 0, cells := 0, slots := 0, locals := 0 } : Room)) (fun a U => a = #[(.int p0), (.int p1)] ∧ Z.Warmed39 U.vm ∧ U.heap = h0) (fun _ _ _ _ _ => True) (fun _ U o U' => ∃ v L, o = .returned v ∧ Q1 Z p0 p1 a_EXACTLY_ONE a_ZERO_OR_MORE a_ONE_OR_MORE a_ZERO_OR_ONE h0 n0 v U'.heap L ∧ FrameEnd U o U' L ({ frames := 0, cells := 0, slots := 0, locals := 0 } : Room).cells ({ frames := 0, cells := 0, slots := 0, locals := 0 } : Room).slots) := by
  refine MetFree.of_bodySF (plainFor_of_name pn_1) hisR ?_
  intro p e s m args below meth c s₁ Bd hml0 hP hK
  obtain ⟨rfl, hZ, hh⟩ := hP
  have hx := Bd.exec
  have hby := Bd.bytes
  have hml : c.maxLocals = 2 := hml0
  have hown : s.vm.findClass "com/example/txq/txq/type/Occurrence" = some m.cls := findClass_of_methodNamed Bd.named
  have X0 : Stand p l e ({ frames := 0, cells := 0, slots := 0, locals := 0 } : Room) s m #[(.int p0), (.int p1)] below meth c s₁ [] 0 0 := Stand.of_body Bd
  have e0 : s₁.heap = h0 := by rw [← hh, Bd.state]; rfl
  have N0 := Fr.nil n0
  show own_G p e below (own_P s (Q1 Z p0 p1 a_EXACTLY_ONE a_ZERO_OR_MORE a_ONE_OR_MORE a_ZERO_OR_ONE h0 n0) 0 0) _
  refine own_via (A' := s₁.setTop (mkF m 0 #[.val (.int p0), .val (.int p1)] [])) (fun t k => castTop (ef_1 m p0 p1) k) ?_
  refine own_via (A' := s₁.setTop (mkF m 1 #[.val (.int p0), .val (.int p1)] [(.int p0)])) (fun target kt => ?_) ?_
  · show Steps p.tables e below (s₁.setTop (mkF m 0 #[.val (.int p0), .val (.int p1)] [])) _
    refine XS.iloadN X0.here hx rfl (hb hby d1_0) rfl ?_
    exact kt
  by_cases hc1 : p0 = (0 : Int32)
  · refine own_via (A' := s₁.setTop (mkF m 18 #[.val (.int p0), .val (.int p1)] [])) (fun target kt => XS.ifYes X0.here hx rfl (pc0 := 1) (pc' := 18) rfl (hb hby d1_1) rfl ((if0 _ _).trans (teq hc1).1) (by decide) (by decide) kt) ?_
    refine own_via (A' := s₁.setTop (mkF m 19 #[.val (.int p0), .val (.int p1)] [(.int p1)])) (fun target kt => ?_) ?_
    · show Steps p.tables e below (s₁.setTop (mkF m 18 #[.val (.int p0), .val (.int p1)] [])) _
      refine XS.iloadN X0.here hx rfl (hb hby d1_18) rfl ?_
      exact kt
    by_cases hc19 : p1 = (0 : Int32)
    · refine own_via (A' := s₁.setTop (mkF m 28 #[.val (.int p0), .val (.int p1)] [])) (fun target kt => XS.ifYes X0.here hx rfl (pc0 := 19) (pc' := 28) rfl (hb hby d1_19) rfl ((if0 _ _).trans (teq hc19).1) (by decide) (by decide) kt) ?_
      obtain ⟨T1, X1, e1, st1⟩ := getS2 X0 hx hZ hown (host := "") (Or.inl (hw _ (List.mem_of_getElem? (i := 4) rfl))) Via.refl e0 S_EXACTLY_ONE (g := (mkF m 28 #[.val (.int p0), .val (.int p1)] [])) rfl (hb hby d1_28)
      refine own_via (A' := T1.setTop (mkF m 31 #[.val (.int p0), .val (.int p1)] [(.ref a_EXACTLY_ONE)])) st1 ?_
      exact own_retA X1 Bd.notSynchronized hx Bd.returns rfl (hb hby d1_31) (show Q1 Z p0 p1 a_EXACTLY_ONE a_ZERO_OR_MORE a_ONE_OR_MORE a_ZERO_OR_ONE h0 n0 _ _ _ from ⟨by rw [show own_oc p0 p1 a_EXACTLY_ONE a_ZERO_OR_MORE a_ONE_OR_MORE a_ZERO_OR_ONE = a_EXACTLY_ONE from by simp [own_oc, hc1, hc19]], N0, e1⟩) (by decide) (by decide)
    · refine own_via (A' := s₁.setTop (mkF m 22 #[.val (.int p0), .val (.int p1)] [])) (fun target kt => XS.ifNo X0.here hx rfl (hb hby d1_19) rfl ((if0 _ _).trans (feq hc19).1) kt) ?_
      obtain ⟨T2, X2, e2, st2⟩ := getS2 X0 hx hZ hown (host := "") (Or.inl (hw _ (List.mem_of_getElem? (i := 27) rfl))) Via.refl e0 S_ONE_OR_MORE (g := (mkF m 22 #[.val (.int p0), .val (.int p1)] [])) rfl (hb hby d1_22)
      refine own_via (A' := T2.setTop (mkF m 25 #[.val (.int p0), .val (.int p1)] [(.ref a_ONE_OR_MORE)])) st2 ?_
      refine own_via (A' := T2.setTop (mkF m 31 #[.val (.int p0), .val (.int p1)] [(.ref a_ONE_OR_MORE)])) (fun target kt => ?_) ?_
      · show Steps p.tables e below (T2.setTop (mkF m 25 #[.val (.int p0), .val (.int p1)] [(.ref a_ONE_OR_MORE)])) _
        refine XS.goto X2.here hx rfl (pc0 := 25) (pc' := 31) rfl (hb hby d1_25) (by decide) (by decide) ?_
        exact kt
      exact own_retA X2 Bd.notSynchronized hx Bd.returns rfl (hb hby d1_31) (show Q1 Z p0 p1 a_EXACTLY_ONE a_ZERO_OR_MORE a_ONE_OR_MORE a_ZERO_OR_ONE h0 n0 _ _ _ from ⟨by rw [show own_oc p0 p1 a_EXACTLY_ONE a_ZERO_OR_MORE a_ONE_OR_MORE a_ZERO_OR_ONE = a_ONE_OR_MORE from by simp [own_oc, hc1, hc19]], N0, e2⟩) (by decide) (by decide)
  · refine own_via (A' := s₁.setTop (mkF m 4 #[.val (.int p0), .val (.int p1)] [])) (fun target kt => XS.ifNo X0.here hx rfl (hb hby d1_1) rfl ((if0 _ _).trans (feq hc1).1) kt) ?_
    refine own_via (A' := s₁.setTop (mkF m 5 #[.val (.int p0), .val (.int p1)] [(.int p1)])) (fun target kt => ?_) ?_
    · show Steps p.tables e below (s₁.setTop (mkF m 4 #[.val (.int p0), .val (.int p1)] [])) _
      refine XS.iloadN X0.here hx rfl (hb hby d1_4) rfl ?_
      exact kt
    by_cases hc5 : p1 = (0 : Int32)
    · refine own_via (A' := s₁.setTop (mkF m 14 #[.val (.int p0), .val (.int p1)] [])) (fun target kt => XS.ifYes X0.here hx rfl (pc0 := 5) (pc' := 14) rfl (hb hby d1_5) rfl ((if0 _ _).trans (teq hc5).1) (by decide) (by decide) kt) ?_
      obtain ⟨T3, X3, e3, st3⟩ := getS2 X0 hx hZ hown (host := "") (Or.inl (hw _ (List.mem_of_getElem? (i := 29) rfl))) Via.refl e0 S_ZERO_OR_ONE (g := (mkF m 14 #[.val (.int p0), .val (.int p1)] [])) rfl (hb hby d1_14)
      refine own_via (A' := T3.setTop (mkF m 17 #[.val (.int p0), .val (.int p1)] [(.ref a_ZERO_OR_ONE)])) st3 ?_
      exact own_retA X3 Bd.notSynchronized hx Bd.returns rfl (hb hby d1_17) (show Q1 Z p0 p1 a_EXACTLY_ONE a_ZERO_OR_MORE a_ONE_OR_MORE a_ZERO_OR_ONE h0 n0 _ _ _ from ⟨by rw [show own_oc p0 p1 a_EXACTLY_ONE a_ZERO_OR_MORE a_ONE_OR_MORE a_ZERO_OR_ONE = a_ZERO_OR_ONE from by simp [own_oc, hc1, hc5]], N0, e3⟩) (by decide) (by decide)
    · refine own_via (A' := s₁.setTop (mkF m 8 #[.val (.int p0), .val (.int p1)] [])) (fun target kt => XS.ifNo X0.here hx rfl (hb hby d1_5) rfl ((if0 _ _).trans (feq hc5).1) kt) ?_
      obtain ⟨T4, X4, e4, st4⟩ := getS2 X0 hx hZ hown (host := "") (Or.inl (hw _ (List.mem_of_getElem? (i := 25) rfl))) Via.refl e0 S_ZERO_OR_MORE (g := (mkF m 8 #[.val (.int p0), .val (.int p1)] [])) rfl (hb hby d1_8)
      refine own_via (A' := T4.setTop (mkF m 11 #[.val (.int p0), .val (.int p1)] [(.ref a_ZERO_OR_MORE)])) st4 ?_
      refine own_via (A' := T4.setTop (mkF m 17 #[.val (.int p0), .val (.int p1)] [(.ref a_ZERO_OR_MORE)])) (fun target kt => ?_) ?_
      · show Steps p.tables e below (T4.setTop (mkF m 11 #[.val (.int p0), .val (.int p1)] [(.ref a_ZERO_OR_MORE)])) _
        refine XS.goto X4.here hx rfl (pc0 := 11) (pc' := 17) rfl (hb hby d1_11) (by decide) (by decide) ?_
        exact kt
      exact own_retA X4 Bd.notSynchronized hx Bd.returns rfl (hb hby d1_17) (show Q1 Z p0 p1 a_EXACTLY_ONE a_ZERO_OR_MORE a_ONE_OR_MORE a_ZERO_OR_ONE h0 n0 _ _ _ from ⟨by rw [show own_oc p0 p1 a_EXACTLY_ONE a_ZERO_OR_MORE a_ONE_OR_MORE a_ZERO_OR_ONE = a_ZERO_OR_MORE from by simp [own_oc, hc1, hc5]], N0, e4⟩) (by decide) (by decide)
theorem d2_0 : decode prog_187_method_7_code 0 = .ok (.aload_n 0, 1) := by decide +kernel
theorem d2_1 : decode prog_187_method_7_code 1 = .ok (.getfield 39, 3) := by decide +kernel
theorem d2_4 : decode prog_187_method_7_code 4 = .ok (.ireturn, 1) := by decide +kernel
theorem pn_2 : plainName "com/example/txq/txq/type/Occurrence" = true := by first | (simp [plainName, overriddenIn]; done) | decide +kernel
theorem ef_2 (m : MethodId) (a0r : Addr) : entryFrame m #[(.ref a0r)] 1 = mkF m 0 #[.val (.ref a0r)] [] := by first | (simp [entryFrame, mkF, argsToLocals, Value.category]; done) | rfl
def Q2 (Z : State) (a0r : Addr) (w0 : Int32) (h0 : Heap) (n0 : Nat) (v : Option Value) (h : Heap) (L : List Loc) : Prop := v = some (.int (w0 &&& 1)) ∧ Fr n0 L ∧ h = h0
set_option maxRecDepth 65536 in
set_option maxHeartbeats 40000000 in
theorem rm2 (l : Launch) (Z : State) (a0 : Array Value) (hw : ∀ d ∈ tables_1, d.before a0 Z = true) (ws : List Jvm.Cond) (a0r : Addr) (w0 : Int32) (h0 : Heap) (n0 : Nat) (Z0 : n0 ≤ h0.size) (F0 : Fld Z h0 a0r "com/example/txq/txq/type/Occurrence" "allowsEmpty" "Z" (.int w0)) :
    MetFree l (⟨"com/example/txq/txq/type/Occurrence", "allowsEmpty", "()Z"⟩ : MethodName) (head1 (Jvm.Cond.code (⟨"com/example/txq/txq/type/Occurrence", "allowsEmpty", "()Z"⟩ : MethodName) prog_187_method_7_code 1 (some .boolean) :: ws) ({ frames := 0, cells := 0, slots := 0, locals := 0 } : Room)) (fun a U => a = #[(.ref a0r)] ∧ Z.Warmed39 U.vm ∧ U.heap = h0) (fun _ _ _ _ _ => True) (fun _ U o U' => ∃ v L, o = .returned v ∧ Q2 Z a0r w0 h0 n0 v U'.heap L ∧ FrameEnd U o U' L ({ frames := 0, cells := 0, slots := 0, locals := 0 } : Room).cells ({ frames := 0, cells := 0, slots := 0, locals := 0 } : Room).slots) := by
  refine MetFree.of_bodySF (plainFor_of_name pn_2) hisR ?_
  intro p e s m args below meth c s₁ Bd hml0 hP hK
  obtain ⟨rfl, hZ, hh⟩ := hP
  have hx := Bd.exec
  have hby := Bd.bytes
  have hml : c.maxLocals = 1 := hml0
  have hown : s.vm.findClass "com/example/txq/txq/type/Occurrence" = some m.cls := findClass_of_methodNamed Bd.named
  have X0 : Stand p l e ({ frames := 0, cells := 0, slots := 0, locals := 0 } : Room) s m #[(.ref a0r)] below meth c s₁ [] 0 0 := Stand.of_body Bd
  have e0 : s₁.heap = h0 := by rw [← hh, Bd.state]; rfl
  have N0 := Fr.nil n0
  show own_G p e below (own_P s (Q2 Z a0r w0 h0 n0) 0 0) _
  refine own_via (A' := s₁.setTop (mkF m 0 #[.val (.ref a0r)] [])) (fun t k => castTop (ef_2 m a0r) k) ?_
  refine own_via (A' := s₁.setTop (mkF m 1 #[.val (.ref a0r)] [(.ref a0r)])) (fun target kt => ?_) ?_
  · show Steps p.tables e below (s₁.setTop (mkF m 0 #[.val (.ref a0r)] [])) _
    refine XS.aloadN X0.here hx rfl (hb hby d2_0) rfl rfl ?_
    exact kt
  obtain ⟨T1, X1, e1, st1⟩ := getF X0 hx hZ hown (host := "") (Or.inl (hw _ (List.mem_of_getElem? (i := 11) rfl))) Via.refl e0 F0 (g := (mkF m 1 #[.val (.ref a0r)] [(.ref a0r)])) rfl rfl (hb hby d2_1)
  refine own_via (A' := T1.setTop (mkF m 4 #[.val (.ref a0r)] [(.int w0)])) st1 ?_
  exact own_retN X1 Bd.notSynchronized hx (t := .boolean) Bd.returns (by simp) (hb hby d2_4) (show Q2 Z a0r w0 h0 n0 _ _ _ from ⟨rfl, N0, e1⟩) (by decide) (by decide)
theorem d3_0 : decode prog_187_method_8_code 0 = .ok (.aload_n 0, 1) := by decide +kernel
theorem d3_1 : decode prog_187_method_8_code 1 = .ok (.getfield 43, 3) := by decide +kernel
theorem d3_4 : decode prog_187_method_8_code 4 = .ok (.ireturn, 1) := by decide +kernel
theorem pn_3 : plainName "com/example/txq/txq/type/Occurrence" = true := by first | (simp [plainName, overriddenIn]; done) | decide +kernel
theorem ef_3 (m : MethodId) (a0r : Addr) : entryFrame m #[(.ref a0r)] 1 = mkF m 0 #[.val (.ref a0r)] [] := by first | (simp [entryFrame, mkF, argsToLocals, Value.category]; done) | rfl
def Q3 (Z : State) (a0r : Addr) (w0 : Int32) (h0 : Heap) (n0 : Nat) (v : Option Value) (h : Heap) (L : List Loc) : Prop := v = some (.int (w0 &&& 1)) ∧ Fr n0 L ∧ h = h0
set_option maxRecDepth 65536 in
set_option maxHeartbeats 40000000 in
theorem rm3 (l : Launch) (Z : State) (a0 : Array Value) (hw : ∀ d ∈ tables_1, d.before a0 Z = true) (ws : List Jvm.Cond) (a0r : Addr) (w0 : Int32) (h0 : Heap) (n0 : Nat) (Z0 : n0 ≤ h0.size) (F0 : Fld Z h0 a0r "com/example/txq/txq/type/Occurrence" "allowsMany" "Z" (.int w0)) :
    MetFree l (⟨"com/example/txq/txq/type/Occurrence", "allowsMany", "()Z"⟩ : MethodName) (head1 (Jvm.Cond.code (⟨"com/example/txq/txq/type/Occurrence", "allowsMany", "()Z"⟩ : MethodName) prog_187_method_8_code 1 (some .boolean) :: ws) ({ frames := 0, cells := 0, slots := 0, locals := 0 } : Room)) (fun a U => a = #[(.ref a0r)] ∧ Z.Warmed39 U.vm ∧ U.heap = h0) (fun _ _ _ _ _ => True) (fun _ U o U' => ∃ v L, o = .returned v ∧ Q3 Z a0r w0 h0 n0 v U'.heap L ∧ FrameEnd U o U' L ({ frames := 0, cells := 0, slots := 0, locals := 0 } : Room).cells ({ frames := 0, cells := 0, slots := 0, locals := 0 } : Room).slots) := by
  refine MetFree.of_bodySF (plainFor_of_name pn_3) hisR ?_
  intro p e s m args below meth c s₁ Bd hml0 hP hK
  obtain ⟨rfl, hZ, hh⟩ := hP
  have hx := Bd.exec
  have hby := Bd.bytes
  have hml : c.maxLocals = 1 := hml0
  have hown : s.vm.findClass "com/example/txq/txq/type/Occurrence" = some m.cls := findClass_of_methodNamed Bd.named
  have X0 : Stand p l e ({ frames := 0, cells := 0, slots := 0, locals := 0 } : Room) s m #[(.ref a0r)] below meth c s₁ [] 0 0 := Stand.of_body Bd
  have e0 : s₁.heap = h0 := by rw [← hh, Bd.state]; rfl
  have N0 := Fr.nil n0
  show own_G p e below (own_P s (Q3 Z a0r w0 h0 n0) 0 0) _
  refine own_via (A' := s₁.setTop (mkF m 0 #[.val (.ref a0r)] [])) (fun t k => castTop (ef_3 m a0r) k) ?_
  refine own_via (A' := s₁.setTop (mkF m 1 #[.val (.ref a0r)] [(.ref a0r)])) (fun target kt => ?_) ?_
  · show Steps p.tables e below (s₁.setTop (mkF m 0 #[.val (.ref a0r)] [])) _
    refine XS.aloadN X0.here hx rfl (hb hby d3_0) rfl rfl ?_
    exact kt
  obtain ⟨T1, X1, e1, st1⟩ := getF X0 hx hZ hown (host := "") (Or.inl (hw _ (List.mem_of_getElem? (i := 18) rfl))) Via.refl e0 F0 (g := (mkF m 1 #[.val (.ref a0r)] [(.ref a0r)])) rfl rfl (hb hby d3_1)
  refine own_via (A' := T1.setTop (mkF m 4 #[.val (.ref a0r)] [(.int w0)])) st1 ?_
  exact own_retN X1 Bd.notSynchronized hx (t := .boolean) Bd.returns (by simp) (hb hby d3_4) (show Q3 Z a0r w0 h0 n0 _ _ _ from ⟨rfl, N0, e1⟩) (by decide) (by decide)
theorem d4_0 : decode prog_187_method_9_code 0 = .ok (.iload_n 1, 1) := by decide +kernel
theorem d4_1 : decode prog_187_method_9_code 1 = .ok (.ifCond .ne 8, 3) := by decide +kernel
theorem d4_4 : decode prog_187_method_9_code 4 = .ok (.aload_n 0, 1) := by decide +kernel
theorem d4_5 : decode prog_187_method_9_code 5 = .ok (.getfield 39, 3) := by decide +kernel
theorem d4_8 : decode prog_187_method_9_code 8 = .ok (.ireturn, 1) := by decide +kernel
theorem d4_9 : decode prog_187_method_9_code 9 = .ok (.iload_n 1, 1) := by decide +kernel
theorem d4_10 : decode prog_187_method_9_code 10 = .ok (.iconst 1, 1) := by decide +kernel
theorem d4_11 : decode prog_187_method_9_code 11 = .ok (.if_icmp .eq 10, 3) := by decide +kernel
theorem d4_14 : decode prog_187_method_9_code 14 = .ok (.aload_n 0, 1) := by decide +kernel
theorem d4_15 : decode prog_187_method_9_code 15 = .ok (.getfield 43, 3) := by decide +kernel
theorem d4_18 : decode prog_187_method_9_code 18 = .ok (.ifCond .eq 7, 3) := by decide +kernel
theorem d4_21 : decode prog_187_method_9_code 21 = .ok (.iconst 1, 1) := by decide +kernel
theorem d4_22 : decode prog_187_method_9_code 22 = .ok (.goto 4, 3) := by decide +kernel
theorem d4_25 : decode prog_187_method_9_code 25 = .ok (.iconst 0, 1) := by decide +kernel
theorem d4_26 : decode prog_187_method_9_code 26 = .ok (.ireturn, 1) := by decide +kernel
theorem pn_4 : plainName "com/example/txq/txq/type/Occurrence" = true := by first | (simp [plainName, overriddenIn]; done) | decide +kernel
theorem ef_4 (m : MethodId) (a0r : Addr) (p0 : Int32) : entryFrame m #[(.ref a0r), (.int p0)] 2 = mkF m 0 #[.val (.ref a0r), .val (.int p0)] [] := by first | (simp [entryFrame, mkF, argsToLocals, Value.category]; done) | rfl
def Q4 (Z : State) (a0r : Addr) (p0 : Int32) (we wm : Int32) (h0 : Heap) (n0 : Nat) (v : Option Value) (h : Heap) (L : List Loc) : Prop := v = some (.int (own_al p0 we wm)) ∧ Fr n0 L ∧ h = h0
set_option maxRecDepth 65536 in
set_option maxHeartbeats 40000000 in
theorem rm4 (l : Launch) (Z : State) (a0 : Array Value) (hw : ∀ d ∈ tables_1, d.before a0 Z = true) (ws : List Jvm.Cond) (a0r : Addr) (p0 : Int32) (we wm : Int32) (h0 : Heap) (n0 : Nat) (Z0 : n0 ≤ h0.size) (F0 : Fld Z h0 a0r "com/example/txq/txq/type/Occurrence" "allowsEmpty" "Z" (.int we)) (F1 : Fld Z h0 a0r "com/example/txq/txq/type/Occurrence" "allowsMany" "Z" (.int wm)) :
    MetFree l (⟨"com/example/txq/txq/type/Occurrence", "allows", "(I)Z"⟩ : MethodName) (head1 (Jvm.Cond.code (⟨"com/example/txq/txq/type/Occurrence", "allows", "(I)Z"⟩ : MethodName) prog_187_method_9_code 2 (some .boolean) :: ws) ({ frames := 0, cells := 0, slots := 0, locals := 0 } : Room)) (fun a U => a = #[(.ref a0r), (.int p0)] ∧ Z.Warmed39 U.vm ∧ U.heap = h0) (fun _ _ _ _ _ => True) (fun _ U o U' => ∃ v L, o = .returned v ∧ Q4 Z a0r p0 we wm h0 n0 v U'.heap L ∧ FrameEnd U o U' L ({ frames := 0, cells := 0, slots := 0, locals := 0 } : Room).cells ({ frames := 0, cells := 0, slots := 0, locals := 0 } : Room).slots) := by
  refine MetFree.of_bodySF (plainFor_of_name pn_4) hisR ?_
  intro p e s m args below meth c s₁ Bd hml0 hP hK
  obtain ⟨rfl, hZ, hh⟩ := hP
  have hx := Bd.exec
  have hby := Bd.bytes
  have hml : c.maxLocals = 2 := hml0
  have hown : s.vm.findClass "com/example/txq/txq/type/Occurrence" = some m.cls := findClass_of_methodNamed Bd.named
  have X0 : Stand p l e ({ frames := 0, cells := 0, slots := 0, locals := 0 } : Room) s m #[(.ref a0r), (.int p0)] below meth c s₁ [] 0 0 := Stand.of_body Bd
  have e0 : s₁.heap = h0 := by rw [← hh, Bd.state]; rfl
  have N0 := Fr.nil n0
  show own_G p e below (own_P s (Q4 Z a0r p0 we wm h0 n0) 0 0) _
  refine own_via (A' := s₁.setTop (mkF m 0 #[.val (.ref a0r), .val (.int p0)] [])) (fun t k => castTop (ef_4 m a0r p0) k) ?_
  refine own_via (A' := s₁.setTop (mkF m 1 #[.val (.ref a0r), .val (.int p0)] [(.int p0)])) (fun target kt => ?_) ?_
  · show Steps p.tables e below (s₁.setTop (mkF m 0 #[.val (.ref a0r), .val (.int p0)] [])) _
    refine XS.iloadN X0.here hx rfl (hb hby d4_0) rfl ?_
    exact kt
  by_cases hc1 : p0 = (0 : Int32)
  · refine own_via (A' := s₁.setTop (mkF m 4 #[.val (.ref a0r), .val (.int p0)] [])) (fun target kt => XS.ifNo X0.here hx rfl (hb hby d4_1) rfl ((if0 _ _).trans (teq hc1).2) kt) ?_
    refine own_via (A' := s₁.setTop (mkF m 5 #[.val (.ref a0r), .val (.int p0)] [(.ref a0r)])) (fun target kt => ?_) ?_
    · show Steps p.tables e below (s₁.setTop (mkF m 4 #[.val (.ref a0r), .val (.int p0)] [])) _
      refine XS.aloadN X0.here hx rfl (hb hby d4_4) rfl rfl ?_
      exact kt
    obtain ⟨T1, X1, e1, st1⟩ := getF X0 hx hZ hown (host := "") (Or.inl (hw _ (List.mem_of_getElem? (i := 11) rfl))) Via.refl e0 F0 (g := (mkF m 5 #[.val (.ref a0r), .val (.int p0)] [(.ref a0r)])) rfl rfl (hb hby d4_5)
    refine own_via (A' := T1.setTop (mkF m 8 #[.val (.ref a0r), .val (.int p0)] [(.int we)])) st1 ?_
    exact own_retN X1 Bd.notSynchronized hx (t := .boolean) Bd.returns (by simp) (hb hby d4_8) (show Q4 Z a0r p0 we wm h0 n0 _ _ _ from ⟨by rw [show own_al p0 we wm = we &&& 1 from by simp [own_al, hc1]] <;> rfl, N0, e1⟩) (by decide) (by decide)
  · refine own_via (A' := s₁.setTop (mkF m 9 #[.val (.ref a0r), .val (.int p0)] [])) (fun target kt => XS.ifYes X0.here hx rfl (pc0 := 1) (pc' := 9) rfl (hb hby d4_1) rfl ((if0 _ _).trans (feq hc1).2) (by decide) (by decide) kt) ?_
    refine own_via (A' := s₁.setTop (mkF m 11 #[.val (.ref a0r), .val (.int p0)] [(.int (1 : Int32)), (.int p0)])) (fun target kt => ?_) ?_
    · show Steps p.tables e below (s₁.setTop (mkF m 9 #[.val (.ref a0r), .val (.int p0)] [])) _
      refine XS.iloadN X0.here hx rfl (hb hby d4_9) rfl ?_
      show Steps p.tables e below (s₁.setTop (mkF m 10 #[.val (.ref a0r), .val (.int p0)] [(.int p0)])) _
      refine XS.iconst X0.here hx rfl (hb hby d4_10) ?_
      exact kt
    by_cases hc11 : p0 = (1 : Int32)
    · refine own_via (A' := s₁.setTop (mkF m 21 #[.val (.ref a0r), .val (.int p0)] [])) (fun target kt => XS.icmpYes X0.here hx rfl (pc0 := 11) (pc' := 21) rfl (hb hby d4_11) rfl (teq hc11).1 (by decide) (by decide) kt) ?_
      refine own_via (A' := s₁.setTop (mkF m 26 #[.val (.ref a0r), .val (.int p0)] [(.int (1 : Int32))])) (fun target kt => ?_) ?_
      · show Steps p.tables e below (s₁.setTop (mkF m 21 #[.val (.ref a0r), .val (.int p0)] [])) _
        refine XS.iconst X0.here hx rfl (hb hby d4_21) ?_
        show Steps p.tables e below (s₁.setTop (mkF m 22 #[.val (.ref a0r), .val (.int p0)] [(.int (1 : Int32))])) _
        refine XS.goto X0.here hx rfl (pc0 := 22) (pc' := 26) rfl (hb hby d4_22) (by decide) (by decide) ?_
        exact kt
      exact own_retN X0 Bd.notSynchronized hx (t := .boolean) Bd.returns (by simp) (hb hby d4_26) (show Q4 Z a0r p0 we wm h0 n0 _ _ _ from ⟨by rw [show own_al p0 we wm = 1 from by simp [own_al, hc1, hc11]] <;> rfl, N0, e0⟩) (by decide) (by decide)
    · refine own_via (A' := s₁.setTop (mkF m 14 #[.val (.ref a0r), .val (.int p0)] [])) (fun target kt => XS.icmpNo X0.here hx rfl (hb hby d4_11) rfl (feq hc11).1 kt) ?_
      refine own_via (A' := s₁.setTop (mkF m 15 #[.val (.ref a0r), .val (.int p0)] [(.ref a0r)])) (fun target kt => ?_) ?_
      · show Steps p.tables e below (s₁.setTop (mkF m 14 #[.val (.ref a0r), .val (.int p0)] [])) _
        refine XS.aloadN X0.here hx rfl (hb hby d4_14) rfl rfl ?_
        exact kt
      obtain ⟨T2, X2, e2, st2⟩ := getF X0 hx hZ hown (host := "") (Or.inl (hw _ (List.mem_of_getElem? (i := 18) rfl))) Via.refl e0 F1 (g := (mkF m 15 #[.val (.ref a0r), .val (.int p0)] [(.ref a0r)])) rfl rfl (hb hby d4_15)
      refine own_via (A' := T2.setTop (mkF m 18 #[.val (.ref a0r), .val (.int p0)] [(.int wm)])) st2 ?_
      by_cases hc18 : wm = (0 : Int32)
      · refine own_via (A' := T2.setTop (mkF m 25 #[.val (.ref a0r), .val (.int p0)] [])) (fun target kt => XS.ifYes X2.here hx rfl (pc0 := 18) (pc' := 25) rfl (hb hby d4_18) rfl ((if0 _ _).trans (teq hc18).1) (by decide) (by decide) kt) ?_
        refine own_via (A' := T2.setTop (mkF m 26 #[.val (.ref a0r), .val (.int p0)] [(.int (0 : Int32))])) (fun target kt => ?_) ?_
        · show Steps p.tables e below (T2.setTop (mkF m 25 #[.val (.ref a0r), .val (.int p0)] [])) _
          refine XS.iconst X2.here hx rfl (hb hby d4_25) ?_
          exact kt
        exact own_retN X2 Bd.notSynchronized hx (t := .boolean) Bd.returns (by simp) (hb hby d4_26) (show Q4 Z a0r p0 we wm h0 n0 _ _ _ from ⟨by rw [show own_al p0 we wm = 0 from by simp [own_al, hc1, hc11, hc18]] <;> rfl, N0, e2⟩) (by decide) (by decide)
      · refine own_via (A' := T2.setTop (mkF m 21 #[.val (.ref a0r), .val (.int p0)] [])) (fun target kt => XS.ifNo X2.here hx rfl (hb hby d4_18) rfl ((if0 _ _).trans (feq hc18).1) kt) ?_
        refine own_via (A' := T2.setTop (mkF m 26 #[.val (.ref a0r), .val (.int p0)] [(.int (1 : Int32))])) (fun target kt => ?_) ?_
        · show Steps p.tables e below (T2.setTop (mkF m 21 #[.val (.ref a0r), .val (.int p0)] [])) _
          refine XS.iconst X2.here hx rfl (hb hby d4_21) ?_
          show Steps p.tables e below (T2.setTop (mkF m 22 #[.val (.ref a0r), .val (.int p0)] [(.int (1 : Int32))])) _
          refine XS.goto X2.here hx rfl (pc0 := 22) (pc' := 26) rfl (hb hby d4_22) (by decide) (by decide) ?_
          exact kt
        exact own_retN X2 Bd.notSynchronized hx (t := .boolean) Bd.returns (by simp) (hb hby d4_26) (show Q4 Z a0r p0 we wm h0 n0 _ _ _ from ⟨by rw [show own_al p0 we wm = 1 from by simp [own_al, hc1, hc11, hc18]] <;> rfl, N0, e2⟩) (by decide) (by decide)
theorem pn_0 : plainName "com/example/txq/txq/type/OccurrenceOfPinLaw" = true := by first | (simp [plainName, overriddenIn]; done) | decide +kernel
theorem pd_0_0 : parseMethodDescriptor "(ZZ)Lcom/example/txq/txq/type/Occurrence;" = some ⟨[.boolean, .boolean], some (.object "com/example/txq/txq/type/Occurrence")⟩ := by decide +kernel
theorem pd_0_1 : parseMethodDescriptor "()Z" = some ⟨[], some .boolean⟩ := by decide +kernel
theorem pd_0_2 : parseMethodDescriptor "(I)Z" = some ⟨[.int], some .boolean⟩ := by decide +kernel
theorem ef_0 (m : MethodId) (p0 : Int32) : entryFrame m #[(.int p0)] maxLocals = mkF m 0 #[.val (.int p0), .unset, .unset, .unset, .unset, .unset] [] := by first | (simp [entryFrame, mkF, argsToLocals, Value.category, maxLocals]; done) | rfl
def Q0 (Z : State) (p0 : Int32) (a_EXACTLY_ONE a_ZERO_OR_MORE a_ONE_OR_MORE a_ZERO_OR_ONE : Addr) (h0 : Heap) (n0 : Nat) (v : Option Value) (h : Heap) (L : List Loc) : Prop := v = some (.int 1) ∧ Fr n0 L
set_option maxRecDepth 65536 in
set_option maxHeartbeats 40000000 in
theorem rm0 (l : Launch) (Z : State) (a0 : Array Value) (hw : ∀ d ∈ tables_1, d.before a0 Z = true) (ws : List Jvm.Cond) (p0 : Int32) (a_EXACTLY_ONE a_ZERO_OR_MORE a_ONE_OR_MORE a_ZERO_OR_ONE : Addr) (h0 : Heap) (n0 : Nat) (Z0 : n0 ≤ h0.size) (S_EXACTLY_ONE : Sta Z h0 "com/example/txq/txq/type/Occurrence" "EXACTLY_ONE" "Lcom/example/txq/txq/type/Occurrence;" (.ref a_EXACTLY_ONE)) (S_ZERO_OR_MORE : Sta Z h0 "com/example/txq/txq/type/Occurrence" "ZERO_OR_MORE" "Lcom/example/txq/txq/type/Occurrence;" (.ref a_ZERO_OR_MORE)) (S_ONE_OR_MORE : Sta Z h0 "com/example/txq/txq/type/Occurrence" "ONE_OR_MORE" "Lcom/example/txq/txq/type/Occurrence;" (.ref a_ONE_OR_MORE)) (S_ZERO_OR_ONE : Sta Z h0 "com/example/txq/txq/type/Occurrence" "ZERO_OR_ONE" "Lcom/example/txq/txq/type/Occurrence;" (.ref a_ZERO_OR_ONE)) (E_EXACTLY_ONE : Exa Z h0 a_EXACTLY_ONE "com/example/txq/txq/type/Occurrence") (E_ZERO_OR_MORE : Exa Z h0 a_ZERO_OR_MORE "com/example/txq/txq/type/Occurrence") (E_ONE_OR_MORE : Exa Z h0 a_ONE_OR_MORE "com/example/txq/txq/type/Occurrence") (E_ZERO_OR_ONE : Exa Z h0 a_ZERO_OR_ONE "com/example/txq/txq/type/Occurrence") (F_EXACTLY_ONE_allowsEmpty : Fld Z h0 a_EXACTLY_ONE "com/example/txq/txq/type/Occurrence" "allowsEmpty" "Z" (.int (0 : Int32))) (F_EXACTLY_ONE_allowsMany : Fld Z h0 a_EXACTLY_ONE "com/example/txq/txq/type/Occurrence" "allowsMany" "Z" (.int (0 : Int32))) (F_ZERO_OR_MORE_allowsEmpty : Fld Z h0 a_ZERO_OR_MORE "com/example/txq/txq/type/Occurrence" "allowsEmpty" "Z" (.int (1 : Int32))) (F_ZERO_OR_MORE_allowsMany : Fld Z h0 a_ZERO_OR_MORE "com/example/txq/txq/type/Occurrence" "allowsMany" "Z" (.int (1 : Int32))) (F_ONE_OR_MORE_allowsEmpty : Fld Z h0 a_ONE_OR_MORE "com/example/txq/txq/type/Occurrence" "allowsEmpty" "Z" (.int (0 : Int32))) (F_ONE_OR_MORE_allowsMany : Fld Z h0 a_ONE_OR_MORE "com/example/txq/txq/type/Occurrence" "allowsMany" "Z" (.int (1 : Int32))) (F_ZERO_OR_ONE_allowsEmpty : Fld Z h0 a_ZERO_OR_ONE "com/example/txq/txq/type/Occurrence" "allowsEmpty" "Z" (.int (1 : Int32))) (F_ZERO_OR_ONE_allowsMany : Fld Z h0 a_ZERO_OR_ONE "com/example/txq/txq/type/Occurrence" "allowsMany" "Z" (.int (0 : Int32))) :
    MetFree l x (head1 (Jvm.Cond.code x code maxLocals ret :: ws) room_1) (fun a U => a = #[(.int p0)] ∧ Z.Warmed39 U.vm ∧ U.heap = h0) (fun _ _ _ _ _ => True) (fun _ U o U' => ∃ v L, o = .returned v ∧ Q0 Z p0 a_EXACTLY_ONE a_ZERO_OR_MORE a_ONE_OR_MORE a_ZERO_OR_ONE h0 n0 v U'.heap L ∧ FrameEnd U o U' L 0 0) := by
  refine MetFree.of_bodySF (plainFor_of_name pn_0) hisR ?_
  intro p e s m args below meth c s₁ Bd hml0 hP hK
  obtain ⟨rfl, hZ, hh⟩ := hP
  have hx := Bd.exec
  have hby := Bd.bytes
  have hml : c.maxLocals = 6 := hml0
  have hown : s.vm.findClass "com/example/txq/txq/type/OccurrenceOfPinLaw" = some m.cls := findClass_of_methodNamed Bd.named
  have X0 : Stand p l e room_1 s m #[(.int p0)] below meth c s₁ [] 0 0 := Stand.of_body Bd
  have e0 : s₁.heap = h0 := by rw [← hh, Bd.state]; rfl
  have N0 := Fr.nil n0
  show own_G p e below (own_P s (Q0 Z p0 a_EXACTLY_ONE a_ZERO_OR_MORE a_ONE_OR_MORE a_ZERO_OR_ONE h0 n0) 0 0) _
  refine own_via (A' := s₁.setTop (mkF m 0 #[.val (.int p0), .unset, .unset, .unset, .unset, .unset] [])) (fun t k => castTop (ef_0 m p0) k) ?_
  refine own_via (A' := s₁.setTop (mkF m 3 #[.val (.int p0), .unset, .unset, .unset, .unset, .unset] [(.int (p0 &&& (1 : Int32)))])) (fun target kt => ?_) ?_
  · show Steps p.tables e below (s₁.setTop (mkF m 0 #[.val (.int p0), .unset, .unset, .unset, .unset, .unset] [])) _
    refine XS.iloadN X0.here hx rfl (hb hby at_0) rfl ?_
    show Steps p.tables e below (s₁.setTop (mkF m 1 #[.val (.int p0), .unset, .unset, .unset, .unset, .unset] [(.int p0)])) _
    refine XS.iconst X0.here hx rfl (hb hby at_1) ?_
    show Steps p.tables e below (s₁.setTop (mkF m 2 #[.val (.int p0), .unset, .unset, .unset, .unset, .unset] [(.int (1 : Int32)), (.int p0)])) _
    refine XS.iand X0.here hx rfl (hb hby at_2) rfl ?_
    exact kt
  by_cases hc3 : (p0 &&& (1 : Int32)) = (0 : Int32)
  · refine own_via (A' := s₁.setTop (mkF m 10 #[.val (.int p0), .unset, .unset, .unset, .unset, .unset] [])) (fun target kt => XS.ifYes X0.here hx rfl (pc0 := 3) (pc' := 10) rfl (hb hby at_3) rfl ((if0 _ _).trans (teq hc3).1) (by decide) (by decide) kt) ?_
    refine own_via (A' := s₁.setTop (mkF m 15 #[.val (.int p0), .val (.int (0 : Int32)), .unset, .unset, .unset, .unset] [(.int (p0 &&& (2 : Int32)))])) (fun target kt => ?_) ?_
    · show Steps p.tables e below (s₁.setTop (mkF m 10 #[.val (.int p0), .unset, .unset, .unset, .unset, .unset] [])) _
      refine XS.iconst X0.here hx rfl (hb hby at_10) ?_
      show Steps p.tables e below (s₁.setTop (mkF m 11 #[.val (.int p0), .unset, .unset, .unset, .unset, .unset] [(.int (0 : Int32))])) _
      refine XS.istoreN X0.here hx rfl (hb hby at_11) rfl (l' := #[.val (.int p0), .val (.int (0 : Int32)), .unset, .unset, .unset, .unset]) rfl ?_
      show Steps p.tables e below (s₁.setTop (mkF m 12 #[.val (.int p0), .val (.int (0 : Int32)), .unset, .unset, .unset, .unset] [])) _
      refine XS.iloadN X0.here hx rfl (hb hby at_12) rfl ?_
      show Steps p.tables e below (s₁.setTop (mkF m 13 #[.val (.int p0), .val (.int (0 : Int32)), .unset, .unset, .unset, .unset] [(.int p0)])) _
      refine XS.iconst X0.here hx rfl (hb hby at_13) ?_
      show Steps p.tables e below (s₁.setTop (mkF m 14 #[.val (.int p0), .val (.int (0 : Int32)), .unset, .unset, .unset, .unset] [(.int (2 : Int32)), (.int p0)])) _
      refine XS.iand X0.here hx rfl (hb hby at_14) rfl ?_
      exact kt
    by_cases hc15 : (p0 &&& (2 : Int32)) = (0 : Int32)
    · refine own_via (A' := s₁.setTop (mkF m 22 #[.val (.int p0), .val (.int (0 : Int32)), .unset, .unset, .unset, .unset] [])) (fun target kt => XS.ifYes X0.here hx rfl (pc0 := 15) (pc' := 22) rfl (hb hby at_15) rfl ((if0 _ _).trans (teq hc15).1) (by decide) (by decide) kt) ?_
      refine own_via (A' := s₁.setTop (mkF m 26 #[.val (.int p0), .val (.int (0 : Int32)), .val (.int (0 : Int32)), .unset, .unset, .unset] [(.int (0 : Int32)), (.int (0 : Int32))])) (fun target kt => ?_) ?_
      · show Steps p.tables e below (s₁.setTop (mkF m 22 #[.val (.int p0), .val (.int (0 : Int32)), .unset, .unset, .unset, .unset] [])) _
        refine XS.iconst X0.here hx rfl (hb hby at_22) ?_
        show Steps p.tables e below (s₁.setTop (mkF m 23 #[.val (.int p0), .val (.int (0 : Int32)), .unset, .unset, .unset, .unset] [(.int (0 : Int32))])) _
        refine XS.istoreN X0.here hx rfl (hb hby at_23) rfl (l' := #[.val (.int p0), .val (.int (0 : Int32)), .val (.int (0 : Int32)), .unset, .unset, .unset]) rfl ?_
        show Steps p.tables e below (s₁.setTop (mkF m 24 #[.val (.int p0), .val (.int (0 : Int32)), .val (.int (0 : Int32)), .unset, .unset, .unset] [])) _
        refine XS.iloadN X0.here hx rfl (hb hby at_24) rfl ?_
        show Steps p.tables e below (s₁.setTop (mkF m 25 #[.val (.int p0), .val (.int (0 : Int32)), .val (.int (0 : Int32)), .unset, .unset, .unset] [(.int (0 : Int32))])) _
        refine XS.iloadN X0.here hx rfl (hb hby at_25) rfl ?_
        exact kt
      obtain ⟨_, _, ⟨T1, L1, k1, n1⟩, -, X1, ⟨Lc1, hQ1, l1, y1, z1⟩, st1⟩ := Jvm.LawKit.callS X0 hx (y := (⟨"com/example/txq/txq/type/Occurrence", "of", "(ZZ)Lcom/example/txq/txq/type/Occurrence;"⟩ : MethodName)) hown (mvT hZ (hw _ (List.mem_of_getElem? (i := 0) rfl))) (mvT hZ (hw _ (List.mem_of_getElem? (i := 1) rfl))) (mvT hZ (hw _ (List.mem_of_getElem? (i := 2) rfl))) (mvT hZ (hw _ (List.mem_of_getElem? (i := 3) rfl))) (by decide) (backOf (W := 0) (rm1 l Z a0 hw [] (0 : Int32) (0 : Int32) a_EXACTLY_ONE a_ZERO_OR_MORE a_ONE_OR_MORE a_ZERO_OR_ONE h0 n0 Z0 S_EXACTLY_ONE S_ZERO_OR_MORE S_ONE_OR_MORE S_ZERO_OR_ONE) hZ (hw _ (List.mem_of_getElem? (i := 3) rfl)) (hw _ (List.mem_of_getElem? (i := 2) rfl)) (by decide) (by decide)) (g := (mkF m 26 #[.val (.int p0), .val (.int (0 : Int32)), .val (.int (0 : Int32)), .unset, .unset, .unset] [(.int (0 : Int32)), (.int (0 : Int32))])) rfl (by rw [hml]; rfl) (argsL := [(.int (0 : Int32)), (.int (0 : Int32))]) (rest := []) (lenOf pd_0_0 rfl) rfl (by show 2 * 0 + _ ≤ _; exact Nat.le_of_eq rfl) (hb hby at_26) (fun _ _ => ⟨rfl, e0, (by decide : 0 + 0 ≤ _), (by decide : 0 + 0 ≤ _)⟩)
      dsimp only [Pt.U, Pt.locs, Pt.cells, Pt.slots] at X1 l1 y1 z1 st1 hQ1
      subst l1 y1 z1
      obtain ⟨hv1, N1q, e1⟩ := hQ1
      rw [show own_oc (0 : Int32) (0 : Int32) a_EXACTLY_ONE a_ZERO_OR_MORE a_ONE_OR_MORE a_ZERO_OR_ONE = a_EXACTLY_ONE from by simp [own_oc]] at hv1
      subst hv1
      have N1 := Fr.app N0 N1q
      refine own_via (A' := T1.setTop (mkF m 29 #[.val (.int p0), .val (.int (0 : Int32)), .val (.int (0 : Int32)), .unset, .unset, .unset] [(.ref a_EXACTLY_ONE)])) st1 ?_
      refine own_via (A' := T1.setTop (mkF m 37 #[.val (.int p0), .val (.int (0 : Int32)), .val (.int (0 : Int32)), .val (.ref a_EXACTLY_ONE), .unset, .unset] [(.ref a_EXACTLY_ONE)])) (fun target kt => ?_) ?_
      · show Steps p.tables e below (T1.setTop (mkF m 29 #[.val (.int p0), .val (.int (0 : Int32)), .val (.int (0 : Int32)), .unset, .unset, .unset] [(.ref a_EXACTLY_ONE)])) _
        refine XS.astoreN X1.here hx rfl (hb hby at_29) rfl rfl (l' := #[.val (.int p0), .val (.int (0 : Int32)), .val (.int (0 : Int32)), .val (.ref a_EXACTLY_ONE), .unset, .unset]) rfl ?_
        show Steps p.tables e below (T1.setTop (mkF m 30 #[.val (.int p0), .val (.int (0 : Int32)), .val (.int (0 : Int32)), .val (.ref a_EXACTLY_ONE), .unset, .unset] [])) _
        refine XS.aloadN X1.here hx rfl (hb hby at_30) rfl rfl ?_
        show Steps p.tables e below (T1.setTop (mkF m 31 #[.val (.int p0), .val (.int (0 : Int32)), .val (.int (0 : Int32)), .val (.ref a_EXACTLY_ONE), .unset, .unset] [(.ref a_EXACTLY_ONE)])) _
        refine XS.ifnonnullYes X1.here hx rfl (pc0 := 31) (pc' := 36) rfl (hb hby at_31) rfl (by decide) (by decide) ?_
        show Steps p.tables e below (T1.setTop (mkF m 36 #[.val (.int p0), .val (.int (0 : Int32)), .val (.int (0 : Int32)), .val (.ref a_EXACTLY_ONE), .unset, .unset] [])) _
        refine XS.aloadN X1.here hx rfl (hb hby at_36) rfl rfl ?_
        exact kt
      obtain ⟨cq2, kq2, q2a, q2b, q2c⟩ := isOf hZ e1 E_EXACTLY_ONE
      obtain ⟨_, _, ⟨T2, L2, k2, n2⟩, -, X2, ⟨Lc2, hQ2, l2, y2, z2⟩, st2⟩ := X1.virtualBack hx (y := (⟨"com/example/txq/txq/type/Occurrence", "allowsEmpty", "()Z"⟩ : MethodName)) (z := (⟨"com/example/txq/txq/type/Occurrence", "allowsEmpty", "()Z"⟩ : MethodName)) hown (mvT hZ (hw _ (List.mem_of_getElem? (i := 6) rfl))) (mvT hZ (hw _ (List.mem_of_getElem? (i := 7) rfl))) (notFace_of_selects (args := #[]) (mvT hZ (hw _ (List.mem_of_getElem? (i := 9) rfl)))) (mvT hZ (hw _ (List.mem_of_getElem? (i := 9) rfl))) (mvT hZ (hw _ (List.mem_of_getElem? (i := 8) rfl))) (by decide) (backOf (W := 0) (rm2 l Z a0 hw [] a_EXACTLY_ONE (0 : Int32) h0 n0 Z0 F_EXACTLY_ONE_allowsEmpty) hZ (hw _ (List.mem_of_getElem? (i := 10) rfl)) (hw _ (List.mem_of_getElem? (i := 2) rfl)) (by decide) (by decide)) q2a q2c (g := (mkF m 37 #[.val (.int p0), .val (.int (0 : Int32)), .val (.int (0 : Int32)), .val (.ref a_EXACTLY_ONE), .unset, .unset] [(.ref a_EXACTLY_ONE)])) rfl (by rw [hml]; rfl) (Steps.refl _) (argsL := []) (rest := []) (lenOf pd_0_1 rfl) rfl (by show 2 * 0 + _ ≤ _; exact Nat.le_of_eq rfl) (hb hby at_37) (fun _ _ => ⟨rfl, e1, (by decide : 0 + 0 ≤ _), (by decide : 0 + 0 ≤ _)⟩)
      dsimp only [Pt.U, Pt.locs, Pt.cells, Pt.slots] at X2 l2 y2 z2 st2 hQ2
      subst l2 y2 z2
      obtain ⟨hv2, N2q, e2⟩ := hQ2
      rw [show ((0 : Int32) &&& 1) = (0 : Int32) from by decide] at hv2
      subst hv2
      have N2 := Fr.app N1 N2q
      refine own_via (A' := T2.setTop (mkF m 40 #[.val (.int p0), .val (.int (0 : Int32)), .val (.int (0 : Int32)), .val (.ref a_EXACTLY_ONE), .unset, .unset] [(.int (0 : Int32))])) (fun _ kt => st2.trans kt) ?_
      refine own_via (A' := T2.setTop (mkF m 41 #[.val (.int p0), .val (.int (0 : Int32)), .val (.int (0 : Int32)), .val (.ref a_EXACTLY_ONE), .unset, .unset] [(.int (0 : Int32)), (.int (0 : Int32))])) (fun target kt => ?_) ?_
      · show Steps p.tables e below (T2.setTop (mkF m 40 #[.val (.int p0), .val (.int (0 : Int32)), .val (.int (0 : Int32)), .val (.ref a_EXACTLY_ONE), .unset, .unset] [(.int (0 : Int32))])) _
        refine XS.iloadN X2.here hx rfl (hb hby at_40) rfl ?_
        exact kt
      refine own_via (A' := T2.setTop (mkF m 44 #[.val (.int p0), .val (.int (0 : Int32)), .val (.int (0 : Int32)), .val (.ref a_EXACTLY_ONE), .unset, .unset] [])) (fun target kt => XS.icmpNo X2.here hx rfl (hb hby at_41) rfl (teq ((by decide) : (0 : Int32) = (0 : Int32))).2 kt) ?_
      refine own_via (A' := T2.setTop (mkF m 45 #[.val (.int p0), .val (.int (0 : Int32)), .val (.int (0 : Int32)), .val (.ref a_EXACTLY_ONE), .unset, .unset] [(.ref a_EXACTLY_ONE)])) (fun target kt => ?_) ?_
      · show Steps p.tables e below (T2.setTop (mkF m 44 #[.val (.int p0), .val (.int (0 : Int32)), .val (.int (0 : Int32)), .val (.ref a_EXACTLY_ONE), .unset, .unset] [])) _
        refine XS.aloadN X2.here hx rfl (hb hby at_44) rfl rfl ?_
        exact kt
      obtain ⟨cq3, kq3, q3a, q3b, q3c⟩ := isOf hZ e2 E_EXACTLY_ONE
      obtain ⟨_, _, ⟨T3, L3, k3, n3⟩, -, X3, ⟨Lc3, hQ3, l3, y3, z3⟩, st3⟩ := X2.virtualBack hx (y := (⟨"com/example/txq/txq/type/Occurrence", "allowsMany", "()Z"⟩ : MethodName)) (z := (⟨"com/example/txq/txq/type/Occurrence", "allowsMany", "()Z"⟩ : MethodName)) hown (mvT hZ (hw _ (List.mem_of_getElem? (i := 13) rfl))) (mvT hZ (hw _ (List.mem_of_getElem? (i := 14) rfl))) (notFace_of_selects (args := #[]) (mvT hZ (hw _ (List.mem_of_getElem? (i := 16) rfl)))) (mvT hZ (hw _ (List.mem_of_getElem? (i := 16) rfl))) (mvT hZ (hw _ (List.mem_of_getElem? (i := 15) rfl))) (by decide) (backOf (W := 0) (rm3 l Z a0 hw [] a_EXACTLY_ONE (0 : Int32) h0 n0 Z0 F_EXACTLY_ONE_allowsMany) hZ (hw _ (List.mem_of_getElem? (i := 17) rfl)) (hw _ (List.mem_of_getElem? (i := 2) rfl)) (by decide) (by decide)) q3a q3c (g := (mkF m 45 #[.val (.int p0), .val (.int (0 : Int32)), .val (.int (0 : Int32)), .val (.ref a_EXACTLY_ONE), .unset, .unset] [(.ref a_EXACTLY_ONE)])) rfl (by rw [hml]; rfl) (Steps.refl _) (argsL := []) (rest := []) (lenOf pd_0_1 rfl) rfl (by show 2 * 0 + _ ≤ _; exact Nat.le_of_eq rfl) (hb hby at_45) (fun _ _ => ⟨rfl, e2, (by decide : 0 + 0 ≤ _), (by decide : 0 + 0 ≤ _)⟩)
      dsimp only [Pt.U, Pt.locs, Pt.cells, Pt.slots] at X3 l3 y3 z3 st3 hQ3
      subst l3 y3 z3
      obtain ⟨hv3, N3q, e3⟩ := hQ3
      rw [show ((0 : Int32) &&& 1) = (0 : Int32) from by decide] at hv3
      subst hv3
      have N3 := Fr.app N2 N3q
      refine own_via (A' := T3.setTop (mkF m 48 #[.val (.int p0), .val (.int (0 : Int32)), .val (.int (0 : Int32)), .val (.ref a_EXACTLY_ONE), .unset, .unset] [(.int (0 : Int32))])) (fun _ kt => st3.trans kt) ?_
      refine own_via (A' := T3.setTop (mkF m 49 #[.val (.int p0), .val (.int (0 : Int32)), .val (.int (0 : Int32)), .val (.ref a_EXACTLY_ONE), .unset, .unset] [(.int (0 : Int32)), (.int (0 : Int32))])) (fun target kt => ?_) ?_
      · show Steps p.tables e below (T3.setTop (mkF m 48 #[.val (.int p0), .val (.int (0 : Int32)), .val (.int (0 : Int32)), .val (.ref a_EXACTLY_ONE), .unset, .unset] [(.int (0 : Int32))])) _
        refine XS.iloadN X3.here hx rfl (hb hby at_48) rfl ?_
        exact kt
      refine own_via (A' := T3.setTop (mkF m 52 #[.val (.int p0), .val (.int (0 : Int32)), .val (.int (0 : Int32)), .val (.ref a_EXACTLY_ONE), .unset, .unset] [])) (fun target kt => XS.icmpNo X3.here hx rfl (hb hby at_49) rfl (teq ((by decide) : (0 : Int32) = (0 : Int32))).2 kt) ?_
      refine own_via (A' := T3.setTop (mkF m 61 #[.val (.int p0), .val (.int (0 : Int32)), .val (.int (0 : Int32)), .val (.ref a_EXACTLY_ONE), .val (.int (1 : Int32)), .unset] [(.int (0 : Int32)), (.ref a_EXACTLY_ONE)])) (fun target kt => ?_) ?_
      · show Steps p.tables e below (T3.setTop (mkF m 52 #[.val (.int p0), .val (.int (0 : Int32)), .val (.int (0 : Int32)), .val (.ref a_EXACTLY_ONE), .unset, .unset] [])) _
        refine XS.iconst X3.here hx rfl (hb hby at_52) ?_
        show Steps p.tables e below (T3.setTop (mkF m 53 #[.val (.int p0), .val (.int (0 : Int32)), .val (.int (0 : Int32)), .val (.ref a_EXACTLY_ONE), .unset, .unset] [(.int (1 : Int32))])) _
        refine XS.goto X3.here hx rfl (pc0 := 53) (pc' := 57) rfl (hb hby at_53) (by decide) (by decide) ?_
        show Steps p.tables e below (T3.setTop (mkF m 57 #[.val (.int p0), .val (.int (0 : Int32)), .val (.int (0 : Int32)), .val (.ref a_EXACTLY_ONE), .unset, .unset] [(.int (1 : Int32))])) _
        refine XS.istore X3.here hx rfl (hb hby at_57) rfl (l' := #[.val (.int p0), .val (.int (0 : Int32)), .val (.int (0 : Int32)), .val (.ref a_EXACTLY_ONE), .val (.int (1 : Int32)), .unset]) rfl ?_
        show Steps p.tables e below (T3.setTop (mkF m 59 #[.val (.int p0), .val (.int (0 : Int32)), .val (.int (0 : Int32)), .val (.ref a_EXACTLY_ONE), .val (.int (1 : Int32)), .unset] [])) _
        refine XS.aloadN X3.here hx rfl (hb hby at_59) rfl rfl ?_
        show Steps p.tables e below (T3.setTop (mkF m 60 #[.val (.int p0), .val (.int (0 : Int32)), .val (.int (0 : Int32)), .val (.ref a_EXACTLY_ONE), .val (.int (1 : Int32)), .unset] [(.ref a_EXACTLY_ONE)])) _
        refine XS.iconst X3.here hx rfl (hb hby at_60) ?_
        exact kt
      obtain ⟨cq4, kq4, q4a, q4b, q4c⟩ := isOf hZ e3 E_EXACTLY_ONE
      obtain ⟨_, _, ⟨T4, L4, k4, n4⟩, -, X4, ⟨Lc4, hQ4, l4, y4, z4⟩, st4⟩ := X3.virtualBack hx (y := (⟨"com/example/txq/txq/type/Occurrence", "allows", "(I)Z"⟩ : MethodName)) (z := (⟨"com/example/txq/txq/type/Occurrence", "allows", "(I)Z"⟩ : MethodName)) hown (mvT hZ (hw _ (List.mem_of_getElem? (i := 20) rfl))) (mvT hZ (hw _ (List.mem_of_getElem? (i := 21) rfl))) (notFace_of_selects (args := #[]) (mvT hZ (hw _ (List.mem_of_getElem? (i := 23) rfl)))) (mvT hZ (hw _ (List.mem_of_getElem? (i := 23) rfl))) (mvT hZ (hw _ (List.mem_of_getElem? (i := 22) rfl))) (by decide) (backOf (W := 0) (rm4 l Z a0 hw [] a_EXACTLY_ONE (0 : Int32) (0 : Int32) (0 : Int32) h0 n0 Z0 F_EXACTLY_ONE_allowsEmpty F_EXACTLY_ONE_allowsMany) hZ (hw _ (List.mem_of_getElem? (i := 24) rfl)) (hw _ (List.mem_of_getElem? (i := 2) rfl)) (by decide) (by decide)) q4a q4c (g := (mkF m 61 #[.val (.int p0), .val (.int (0 : Int32)), .val (.int (0 : Int32)), .val (.ref a_EXACTLY_ONE), .val (.int (1 : Int32)), .unset] [(.int (0 : Int32)), (.ref a_EXACTLY_ONE)])) rfl (by rw [hml]; rfl) (Steps.refl _) (argsL := [(.int (0 : Int32))]) (rest := []) (lenOf pd_0_2 rfl) rfl (by show 2 * 0 + _ ≤ _; exact Nat.le_of_eq rfl) (hb hby at_61) (fun _ _ => ⟨rfl, e3, (by decide : 0 + 0 ≤ _), (by decide : 0 + 0 ≤ _)⟩)
      dsimp only [Pt.U, Pt.locs, Pt.cells, Pt.slots] at X4 l4 y4 z4 st4 hQ4
      subst l4 y4 z4
      obtain ⟨hv4, N4q, e4⟩ := hQ4
      rw [show own_al (0 : Int32) (0 : Int32) (0 : Int32) = (0 : Int32) from by decide] at hv4
      subst hv4
      have N4 := Fr.app N3 N4q
      refine own_via (A' := T4.setTop (mkF m 64 #[.val (.int p0), .val (.int (0 : Int32)), .val (.int (0 : Int32)), .val (.ref a_EXACTLY_ONE), .val (.int (1 : Int32)), .unset] [(.int (0 : Int32))])) (fun _ kt => st4.trans kt) ?_
      refine own_via (A' := T4.setTop (mkF m 65 #[.val (.int p0), .val (.int (0 : Int32)), .val (.int (0 : Int32)), .val (.ref a_EXACTLY_ONE), .val (.int (1 : Int32)), .unset] [(.int (0 : Int32)), (.int (0 : Int32))])) (fun target kt => ?_) ?_
      · show Steps p.tables e below (T4.setTop (mkF m 64 #[.val (.int p0), .val (.int (0 : Int32)), .val (.int (0 : Int32)), .val (.ref a_EXACTLY_ONE), .val (.int (1 : Int32)), .unset] [(.int (0 : Int32))])) _
        refine XS.iloadN X4.here hx rfl (hb hby at_64) rfl ?_
        exact kt
      refine own_via (A' := T4.setTop (mkF m 68 #[.val (.int p0), .val (.int (0 : Int32)), .val (.int (0 : Int32)), .val (.ref a_EXACTLY_ONE), .val (.int (1 : Int32)), .unset] [])) (fun target kt => XS.icmpNo X4.here hx rfl (hb hby at_65) rfl (teq ((by decide) : (0 : Int32) = (0 : Int32))).2 kt) ?_
      refine own_via (A' := T4.setTop (mkF m 70 #[.val (.int p0), .val (.int (0 : Int32)), .val (.int (0 : Int32)), .val (.ref a_EXACTLY_ONE), .val (.int (1 : Int32)), .unset] [(.int (1 : Int32)), (.ref a_EXACTLY_ONE)])) (fun target kt => ?_) ?_
      · show Steps p.tables e below (T4.setTop (mkF m 68 #[.val (.int p0), .val (.int (0 : Int32)), .val (.int (0 : Int32)), .val (.ref a_EXACTLY_ONE), .val (.int (1 : Int32)), .unset] [])) _
        refine XS.aloadN X4.here hx rfl (hb hby at_68) rfl rfl ?_
        show Steps p.tables e below (T4.setTop (mkF m 69 #[.val (.int p0), .val (.int (0 : Int32)), .val (.int (0 : Int32)), .val (.ref a_EXACTLY_ONE), .val (.int (1 : Int32)), .unset] [(.ref a_EXACTLY_ONE)])) _
        refine XS.iconst X4.here hx rfl (hb hby at_69) ?_
        exact kt
      obtain ⟨cq5, kq5, q5a, q5b, q5c⟩ := isOf hZ e4 E_EXACTLY_ONE
      obtain ⟨_, _, ⟨T5, L5, k5, n5⟩, -, X5, ⟨Lc5, hQ5, l5, y5, z5⟩, st5⟩ := X4.virtualBack hx (y := (⟨"com/example/txq/txq/type/Occurrence", "allows", "(I)Z"⟩ : MethodName)) (z := (⟨"com/example/txq/txq/type/Occurrence", "allows", "(I)Z"⟩ : MethodName)) hown (mvT hZ (hw _ (List.mem_of_getElem? (i := 20) rfl))) (mvT hZ (hw _ (List.mem_of_getElem? (i := 21) rfl))) (notFace_of_selects (args := #[]) (mvT hZ (hw _ (List.mem_of_getElem? (i := 23) rfl)))) (mvT hZ (hw _ (List.mem_of_getElem? (i := 23) rfl))) (mvT hZ (hw _ (List.mem_of_getElem? (i := 22) rfl))) (by decide) (backOf (W := 0) (rm4 l Z a0 hw [] a_EXACTLY_ONE (1 : Int32) (0 : Int32) (0 : Int32) h0 n0 Z0 F_EXACTLY_ONE_allowsEmpty F_EXACTLY_ONE_allowsMany) hZ (hw _ (List.mem_of_getElem? (i := 24) rfl)) (hw _ (List.mem_of_getElem? (i := 2) rfl)) (by decide) (by decide)) q5a q5c (g := (mkF m 70 #[.val (.int p0), .val (.int (0 : Int32)), .val (.int (0 : Int32)), .val (.ref a_EXACTLY_ONE), .val (.int (1 : Int32)), .unset] [(.int (1 : Int32)), (.ref a_EXACTLY_ONE)])) rfl (by rw [hml]; rfl) (Steps.refl _) (argsL := [(.int (1 : Int32))]) (rest := []) (lenOf pd_0_2 rfl) rfl (by show 2 * 0 + _ ≤ _; exact Nat.le_of_eq rfl) (hb hby at_70) (fun _ _ => ⟨rfl, e4, (by decide : 0 + 0 ≤ _), (by decide : 0 + 0 ≤ _)⟩)
      dsimp only [Pt.U, Pt.locs, Pt.cells, Pt.slots] at X5 l5 y5 z5 st5 hQ5
      subst l5 y5 z5
      obtain ⟨hv5, N5q, e5⟩ := hQ5
      rw [show own_al (1 : Int32) (0 : Int32) (0 : Int32) = (1 : Int32) from by decide] at hv5
      subst hv5
      have N5 := Fr.app N4 N5q
      refine own_via (A' := T5.setTop (mkF m 73 #[.val (.int p0), .val (.int (0 : Int32)), .val (.int (0 : Int32)), .val (.ref a_EXACTLY_ONE), .val (.int (1 : Int32)), .unset] [(.int (1 : Int32))])) (fun _ kt => st5.trans kt) ?_
      refine own_via (A' := T5.setTop (mkF m 76 #[.val (.int p0), .val (.int (0 : Int32)), .val (.int (0 : Int32)), .val (.ref a_EXACTLY_ONE), .val (.int (1 : Int32)), .unset] [])) (fun target kt => XS.ifNo X5.here hx rfl (hb hby at_73) rfl ((if0 _ _).trans (feq ((by decide) : ¬ ((1 : Int32) = (0 : Int32)))).1) kt) ?_
      refine own_via (A' := T5.setTop (mkF m 78 #[.val (.int p0), .val (.int (0 : Int32)), .val (.int (0 : Int32)), .val (.ref a_EXACTLY_ONE), .val (.int (1 : Int32)), .unset] [(.int (2 : Int32)), (.ref a_EXACTLY_ONE)])) (fun target kt => ?_) ?_
      · show Steps p.tables e below (T5.setTop (mkF m 76 #[.val (.int p0), .val (.int (0 : Int32)), .val (.int (0 : Int32)), .val (.ref a_EXACTLY_ONE), .val (.int (1 : Int32)), .unset] [])) _
        refine XS.aloadN X5.here hx rfl (hb hby at_76) rfl rfl ?_
        show Steps p.tables e below (T5.setTop (mkF m 77 #[.val (.int p0), .val (.int (0 : Int32)), .val (.int (0 : Int32)), .val (.ref a_EXACTLY_ONE), .val (.int (1 : Int32)), .unset] [(.ref a_EXACTLY_ONE)])) _
        refine XS.iconst X5.here hx rfl (hb hby at_77) ?_
        exact kt
      obtain ⟨cq6, kq6, q6a, q6b, q6c⟩ := isOf hZ e5 E_EXACTLY_ONE
      obtain ⟨_, _, ⟨T6, L6, k6, n6⟩, -, X6, ⟨Lc6, hQ6, l6, y6, z6⟩, st6⟩ := X5.virtualBack hx (y := (⟨"com/example/txq/txq/type/Occurrence", "allows", "(I)Z"⟩ : MethodName)) (z := (⟨"com/example/txq/txq/type/Occurrence", "allows", "(I)Z"⟩ : MethodName)) hown (mvT hZ (hw _ (List.mem_of_getElem? (i := 20) rfl))) (mvT hZ (hw _ (List.mem_of_getElem? (i := 21) rfl))) (notFace_of_selects (args := #[]) (mvT hZ (hw _ (List.mem_of_getElem? (i := 23) rfl)))) (mvT hZ (hw _ (List.mem_of_getElem? (i := 23) rfl))) (mvT hZ (hw _ (List.mem_of_getElem? (i := 22) rfl))) (by decide) (backOf (W := 0) (rm4 l Z a0 hw [] a_EXACTLY_ONE (2 : Int32) (0 : Int32) (0 : Int32) h0 n0 Z0 F_EXACTLY_ONE_allowsEmpty F_EXACTLY_ONE_allowsMany) hZ (hw _ (List.mem_of_getElem? (i := 24) rfl)) (hw _ (List.mem_of_getElem? (i := 2) rfl)) (by decide) (by decide)) q6a q6c (g := (mkF m 78 #[.val (.int p0), .val (.int (0 : Int32)), .val (.int (0 : Int32)), .val (.ref a_EXACTLY_ONE), .val (.int (1 : Int32)), .unset] [(.int (2 : Int32)), (.ref a_EXACTLY_ONE)])) rfl (by rw [hml]; rfl) (Steps.refl _) (argsL := [(.int (2 : Int32))]) (rest := []) (lenOf pd_0_2 rfl) rfl (by show 2 * 0 + _ ≤ _; exact Nat.le_of_eq rfl) (hb hby at_78) (fun _ _ => ⟨rfl, e5, (by decide : 0 + 0 ≤ _), (by decide : 0 + 0 ≤ _)⟩)
      dsimp only [Pt.U, Pt.locs, Pt.cells, Pt.slots] at X6 l6 y6 z6 st6 hQ6
      subst l6 y6 z6
      obtain ⟨hv6, N6q, e6⟩ := hQ6
      rw [show own_al (2 : Int32) (0 : Int32) (0 : Int32) = (0 : Int32) from by decide] at hv6
      subst hv6
      have N6 := Fr.app N5 N6q
      refine own_via (A' := T6.setTop (mkF m 81 #[.val (.int p0), .val (.int (0 : Int32)), .val (.int (0 : Int32)), .val (.ref a_EXACTLY_ONE), .val (.int (1 : Int32)), .unset] [(.int (0 : Int32))])) (fun _ kt => st6.trans kt) ?_
      refine own_via (A' := T6.setTop (mkF m 82 #[.val (.int p0), .val (.int (0 : Int32)), .val (.int (0 : Int32)), .val (.ref a_EXACTLY_ONE), .val (.int (1 : Int32)), .unset] [(.int (0 : Int32)), (.int (0 : Int32))])) (fun target kt => ?_) ?_
      · show Steps p.tables e below (T6.setTop (mkF m 81 #[.val (.int p0), .val (.int (0 : Int32)), .val (.int (0 : Int32)), .val (.ref a_EXACTLY_ONE), .val (.int (1 : Int32)), .unset] [(.int (0 : Int32))])) _
        refine XS.iloadN X6.here hx rfl (hb hby at_81) rfl ?_
        exact kt
      refine own_via (A' := T6.setTop (mkF m 85 #[.val (.int p0), .val (.int (0 : Int32)), .val (.int (0 : Int32)), .val (.ref a_EXACTLY_ONE), .val (.int (1 : Int32)), .unset] [])) (fun target kt => XS.icmpNo X6.here hx rfl (hb hby at_82) rfl (teq ((by decide) : (0 : Int32) = (0 : Int32))).2 kt) ?_
      refine own_via (A' := T6.setTop (mkF m 94 #[.val (.int p0), .val (.int (0 : Int32)), .val (.int (0 : Int32)), .val (.ref a_EXACTLY_ONE), .val (.int (1 : Int32)), .val (.int (1 : Int32))] [(.int (1 : Int32))])) (fun target kt => ?_) ?_
      · show Steps p.tables e below (T6.setTop (mkF m 85 #[.val (.int p0), .val (.int (0 : Int32)), .val (.int (0 : Int32)), .val (.ref a_EXACTLY_ONE), .val (.int (1 : Int32)), .unset] [])) _
        refine XS.iconst X6.here hx rfl (hb hby at_85) ?_
        show Steps p.tables e below (T6.setTop (mkF m 86 #[.val (.int p0), .val (.int (0 : Int32)), .val (.int (0 : Int32)), .val (.ref a_EXACTLY_ONE), .val (.int (1 : Int32)), .unset] [(.int (1 : Int32))])) _
        refine XS.goto X6.here hx rfl (pc0 := 86) (pc' := 90) rfl (hb hby at_86) (by decide) (by decide) ?_
        show Steps p.tables e below (T6.setTop (mkF m 90 #[.val (.int p0), .val (.int (0 : Int32)), .val (.int (0 : Int32)), .val (.ref a_EXACTLY_ONE), .val (.int (1 : Int32)), .unset] [(.int (1 : Int32))])) _
        refine XS.istore X6.here hx rfl (hb hby at_90) rfl (l' := #[.val (.int p0), .val (.int (0 : Int32)), .val (.int (0 : Int32)), .val (.ref a_EXACTLY_ONE), .val (.int (1 : Int32)), .val (.int (1 : Int32))]) rfl ?_
        show Steps p.tables e below (T6.setTop (mkF m 92 #[.val (.int p0), .val (.int (0 : Int32)), .val (.int (0 : Int32)), .val (.ref a_EXACTLY_ONE), .val (.int (1 : Int32)), .val (.int (1 : Int32))] [])) _
        refine XS.iload X6.here hx rfl (hb hby at_92) rfl ?_
        exact kt
      refine own_via (A' := T6.setTop (mkF m 97 #[.val (.int p0), .val (.int (0 : Int32)), .val (.int (0 : Int32)), .val (.ref a_EXACTLY_ONE), .val (.int (1 : Int32)), .val (.int (1 : Int32))] [])) (fun target kt => XS.ifNo X6.here hx rfl (hb hby at_94) rfl ((if0 _ _).trans (feq ((by decide) : ¬ ((1 : Int32) = (0 : Int32)))).1) kt) ?_
      refine own_via (A' := T6.setTop (mkF m 99 #[.val (.int p0), .val (.int (0 : Int32)), .val (.int (0 : Int32)), .val (.ref a_EXACTLY_ONE), .val (.int (1 : Int32)), .val (.int (1 : Int32))] [(.int (1 : Int32))])) (fun target kt => ?_) ?_
      · show Steps p.tables e below (T6.setTop (mkF m 97 #[.val (.int p0), .val (.int (0 : Int32)), .val (.int (0 : Int32)), .val (.ref a_EXACTLY_ONE), .val (.int (1 : Int32)), .val (.int (1 : Int32))] [])) _
        refine XS.iload X6.here hx rfl (hb hby at_97) rfl ?_
        exact kt
      refine own_via (A' := T6.setTop (mkF m 102 #[.val (.int p0), .val (.int (0 : Int32)), .val (.int (0 : Int32)), .val (.ref a_EXACTLY_ONE), .val (.int (1 : Int32)), .val (.int (1 : Int32))] [])) (fun target kt => XS.ifNo X6.here hx rfl (hb hby at_99) rfl ((if0 _ _).trans (feq ((by decide) : ¬ ((1 : Int32) = (0 : Int32)))).1) kt) ?_
      refine own_via (A' := T6.setTop (mkF m 107 #[.val (.int p0), .val (.int (0 : Int32)), .val (.int (0 : Int32)), .val (.ref a_EXACTLY_ONE), .val (.int (1 : Int32)), .val (.int (1 : Int32))] [(.int (1 : Int32))])) (fun target kt => ?_) ?_
      · show Steps p.tables e below (T6.setTop (mkF m 102 #[.val (.int p0), .val (.int (0 : Int32)), .val (.int (0 : Int32)), .val (.ref a_EXACTLY_ONE), .val (.int (1 : Int32)), .val (.int (1 : Int32))] [])) _
        refine XS.iconst X6.here hx rfl (hb hby at_102) ?_
        show Steps p.tables e below (T6.setTop (mkF m 103 #[.val (.int p0), .val (.int (0 : Int32)), .val (.int (0 : Int32)), .val (.ref a_EXACTLY_ONE), .val (.int (1 : Int32)), .val (.int (1 : Int32))] [(.int (1 : Int32))])) _
        refine XS.goto X6.here hx rfl (pc0 := 103) (pc' := 107) rfl (hb hby at_103) (by decide) (by decide) ?_
        exact kt
      exact own_retN X6 Bd.notSynchronized hx (t := .boolean) Bd.returns (by simp) (hb hby at_107) (show Q0 Z p0 a_EXACTLY_ONE a_ZERO_OR_MORE a_ONE_OR_MORE a_ZERO_OR_ONE h0 n0 _ _ _ from ⟨rfl, N6⟩) (by decide) (by decide)
    · refine own_via (A' := s₁.setTop (mkF m 18 #[.val (.int p0), .val (.int (0 : Int32)), .unset, .unset, .unset, .unset] [])) (fun target kt => XS.ifNo X0.here hx rfl (hb hby at_15) rfl ((if0 _ _).trans (feq hc15).1) kt) ?_
      refine own_via (A' := s₁.setTop (mkF m 26 #[.val (.int p0), .val (.int (0 : Int32)), .val (.int (1 : Int32)), .unset, .unset, .unset] [(.int (1 : Int32)), (.int (0 : Int32))])) (fun target kt => ?_) ?_
      · show Steps p.tables e below (s₁.setTop (mkF m 18 #[.val (.int p0), .val (.int (0 : Int32)), .unset, .unset, .unset, .unset] [])) _
        refine XS.iconst X0.here hx rfl (hb hby at_18) ?_
        show Steps p.tables e below (s₁.setTop (mkF m 19 #[.val (.int p0), .val (.int (0 : Int32)), .unset, .unset, .unset, .unset] [(.int (1 : Int32))])) _
        refine XS.goto X0.here hx rfl (pc0 := 19) (pc' := 23) rfl (hb hby at_19) (by decide) (by decide) ?_
        show Steps p.tables e below (s₁.setTop (mkF m 23 #[.val (.int p0), .val (.int (0 : Int32)), .unset, .unset, .unset, .unset] [(.int (1 : Int32))])) _
        refine XS.istoreN X0.here hx rfl (hb hby at_23) rfl (l' := #[.val (.int p0), .val (.int (0 : Int32)), .val (.int (1 : Int32)), .unset, .unset, .unset]) rfl ?_
        show Steps p.tables e below (s₁.setTop (mkF m 24 #[.val (.int p0), .val (.int (0 : Int32)), .val (.int (1 : Int32)), .unset, .unset, .unset] [])) _
        refine XS.iloadN X0.here hx rfl (hb hby at_24) rfl ?_
        show Steps p.tables e below (s₁.setTop (mkF m 25 #[.val (.int p0), .val (.int (0 : Int32)), .val (.int (1 : Int32)), .unset, .unset, .unset] [(.int (0 : Int32))])) _
        refine XS.iloadN X0.here hx rfl (hb hby at_25) rfl ?_
        exact kt
      obtain ⟨_, _, ⟨T7, L7, k7, n7⟩, -, X7, ⟨Lc7, hQ7, l7, y7, z7⟩, st7⟩ := Jvm.LawKit.callS X0 hx (y := (⟨"com/example/txq/txq/type/Occurrence", "of", "(ZZ)Lcom/example/txq/txq/type/Occurrence;"⟩ : MethodName)) hown (mvT hZ (hw _ (List.mem_of_getElem? (i := 0) rfl))) (mvT hZ (hw _ (List.mem_of_getElem? (i := 1) rfl))) (mvT hZ (hw _ (List.mem_of_getElem? (i := 2) rfl))) (mvT hZ (hw _ (List.mem_of_getElem? (i := 3) rfl))) (by decide) (backOf (W := 0) (rm1 l Z a0 hw [] (0 : Int32) (1 : Int32) a_EXACTLY_ONE a_ZERO_OR_MORE a_ONE_OR_MORE a_ZERO_OR_ONE h0 n0 Z0 S_EXACTLY_ONE S_ZERO_OR_MORE S_ONE_OR_MORE S_ZERO_OR_ONE) hZ (hw _ (List.mem_of_getElem? (i := 3) rfl)) (hw _ (List.mem_of_getElem? (i := 2) rfl)) (by decide) (by decide)) (g := (mkF m 26 #[.val (.int p0), .val (.int (0 : Int32)), .val (.int (1 : Int32)), .unset, .unset, .unset] [(.int (1 : Int32)), (.int (0 : Int32))])) rfl (by rw [hml]; rfl) (argsL := [(.int (0 : Int32)), (.int (1 : Int32))]) (rest := []) (lenOf pd_0_0 rfl) rfl (by show 2 * 0 + _ ≤ _; exact Nat.le_of_eq rfl) (hb hby at_26) (fun _ _ => ⟨rfl, e0, (by decide : 0 + 0 ≤ _), (by decide : 0 + 0 ≤ _)⟩)
      dsimp only [Pt.U, Pt.locs, Pt.cells, Pt.slots] at X7 l7 y7 z7 st7 hQ7
      subst l7 y7 z7
      obtain ⟨hv7, N7q, e7⟩ := hQ7
      rw [show own_oc (0 : Int32) (1 : Int32) a_EXACTLY_ONE a_ZERO_OR_MORE a_ONE_OR_MORE a_ZERO_OR_ONE = a_ONE_OR_MORE from by simp [own_oc]] at hv7
      subst hv7
      have N7 := Fr.app N0 N7q
      refine own_via (A' := T7.setTop (mkF m 29 #[.val (.int p0), .val (.int (0 : Int32)), .val (.int (1 : Int32)), .unset, .unset, .unset] [(.ref a_ONE_OR_MORE)])) st7 ?_
      refine own_via (A' := T7.setTop (mkF m 37 #[.val (.int p0), .val (.int (0 : Int32)), .val (.int (1 : Int32)), .val (.ref a_ONE_OR_MORE), .unset, .unset] [(.ref a_ONE_OR_MORE)])) (fun target kt => ?_) ?_
      · show Steps p.tables e below (T7.setTop (mkF m 29 #[.val (.int p0), .val (.int (0 : Int32)), .val (.int (1 : Int32)), .unset, .unset, .unset] [(.ref a_ONE_OR_MORE)])) _
        refine XS.astoreN X7.here hx rfl (hb hby at_29) rfl rfl (l' := #[.val (.int p0), .val (.int (0 : Int32)), .val (.int (1 : Int32)), .val (.ref a_ONE_OR_MORE), .unset, .unset]) rfl ?_
        show Steps p.tables e below (T7.setTop (mkF m 30 #[.val (.int p0), .val (.int (0 : Int32)), .val (.int (1 : Int32)), .val (.ref a_ONE_OR_MORE), .unset, .unset] [])) _
        refine XS.aloadN X7.here hx rfl (hb hby at_30) rfl rfl ?_
        show Steps p.tables e below (T7.setTop (mkF m 31 #[.val (.int p0), .val (.int (0 : Int32)), .val (.int (1 : Int32)), .val (.ref a_ONE_OR_MORE), .unset, .unset] [(.ref a_ONE_OR_MORE)])) _
        refine XS.ifnonnullYes X7.here hx rfl (pc0 := 31) (pc' := 36) rfl (hb hby at_31) rfl (by decide) (by decide) ?_
        show Steps p.tables e below (T7.setTop (mkF m 36 #[.val (.int p0), .val (.int (0 : Int32)), .val (.int (1 : Int32)), .val (.ref a_ONE_OR_MORE), .unset, .unset] [])) _
        refine XS.aloadN X7.here hx rfl (hb hby at_36) rfl rfl ?_
        exact kt
      obtain ⟨cq8, kq8, q8a, q8b, q8c⟩ := isOf hZ e7 E_ONE_OR_MORE
      obtain ⟨_, _, ⟨T8, L8, k8, n8⟩, -, X8, ⟨Lc8, hQ8, l8, y8, z8⟩, st8⟩ := X7.virtualBack hx (y := (⟨"com/example/txq/txq/type/Occurrence", "allowsEmpty", "()Z"⟩ : MethodName)) (z := (⟨"com/example/txq/txq/type/Occurrence", "allowsEmpty", "()Z"⟩ : MethodName)) hown (mvT hZ (hw _ (List.mem_of_getElem? (i := 6) rfl))) (mvT hZ (hw _ (List.mem_of_getElem? (i := 7) rfl))) (notFace_of_selects (args := #[]) (mvT hZ (hw _ (List.mem_of_getElem? (i := 9) rfl)))) (mvT hZ (hw _ (List.mem_of_getElem? (i := 9) rfl))) (mvT hZ (hw _ (List.mem_of_getElem? (i := 8) rfl))) (by decide) (backOf (W := 0) (rm2 l Z a0 hw [] a_ONE_OR_MORE (0 : Int32) h0 n0 Z0 F_ONE_OR_MORE_allowsEmpty) hZ (hw _ (List.mem_of_getElem? (i := 10) rfl)) (hw _ (List.mem_of_getElem? (i := 2) rfl)) (by decide) (by decide)) q8a q8c (g := (mkF m 37 #[.val (.int p0), .val (.int (0 : Int32)), .val (.int (1 : Int32)), .val (.ref a_ONE_OR_MORE), .unset, .unset] [(.ref a_ONE_OR_MORE)])) rfl (by rw [hml]; rfl) (Steps.refl _) (argsL := []) (rest := []) (lenOf pd_0_1 rfl) rfl (by show 2 * 0 + _ ≤ _; exact Nat.le_of_eq rfl) (hb hby at_37) (fun _ _ => ⟨rfl, e7, (by decide : 0 + 0 ≤ _), (by decide : 0 + 0 ≤ _)⟩)
      dsimp only [Pt.U, Pt.locs, Pt.cells, Pt.slots] at X8 l8 y8 z8 st8 hQ8
      subst l8 y8 z8
      obtain ⟨hv8, N8q, e8⟩ := hQ8
      rw [show ((0 : Int32) &&& 1) = (0 : Int32) from by decide] at hv8
      subst hv8
      have N8 := Fr.app N7 N8q
      refine own_via (A' := T8.setTop (mkF m 40 #[.val (.int p0), .val (.int (0 : Int32)), .val (.int (1 : Int32)), .val (.ref a_ONE_OR_MORE), .unset, .unset] [(.int (0 : Int32))])) (fun _ kt => st8.trans kt) ?_
      refine own_via (A' := T8.setTop (mkF m 41 #[.val (.int p0), .val (.int (0 : Int32)), .val (.int (1 : Int32)), .val (.ref a_ONE_OR_MORE), .unset, .unset] [(.int (0 : Int32)), (.int (0 : Int32))])) (fun target kt => ?_) ?_
      · show Steps p.tables e below (T8.setTop (mkF m 40 #[.val (.int p0), .val (.int (0 : Int32)), .val (.int (1 : Int32)), .val (.ref a_ONE_OR_MORE), .unset, .unset] [(.int (0 : Int32))])) _
        refine XS.iloadN X8.here hx rfl (hb hby at_40) rfl ?_
        exact kt
      refine own_via (A' := T8.setTop (mkF m 44 #[.val (.int p0), .val (.int (0 : Int32)), .val (.int (1 : Int32)), .val (.ref a_ONE_OR_MORE), .unset, .unset] [])) (fun target kt => XS.icmpNo X8.here hx rfl (hb hby at_41) rfl (teq ((by decide) : (0 : Int32) = (0 : Int32))).2 kt) ?_
      refine own_via (A' := T8.setTop (mkF m 45 #[.val (.int p0), .val (.int (0 : Int32)), .val (.int (1 : Int32)), .val (.ref a_ONE_OR_MORE), .unset, .unset] [(.ref a_ONE_OR_MORE)])) (fun target kt => ?_) ?_
      · show Steps p.tables e below (T8.setTop (mkF m 44 #[.val (.int p0), .val (.int (0 : Int32)), .val (.int (1 : Int32)), .val (.ref a_ONE_OR_MORE), .unset, .unset] [])) _
        refine XS.aloadN X8.here hx rfl (hb hby at_44) rfl rfl ?_
        exact kt
      obtain ⟨cq9, kq9, q9a, q9b, q9c⟩ := isOf hZ e8 E_ONE_OR_MORE
      obtain ⟨_, _, ⟨T9, L9, k9, n9⟩, -, X9, ⟨Lc9, hQ9, l9, y9, z9⟩, st9⟩ := X8.virtualBack hx (y := (⟨"com/example/txq/txq/type/Occurrence", "allowsMany", "()Z"⟩ : MethodName)) (z := (⟨"com/example/txq/txq/type/Occurrence", "allowsMany", "()Z"⟩ : MethodName)) hown (mvT hZ (hw _ (List.mem_of_getElem? (i := 13) rfl))) (mvT hZ (hw _ (List.mem_of_getElem? (i := 14) rfl))) (notFace_of_selects (args := #[]) (mvT hZ (hw _ (List.mem_of_getElem? (i := 16) rfl)))) (mvT hZ (hw _ (List.mem_of_getElem? (i := 16) rfl))) (mvT hZ (hw _ (List.mem_of_getElem? (i := 15) rfl))) (by decide) (backOf (W := 0) (rm3 l Z a0 hw [] a_ONE_OR_MORE (1 : Int32) h0 n0 Z0 F_ONE_OR_MORE_allowsMany) hZ (hw _ (List.mem_of_getElem? (i := 17) rfl)) (hw _ (List.mem_of_getElem? (i := 2) rfl)) (by decide) (by decide)) q9a q9c (g := (mkF m 45 #[.val (.int p0), .val (.int (0 : Int32)), .val (.int (1 : Int32)), .val (.ref a_ONE_OR_MORE), .unset, .unset] [(.ref a_ONE_OR_MORE)])) rfl (by rw [hml]; rfl) (Steps.refl _) (argsL := []) (rest := []) (lenOf pd_0_1 rfl) rfl (by show 2 * 0 + _ ≤ _; exact Nat.le_of_eq rfl) (hb hby at_45) (fun _ _ => ⟨rfl, e8, (by decide : 0 + 0 ≤ _), (by decide : 0 + 0 ≤ _)⟩)
      dsimp only [Pt.U, Pt.locs, Pt.cells, Pt.slots] at X9 l9 y9 z9 st9 hQ9
      subst l9 y9 z9
      obtain ⟨hv9, N9q, e9⟩ := hQ9
      rw [show ((1 : Int32) &&& 1) = (1 : Int32) from by decide] at hv9
      subst hv9
      have N9 := Fr.app N8 N9q
      refine own_via (A' := T9.setTop (mkF m 48 #[.val (.int p0), .val (.int (0 : Int32)), .val (.int (1 : Int32)), .val (.ref a_ONE_OR_MORE), .unset, .unset] [(.int (1 : Int32))])) (fun _ kt => st9.trans kt) ?_
      refine own_via (A' := T9.setTop (mkF m 49 #[.val (.int p0), .val (.int (0 : Int32)), .val (.int (1 : Int32)), .val (.ref a_ONE_OR_MORE), .unset, .unset] [(.int (1 : Int32)), (.int (1 : Int32))])) (fun target kt => ?_) ?_
      · show Steps p.tables e below (T9.setTop (mkF m 48 #[.val (.int p0), .val (.int (0 : Int32)), .val (.int (1 : Int32)), .val (.ref a_ONE_OR_MORE), .unset, .unset] [(.int (1 : Int32))])) _
        refine XS.iloadN X9.here hx rfl (hb hby at_48) rfl ?_
        exact kt
      refine own_via (A' := T9.setTop (mkF m 52 #[.val (.int p0), .val (.int (0 : Int32)), .val (.int (1 : Int32)), .val (.ref a_ONE_OR_MORE), .unset, .unset] [])) (fun target kt => XS.icmpNo X9.here hx rfl (hb hby at_49) rfl (teq ((by decide) : (1 : Int32) = (1 : Int32))).2 kt) ?_
      refine own_via (A' := T9.setTop (mkF m 61 #[.val (.int p0), .val (.int (0 : Int32)), .val (.int (1 : Int32)), .val (.ref a_ONE_OR_MORE), .val (.int (1 : Int32)), .unset] [(.int (0 : Int32)), (.ref a_ONE_OR_MORE)])) (fun target kt => ?_) ?_
      · show Steps p.tables e below (T9.setTop (mkF m 52 #[.val (.int p0), .val (.int (0 : Int32)), .val (.int (1 : Int32)), .val (.ref a_ONE_OR_MORE), .unset, .unset] [])) _
        refine XS.iconst X9.here hx rfl (hb hby at_52) ?_
        show Steps p.tables e below (T9.setTop (mkF m 53 #[.val (.int p0), .val (.int (0 : Int32)), .val (.int (1 : Int32)), .val (.ref a_ONE_OR_MORE), .unset, .unset] [(.int (1 : Int32))])) _
        refine XS.goto X9.here hx rfl (pc0 := 53) (pc' := 57) rfl (hb hby at_53) (by decide) (by decide) ?_
        show Steps p.tables e below (T9.setTop (mkF m 57 #[.val (.int p0), .val (.int (0 : Int32)), .val (.int (1 : Int32)), .val (.ref a_ONE_OR_MORE), .unset, .unset] [(.int (1 : Int32))])) _
        refine XS.istore X9.here hx rfl (hb hby at_57) rfl (l' := #[.val (.int p0), .val (.int (0 : Int32)), .val (.int (1 : Int32)), .val (.ref a_ONE_OR_MORE), .val (.int (1 : Int32)), .unset]) rfl ?_
        show Steps p.tables e below (T9.setTop (mkF m 59 #[.val (.int p0), .val (.int (0 : Int32)), .val (.int (1 : Int32)), .val (.ref a_ONE_OR_MORE), .val (.int (1 : Int32)), .unset] [])) _
        refine XS.aloadN X9.here hx rfl (hb hby at_59) rfl rfl ?_
        show Steps p.tables e below (T9.setTop (mkF m 60 #[.val (.int p0), .val (.int (0 : Int32)), .val (.int (1 : Int32)), .val (.ref a_ONE_OR_MORE), .val (.int (1 : Int32)), .unset] [(.ref a_ONE_OR_MORE)])) _
        refine XS.iconst X9.here hx rfl (hb hby at_60) ?_
        exact kt
      obtain ⟨cq10, kq10, q10a, q10b, q10c⟩ := isOf hZ e9 E_ONE_OR_MORE
      obtain ⟨_, _, ⟨T10, L10, k10, n10⟩, -, X10, ⟨Lc10, hQ10, l10, y10, z10⟩, st10⟩ := X9.virtualBack hx (y := (⟨"com/example/txq/txq/type/Occurrence", "allows", "(I)Z"⟩ : MethodName)) (z := (⟨"com/example/txq/txq/type/Occurrence", "allows", "(I)Z"⟩ : MethodName)) hown (mvT hZ (hw _ (List.mem_of_getElem? (i := 20) rfl))) (mvT hZ (hw _ (List.mem_of_getElem? (i := 21) rfl))) (notFace_of_selects (args := #[]) (mvT hZ (hw _ (List.mem_of_getElem? (i := 23) rfl)))) (mvT hZ (hw _ (List.mem_of_getElem? (i := 23) rfl))) (mvT hZ (hw _ (List.mem_of_getElem? (i := 22) rfl))) (by decide) (backOf (W := 0) (rm4 l Z a0 hw [] a_ONE_OR_MORE (0 : Int32) (0 : Int32) (1 : Int32) h0 n0 Z0 F_ONE_OR_MORE_allowsEmpty F_ONE_OR_MORE_allowsMany) hZ (hw _ (List.mem_of_getElem? (i := 24) rfl)) (hw _ (List.mem_of_getElem? (i := 2) rfl)) (by decide) (by decide)) q10a q10c (g := (mkF m 61 #[.val (.int p0), .val (.int (0 : Int32)), .val (.int (1 : Int32)), .val (.ref a_ONE_OR_MORE), .val (.int (1 : Int32)), .unset] [(.int (0 : Int32)), (.ref a_ONE_OR_MORE)])) rfl (by rw [hml]; rfl) (Steps.refl _) (argsL := [(.int (0 : Int32))]) (rest := []) (lenOf pd_0_2 rfl) rfl (by show 2 * 0 + _ ≤ _; exact Nat.le_of_eq rfl) (hb hby at_61) (fun _ _ => ⟨rfl, e9, (by decide : 0 + 0 ≤ _), (by decide : 0 + 0 ≤ _)⟩)
      dsimp only [Pt.U, Pt.locs, Pt.cells, Pt.slots] at X10 l10 y10 z10 st10 hQ10
      subst l10 y10 z10
      obtain ⟨hv10, N10q, e10⟩ := hQ10
      rw [show own_al (0 : Int32) (0 : Int32) (1 : Int32) = (0 : Int32) from by decide] at hv10
      subst hv10
      have N10 := Fr.app N9 N10q
      refine own_via (A' := T10.setTop (mkF m 64 #[.val (.int p0), .val (.int (0 : Int32)), .val (.int (1 : Int32)), .val (.ref a_ONE_OR_MORE), .val (.int (1 : Int32)), .unset] [(.int (0 : Int32))])) (fun _ kt => st10.trans kt) ?_
      refine own_via (A' := T10.setTop (mkF m 65 #[.val (.int p0), .val (.int (0 : Int32)), .val (.int (1 : Int32)), .val (.ref a_ONE_OR_MORE), .val (.int (1 : Int32)), .unset] [(.int (0 : Int32)), (.int (0 : Int32))])) (fun target kt => ?_) ?_
      · show Steps p.tables e below (T10.setTop (mkF m 64 #[.val (.int p0), .val (.int (0 : Int32)), .val (.int (1 : Int32)), .val (.ref a_ONE_OR_MORE), .val (.int (1 : Int32)), .unset] [(.int (0 : Int32))])) _
        refine XS.iloadN X10.here hx rfl (hb hby at_64) rfl ?_
        exact kt
      refine own_via (A' := T10.setTop (mkF m 68 #[.val (.int p0), .val (.int (0 : Int32)), .val (.int (1 : Int32)), .val (.ref a_ONE_OR_MORE), .val (.int (1 : Int32)), .unset] [])) (fun target kt => XS.icmpNo X10.here hx rfl (hb hby at_65) rfl (teq ((by decide) : (0 : Int32) = (0 : Int32))).2 kt) ?_
      refine own_via (A' := T10.setTop (mkF m 70 #[.val (.int p0), .val (.int (0 : Int32)), .val (.int (1 : Int32)), .val (.ref a_ONE_OR_MORE), .val (.int (1 : Int32)), .unset] [(.int (1 : Int32)), (.ref a_ONE_OR_MORE)])) (fun target kt => ?_) ?_
      · show Steps p.tables e below (T10.setTop (mkF m 68 #[.val (.int p0), .val (.int (0 : Int32)), .val (.int (1 : Int32)), .val (.ref a_ONE_OR_MORE), .val (.int (1 : Int32)), .unset] [])) _
        refine XS.aloadN X10.here hx rfl (hb hby at_68) rfl rfl ?_
        show Steps p.tables e below (T10.setTop (mkF m 69 #[.val (.int p0), .val (.int (0 : Int32)), .val (.int (1 : Int32)), .val (.ref a_ONE_OR_MORE), .val (.int (1 : Int32)), .unset] [(.ref a_ONE_OR_MORE)])) _
        refine XS.iconst X10.here hx rfl (hb hby at_69) ?_
        exact kt
      obtain ⟨cq11, kq11, q11a, q11b, q11c⟩ := isOf hZ e10 E_ONE_OR_MORE
      obtain ⟨_, _, ⟨T11, L11, k11, n11⟩, -, X11, ⟨Lc11, hQ11, l11, y11, z11⟩, st11⟩ := X10.virtualBack hx (y := (⟨"com/example/txq/txq/type/Occurrence", "allows", "(I)Z"⟩ : MethodName)) (z := (⟨"com/example/txq/txq/type/Occurrence", "allows", "(I)Z"⟩ : MethodName)) hown (mvT hZ (hw _ (List.mem_of_getElem? (i := 20) rfl))) (mvT hZ (hw _ (List.mem_of_getElem? (i := 21) rfl))) (notFace_of_selects (args := #[]) (mvT hZ (hw _ (List.mem_of_getElem? (i := 23) rfl)))) (mvT hZ (hw _ (List.mem_of_getElem? (i := 23) rfl))) (mvT hZ (hw _ (List.mem_of_getElem? (i := 22) rfl))) (by decide) (backOf (W := 0) (rm4 l Z a0 hw [] a_ONE_OR_MORE (1 : Int32) (0 : Int32) (1 : Int32) h0 n0 Z0 F_ONE_OR_MORE_allowsEmpty F_ONE_OR_MORE_allowsMany) hZ (hw _ (List.mem_of_getElem? (i := 24) rfl)) (hw _ (List.mem_of_getElem? (i := 2) rfl)) (by decide) (by decide)) q11a q11c (g := (mkF m 70 #[.val (.int p0), .val (.int (0 : Int32)), .val (.int (1 : Int32)), .val (.ref a_ONE_OR_MORE), .val (.int (1 : Int32)), .unset] [(.int (1 : Int32)), (.ref a_ONE_OR_MORE)])) rfl (by rw [hml]; rfl) (Steps.refl _) (argsL := [(.int (1 : Int32))]) (rest := []) (lenOf pd_0_2 rfl) rfl (by show 2 * 0 + _ ≤ _; exact Nat.le_of_eq rfl) (hb hby at_70) (fun _ _ => ⟨rfl, e10, (by decide : 0 + 0 ≤ _), (by decide : 0 + 0 ≤ _)⟩)
      dsimp only [Pt.U, Pt.locs, Pt.cells, Pt.slots] at X11 l11 y11 z11 st11 hQ11
      subst l11 y11 z11
      obtain ⟨hv11, N11q, e11⟩ := hQ11
      rw [show own_al (1 : Int32) (0 : Int32) (1 : Int32) = (1 : Int32) from by decide] at hv11
      subst hv11
      have N11 := Fr.app N10 N11q
      refine own_via (A' := T11.setTop (mkF m 73 #[.val (.int p0), .val (.int (0 : Int32)), .val (.int (1 : Int32)), .val (.ref a_ONE_OR_MORE), .val (.int (1 : Int32)), .unset] [(.int (1 : Int32))])) (fun _ kt => st11.trans kt) ?_
      refine own_via (A' := T11.setTop (mkF m 76 #[.val (.int p0), .val (.int (0 : Int32)), .val (.int (1 : Int32)), .val (.ref a_ONE_OR_MORE), .val (.int (1 : Int32)), .unset] [])) (fun target kt => XS.ifNo X11.here hx rfl (hb hby at_73) rfl ((if0 _ _).trans (feq ((by decide) : ¬ ((1 : Int32) = (0 : Int32)))).1) kt) ?_
      refine own_via (A' := T11.setTop (mkF m 78 #[.val (.int p0), .val (.int (0 : Int32)), .val (.int (1 : Int32)), .val (.ref a_ONE_OR_MORE), .val (.int (1 : Int32)), .unset] [(.int (2 : Int32)), (.ref a_ONE_OR_MORE)])) (fun target kt => ?_) ?_
      · show Steps p.tables e below (T11.setTop (mkF m 76 #[.val (.int p0), .val (.int (0 : Int32)), .val (.int (1 : Int32)), .val (.ref a_ONE_OR_MORE), .val (.int (1 : Int32)), .unset] [])) _
        refine XS.aloadN X11.here hx rfl (hb hby at_76) rfl rfl ?_
        show Steps p.tables e below (T11.setTop (mkF m 77 #[.val (.int p0), .val (.int (0 : Int32)), .val (.int (1 : Int32)), .val (.ref a_ONE_OR_MORE), .val (.int (1 : Int32)), .unset] [(.ref a_ONE_OR_MORE)])) _
        refine XS.iconst X11.here hx rfl (hb hby at_77) ?_
        exact kt
      obtain ⟨cq12, kq12, q12a, q12b, q12c⟩ := isOf hZ e11 E_ONE_OR_MORE
      obtain ⟨_, _, ⟨T12, L12, k12, n12⟩, -, X12, ⟨Lc12, hQ12, l12, y12, z12⟩, st12⟩ := X11.virtualBack hx (y := (⟨"com/example/txq/txq/type/Occurrence", "allows", "(I)Z"⟩ : MethodName)) (z := (⟨"com/example/txq/txq/type/Occurrence", "allows", "(I)Z"⟩ : MethodName)) hown (mvT hZ (hw _ (List.mem_of_getElem? (i := 20) rfl))) (mvT hZ (hw _ (List.mem_of_getElem? (i := 21) rfl))) (notFace_of_selects (args := #[]) (mvT hZ (hw _ (List.mem_of_getElem? (i := 23) rfl)))) (mvT hZ (hw _ (List.mem_of_getElem? (i := 23) rfl))) (mvT hZ (hw _ (List.mem_of_getElem? (i := 22) rfl))) (by decide) (backOf (W := 0) (rm4 l Z a0 hw [] a_ONE_OR_MORE (2 : Int32) (0 : Int32) (1 : Int32) h0 n0 Z0 F_ONE_OR_MORE_allowsEmpty F_ONE_OR_MORE_allowsMany) hZ (hw _ (List.mem_of_getElem? (i := 24) rfl)) (hw _ (List.mem_of_getElem? (i := 2) rfl)) (by decide) (by decide)) q12a q12c (g := (mkF m 78 #[.val (.int p0), .val (.int (0 : Int32)), .val (.int (1 : Int32)), .val (.ref a_ONE_OR_MORE), .val (.int (1 : Int32)), .unset] [(.int (2 : Int32)), (.ref a_ONE_OR_MORE)])) rfl (by rw [hml]; rfl) (Steps.refl _) (argsL := [(.int (2 : Int32))]) (rest := []) (lenOf pd_0_2 rfl) rfl (by show 2 * 0 + _ ≤ _; exact Nat.le_of_eq rfl) (hb hby at_78) (fun _ _ => ⟨rfl, e11, (by decide : 0 + 0 ≤ _), (by decide : 0 + 0 ≤ _)⟩)
      dsimp only [Pt.U, Pt.locs, Pt.cells, Pt.slots] at X12 l12 y12 z12 st12 hQ12
      subst l12 y12 z12
      obtain ⟨hv12, N12q, e12⟩ := hQ12
      rw [show own_al (2 : Int32) (0 : Int32) (1 : Int32) = (1 : Int32) from by decide] at hv12
      subst hv12
      have N12 := Fr.app N11 N12q
      refine own_via (A' := T12.setTop (mkF m 81 #[.val (.int p0), .val (.int (0 : Int32)), .val (.int (1 : Int32)), .val (.ref a_ONE_OR_MORE), .val (.int (1 : Int32)), .unset] [(.int (1 : Int32))])) (fun _ kt => st12.trans kt) ?_
      refine own_via (A' := T12.setTop (mkF m 82 #[.val (.int p0), .val (.int (0 : Int32)), .val (.int (1 : Int32)), .val (.ref a_ONE_OR_MORE), .val (.int (1 : Int32)), .unset] [(.int (1 : Int32)), (.int (1 : Int32))])) (fun target kt => ?_) ?_
      · show Steps p.tables e below (T12.setTop (mkF m 81 #[.val (.int p0), .val (.int (0 : Int32)), .val (.int (1 : Int32)), .val (.ref a_ONE_OR_MORE), .val (.int (1 : Int32)), .unset] [(.int (1 : Int32))])) _
        refine XS.iloadN X12.here hx rfl (hb hby at_81) rfl ?_
        exact kt
      refine own_via (A' := T12.setTop (mkF m 85 #[.val (.int p0), .val (.int (0 : Int32)), .val (.int (1 : Int32)), .val (.ref a_ONE_OR_MORE), .val (.int (1 : Int32)), .unset] [])) (fun target kt => XS.icmpNo X12.here hx rfl (hb hby at_82) rfl (teq ((by decide) : (1 : Int32) = (1 : Int32))).2 kt) ?_
      refine own_via (A' := T12.setTop (mkF m 94 #[.val (.int p0), .val (.int (0 : Int32)), .val (.int (1 : Int32)), .val (.ref a_ONE_OR_MORE), .val (.int (1 : Int32)), .val (.int (1 : Int32))] [(.int (1 : Int32))])) (fun target kt => ?_) ?_
      · show Steps p.tables e below (T12.setTop (mkF m 85 #[.val (.int p0), .val (.int (0 : Int32)), .val (.int (1 : Int32)), .val (.ref a_ONE_OR_MORE), .val (.int (1 : Int32)), .unset] [])) _
        refine XS.iconst X12.here hx rfl (hb hby at_85) ?_
        show Steps p.tables e below (T12.setTop (mkF m 86 #[.val (.int p0), .val (.int (0 : Int32)), .val (.int (1 : Int32)), .val (.ref a_ONE_OR_MORE), .val (.int (1 : Int32)), .unset] [(.int (1 : Int32))])) _
        refine XS.goto X12.here hx rfl (pc0 := 86) (pc' := 90) rfl (hb hby at_86) (by decide) (by decide) ?_
        show Steps p.tables e below (T12.setTop (mkF m 90 #[.val (.int p0), .val (.int (0 : Int32)), .val (.int (1 : Int32)), .val (.ref a_ONE_OR_MORE), .val (.int (1 : Int32)), .unset] [(.int (1 : Int32))])) _
        refine XS.istore X12.here hx rfl (hb hby at_90) rfl (l' := #[.val (.int p0), .val (.int (0 : Int32)), .val (.int (1 : Int32)), .val (.ref a_ONE_OR_MORE), .val (.int (1 : Int32)), .val (.int (1 : Int32))]) rfl ?_
        show Steps p.tables e below (T12.setTop (mkF m 92 #[.val (.int p0), .val (.int (0 : Int32)), .val (.int (1 : Int32)), .val (.ref a_ONE_OR_MORE), .val (.int (1 : Int32)), .val (.int (1 : Int32))] [])) _
        refine XS.iload X12.here hx rfl (hb hby at_92) rfl ?_
        exact kt
      refine own_via (A' := T12.setTop (mkF m 97 #[.val (.int p0), .val (.int (0 : Int32)), .val (.int (1 : Int32)), .val (.ref a_ONE_OR_MORE), .val (.int (1 : Int32)), .val (.int (1 : Int32))] [])) (fun target kt => XS.ifNo X12.here hx rfl (hb hby at_94) rfl ((if0 _ _).trans (feq ((by decide) : ¬ ((1 : Int32) = (0 : Int32)))).1) kt) ?_
      refine own_via (A' := T12.setTop (mkF m 99 #[.val (.int p0), .val (.int (0 : Int32)), .val (.int (1 : Int32)), .val (.ref a_ONE_OR_MORE), .val (.int (1 : Int32)), .val (.int (1 : Int32))] [(.int (1 : Int32))])) (fun target kt => ?_) ?_
      · show Steps p.tables e below (T12.setTop (mkF m 97 #[.val (.int p0), .val (.int (0 : Int32)), .val (.int (1 : Int32)), .val (.ref a_ONE_OR_MORE), .val (.int (1 : Int32)), .val (.int (1 : Int32))] [])) _
        refine XS.iload X12.here hx rfl (hb hby at_97) rfl ?_
        exact kt
      refine own_via (A' := T12.setTop (mkF m 102 #[.val (.int p0), .val (.int (0 : Int32)), .val (.int (1 : Int32)), .val (.ref a_ONE_OR_MORE), .val (.int (1 : Int32)), .val (.int (1 : Int32))] [])) (fun target kt => XS.ifNo X12.here hx rfl (hb hby at_99) rfl ((if0 _ _).trans (feq ((by decide) : ¬ ((1 : Int32) = (0 : Int32)))).1) kt) ?_
      refine own_via (A' := T12.setTop (mkF m 107 #[.val (.int p0), .val (.int (0 : Int32)), .val (.int (1 : Int32)), .val (.ref a_ONE_OR_MORE), .val (.int (1 : Int32)), .val (.int (1 : Int32))] [(.int (1 : Int32))])) (fun target kt => ?_) ?_
      · show Steps p.tables e below (T12.setTop (mkF m 102 #[.val (.int p0), .val (.int (0 : Int32)), .val (.int (1 : Int32)), .val (.ref a_ONE_OR_MORE), .val (.int (1 : Int32)), .val (.int (1 : Int32))] [])) _
        refine XS.iconst X12.here hx rfl (hb hby at_102) ?_
        show Steps p.tables e below (T12.setTop (mkF m 103 #[.val (.int p0), .val (.int (0 : Int32)), .val (.int (1 : Int32)), .val (.ref a_ONE_OR_MORE), .val (.int (1 : Int32)), .val (.int (1 : Int32))] [(.int (1 : Int32))])) _
        refine XS.goto X12.here hx rfl (pc0 := 103) (pc' := 107) rfl (hb hby at_103) (by decide) (by decide) ?_
        exact kt
      exact own_retN X12 Bd.notSynchronized hx (t := .boolean) Bd.returns (by simp) (hb hby at_107) (show Q0 Z p0 a_EXACTLY_ONE a_ZERO_OR_MORE a_ONE_OR_MORE a_ZERO_OR_ONE h0 n0 _ _ _ from ⟨rfl, N12⟩) (by decide) (by decide)
  · refine own_via (A' := s₁.setTop (mkF m 6 #[.val (.int p0), .unset, .unset, .unset, .unset, .unset] [])) (fun target kt => XS.ifNo X0.here hx rfl (hb hby at_3) rfl ((if0 _ _).trans (feq hc3).1) kt) ?_
    refine own_via (A' := s₁.setTop (mkF m 15 #[.val (.int p0), .val (.int (1 : Int32)), .unset, .unset, .unset, .unset] [(.int (p0 &&& (2 : Int32)))])) (fun target kt => ?_) ?_
    · show Steps p.tables e below (s₁.setTop (mkF m 6 #[.val (.int p0), .unset, .unset, .unset, .unset, .unset] [])) _
      refine XS.iconst X0.here hx rfl (hb hby at_6) ?_
      show Steps p.tables e below (s₁.setTop (mkF m 7 #[.val (.int p0), .unset, .unset, .unset, .unset, .unset] [(.int (1 : Int32))])) _
      refine XS.goto X0.here hx rfl (pc0 := 7) (pc' := 11) rfl (hb hby at_7) (by decide) (by decide) ?_
      show Steps p.tables e below (s₁.setTop (mkF m 11 #[.val (.int p0), .unset, .unset, .unset, .unset, .unset] [(.int (1 : Int32))])) _
      refine XS.istoreN X0.here hx rfl (hb hby at_11) rfl (l' := #[.val (.int p0), .val (.int (1 : Int32)), .unset, .unset, .unset, .unset]) rfl ?_
      show Steps p.tables e below (s₁.setTop (mkF m 12 #[.val (.int p0), .val (.int (1 : Int32)), .unset, .unset, .unset, .unset] [])) _
      refine XS.iloadN X0.here hx rfl (hb hby at_12) rfl ?_
      show Steps p.tables e below (s₁.setTop (mkF m 13 #[.val (.int p0), .val (.int (1 : Int32)), .unset, .unset, .unset, .unset] [(.int p0)])) _
      refine XS.iconst X0.here hx rfl (hb hby at_13) ?_
      show Steps p.tables e below (s₁.setTop (mkF m 14 #[.val (.int p0), .val (.int (1 : Int32)), .unset, .unset, .unset, .unset] [(.int (2 : Int32)), (.int p0)])) _
      refine XS.iand X0.here hx rfl (hb hby at_14) rfl ?_
      exact kt
    by_cases hc15 : (p0 &&& (2 : Int32)) = (0 : Int32)
    · refine own_via (A' := s₁.setTop (mkF m 22 #[.val (.int p0), .val (.int (1 : Int32)), .unset, .unset, .unset, .unset] [])) (fun target kt => XS.ifYes X0.here hx rfl (pc0 := 15) (pc' := 22) rfl (hb hby at_15) rfl ((if0 _ _).trans (teq hc15).1) (by decide) (by decide) kt) ?_
      refine own_via (A' := s₁.setTop (mkF m 26 #[.val (.int p0), .val (.int (1 : Int32)), .val (.int (0 : Int32)), .unset, .unset, .unset] [(.int (0 : Int32)), (.int (1 : Int32))])) (fun target kt => ?_) ?_
      · show Steps p.tables e below (s₁.setTop (mkF m 22 #[.val (.int p0), .val (.int (1 : Int32)), .unset, .unset, .unset, .unset] [])) _
        refine XS.iconst X0.here hx rfl (hb hby at_22) ?_
        show Steps p.tables e below (s₁.setTop (mkF m 23 #[.val (.int p0), .val (.int (1 : Int32)), .unset, .unset, .unset, .unset] [(.int (0 : Int32))])) _
        refine XS.istoreN X0.here hx rfl (hb hby at_23) rfl (l' := #[.val (.int p0), .val (.int (1 : Int32)), .val (.int (0 : Int32)), .unset, .unset, .unset]) rfl ?_
        show Steps p.tables e below (s₁.setTop (mkF m 24 #[.val (.int p0), .val (.int (1 : Int32)), .val (.int (0 : Int32)), .unset, .unset, .unset] [])) _
        refine XS.iloadN X0.here hx rfl (hb hby at_24) rfl ?_
        show Steps p.tables e below (s₁.setTop (mkF m 25 #[.val (.int p0), .val (.int (1 : Int32)), .val (.int (0 : Int32)), .unset, .unset, .unset] [(.int (1 : Int32))])) _
        refine XS.iloadN X0.here hx rfl (hb hby at_25) rfl ?_
        exact kt
      obtain ⟨_, _, ⟨T13, L13, k13, n13⟩, -, X13, ⟨Lc13, hQ13, l13, y13, z13⟩, st13⟩ := Jvm.LawKit.callS X0 hx (y := (⟨"com/example/txq/txq/type/Occurrence", "of", "(ZZ)Lcom/example/txq/txq/type/Occurrence;"⟩ : MethodName)) hown (mvT hZ (hw _ (List.mem_of_getElem? (i := 0) rfl))) (mvT hZ (hw _ (List.mem_of_getElem? (i := 1) rfl))) (mvT hZ (hw _ (List.mem_of_getElem? (i := 2) rfl))) (mvT hZ (hw _ (List.mem_of_getElem? (i := 3) rfl))) (by decide) (backOf (W := 0) (rm1 l Z a0 hw [] (1 : Int32) (0 : Int32) a_EXACTLY_ONE a_ZERO_OR_MORE a_ONE_OR_MORE a_ZERO_OR_ONE h0 n0 Z0 S_EXACTLY_ONE S_ZERO_OR_MORE S_ONE_OR_MORE S_ZERO_OR_ONE) hZ (hw _ (List.mem_of_getElem? (i := 3) rfl)) (hw _ (List.mem_of_getElem? (i := 2) rfl)) (by decide) (by decide)) (g := (mkF m 26 #[.val (.int p0), .val (.int (1 : Int32)), .val (.int (0 : Int32)), .unset, .unset, .unset] [(.int (0 : Int32)), (.int (1 : Int32))])) rfl (by rw [hml]; rfl) (argsL := [(.int (1 : Int32)), (.int (0 : Int32))]) (rest := []) (lenOf pd_0_0 rfl) rfl (by show 2 * 0 + _ ≤ _; exact Nat.le_of_eq rfl) (hb hby at_26) (fun _ _ => ⟨rfl, e0, (by decide : 0 + 0 ≤ _), (by decide : 0 + 0 ≤ _)⟩)
      dsimp only [Pt.U, Pt.locs, Pt.cells, Pt.slots] at X13 l13 y13 z13 st13 hQ13
      subst l13 y13 z13
      obtain ⟨hv13, N13q, e13⟩ := hQ13
      rw [show own_oc (1 : Int32) (0 : Int32) a_EXACTLY_ONE a_ZERO_OR_MORE a_ONE_OR_MORE a_ZERO_OR_ONE = a_ZERO_OR_ONE from by simp [own_oc]] at hv13
      subst hv13
      have N13 := Fr.app N0 N13q
      refine own_via (A' := T13.setTop (mkF m 29 #[.val (.int p0), .val (.int (1 : Int32)), .val (.int (0 : Int32)), .unset, .unset, .unset] [(.ref a_ZERO_OR_ONE)])) st13 ?_
      refine own_via (A' := T13.setTop (mkF m 37 #[.val (.int p0), .val (.int (1 : Int32)), .val (.int (0 : Int32)), .val (.ref a_ZERO_OR_ONE), .unset, .unset] [(.ref a_ZERO_OR_ONE)])) (fun target kt => ?_) ?_
      · show Steps p.tables e below (T13.setTop (mkF m 29 #[.val (.int p0), .val (.int (1 : Int32)), .val (.int (0 : Int32)), .unset, .unset, .unset] [(.ref a_ZERO_OR_ONE)])) _
        refine XS.astoreN X13.here hx rfl (hb hby at_29) rfl rfl (l' := #[.val (.int p0), .val (.int (1 : Int32)), .val (.int (0 : Int32)), .val (.ref a_ZERO_OR_ONE), .unset, .unset]) rfl ?_
        show Steps p.tables e below (T13.setTop (mkF m 30 #[.val (.int p0), .val (.int (1 : Int32)), .val (.int (0 : Int32)), .val (.ref a_ZERO_OR_ONE), .unset, .unset] [])) _
        refine XS.aloadN X13.here hx rfl (hb hby at_30) rfl rfl ?_
        show Steps p.tables e below (T13.setTop (mkF m 31 #[.val (.int p0), .val (.int (1 : Int32)), .val (.int (0 : Int32)), .val (.ref a_ZERO_OR_ONE), .unset, .unset] [(.ref a_ZERO_OR_ONE)])) _
        refine XS.ifnonnullYes X13.here hx rfl (pc0 := 31) (pc' := 36) rfl (hb hby at_31) rfl (by decide) (by decide) ?_
        show Steps p.tables e below (T13.setTop (mkF m 36 #[.val (.int p0), .val (.int (1 : Int32)), .val (.int (0 : Int32)), .val (.ref a_ZERO_OR_ONE), .unset, .unset] [])) _
        refine XS.aloadN X13.here hx rfl (hb hby at_36) rfl rfl ?_
        exact kt
      obtain ⟨cq14, kq14, q14a, q14b, q14c⟩ := isOf hZ e13 E_ZERO_OR_ONE
      obtain ⟨_, _, ⟨T14, L14, k14, n14⟩, -, X14, ⟨Lc14, hQ14, l14, y14, z14⟩, st14⟩ := X13.virtualBack hx (y := (⟨"com/example/txq/txq/type/Occurrence", "allowsEmpty", "()Z"⟩ : MethodName)) (z := (⟨"com/example/txq/txq/type/Occurrence", "allowsEmpty", "()Z"⟩ : MethodName)) hown (mvT hZ (hw _ (List.mem_of_getElem? (i := 6) rfl))) (mvT hZ (hw _ (List.mem_of_getElem? (i := 7) rfl))) (notFace_of_selects (args := #[]) (mvT hZ (hw _ (List.mem_of_getElem? (i := 9) rfl)))) (mvT hZ (hw _ (List.mem_of_getElem? (i := 9) rfl))) (mvT hZ (hw _ (List.mem_of_getElem? (i := 8) rfl))) (by decide) (backOf (W := 0) (rm2 l Z a0 hw [] a_ZERO_OR_ONE (1 : Int32) h0 n0 Z0 F_ZERO_OR_ONE_allowsEmpty) hZ (hw _ (List.mem_of_getElem? (i := 10) rfl)) (hw _ (List.mem_of_getElem? (i := 2) rfl)) (by decide) (by decide)) q14a q14c (g := (mkF m 37 #[.val (.int p0), .val (.int (1 : Int32)), .val (.int (0 : Int32)), .val (.ref a_ZERO_OR_ONE), .unset, .unset] [(.ref a_ZERO_OR_ONE)])) rfl (by rw [hml]; rfl) (Steps.refl _) (argsL := []) (rest := []) (lenOf pd_0_1 rfl) rfl (by show 2 * 0 + _ ≤ _; exact Nat.le_of_eq rfl) (hb hby at_37) (fun _ _ => ⟨rfl, e13, (by decide : 0 + 0 ≤ _), (by decide : 0 + 0 ≤ _)⟩)
      dsimp only [Pt.U, Pt.locs, Pt.cells, Pt.slots] at X14 l14 y14 z14 st14 hQ14
      subst l14 y14 z14
      obtain ⟨hv14, N14q, e14⟩ := hQ14
      rw [show ((1 : Int32) &&& 1) = (1 : Int32) from by decide] at hv14
      subst hv14
      have N14 := Fr.app N13 N14q
      refine own_via (A' := T14.setTop (mkF m 40 #[.val (.int p0), .val (.int (1 : Int32)), .val (.int (0 : Int32)), .val (.ref a_ZERO_OR_ONE), .unset, .unset] [(.int (1 : Int32))])) (fun _ kt => st14.trans kt) ?_
      refine own_via (A' := T14.setTop (mkF m 41 #[.val (.int p0), .val (.int (1 : Int32)), .val (.int (0 : Int32)), .val (.ref a_ZERO_OR_ONE), .unset, .unset] [(.int (1 : Int32)), (.int (1 : Int32))])) (fun target kt => ?_) ?_
      · show Steps p.tables e below (T14.setTop (mkF m 40 #[.val (.int p0), .val (.int (1 : Int32)), .val (.int (0 : Int32)), .val (.ref a_ZERO_OR_ONE), .unset, .unset] [(.int (1 : Int32))])) _
        refine XS.iloadN X14.here hx rfl (hb hby at_40) rfl ?_
        exact kt
      refine own_via (A' := T14.setTop (mkF m 44 #[.val (.int p0), .val (.int (1 : Int32)), .val (.int (0 : Int32)), .val (.ref a_ZERO_OR_ONE), .unset, .unset] [])) (fun target kt => XS.icmpNo X14.here hx rfl (hb hby at_41) rfl (teq ((by decide) : (1 : Int32) = (1 : Int32))).2 kt) ?_
      refine own_via (A' := T14.setTop (mkF m 45 #[.val (.int p0), .val (.int (1 : Int32)), .val (.int (0 : Int32)), .val (.ref a_ZERO_OR_ONE), .unset, .unset] [(.ref a_ZERO_OR_ONE)])) (fun target kt => ?_) ?_
      · show Steps p.tables e below (T14.setTop (mkF m 44 #[.val (.int p0), .val (.int (1 : Int32)), .val (.int (0 : Int32)), .val (.ref a_ZERO_OR_ONE), .unset, .unset] [])) _
        refine XS.aloadN X14.here hx rfl (hb hby at_44) rfl rfl ?_
        exact kt
      obtain ⟨cq15, kq15, q15a, q15b, q15c⟩ := isOf hZ e14 E_ZERO_OR_ONE
      obtain ⟨_, _, ⟨T15, L15, k15, n15⟩, -, X15, ⟨Lc15, hQ15, l15, y15, z15⟩, st15⟩ := X14.virtualBack hx (y := (⟨"com/example/txq/txq/type/Occurrence", "allowsMany", "()Z"⟩ : MethodName)) (z := (⟨"com/example/txq/txq/type/Occurrence", "allowsMany", "()Z"⟩ : MethodName)) hown (mvT hZ (hw _ (List.mem_of_getElem? (i := 13) rfl))) (mvT hZ (hw _ (List.mem_of_getElem? (i := 14) rfl))) (notFace_of_selects (args := #[]) (mvT hZ (hw _ (List.mem_of_getElem? (i := 16) rfl)))) (mvT hZ (hw _ (List.mem_of_getElem? (i := 16) rfl))) (mvT hZ (hw _ (List.mem_of_getElem? (i := 15) rfl))) (by decide) (backOf (W := 0) (rm3 l Z a0 hw [] a_ZERO_OR_ONE (0 : Int32) h0 n0 Z0 F_ZERO_OR_ONE_allowsMany) hZ (hw _ (List.mem_of_getElem? (i := 17) rfl)) (hw _ (List.mem_of_getElem? (i := 2) rfl)) (by decide) (by decide)) q15a q15c (g := (mkF m 45 #[.val (.int p0), .val (.int (1 : Int32)), .val (.int (0 : Int32)), .val (.ref a_ZERO_OR_ONE), .unset, .unset] [(.ref a_ZERO_OR_ONE)])) rfl (by rw [hml]; rfl) (Steps.refl _) (argsL := []) (rest := []) (lenOf pd_0_1 rfl) rfl (by show 2 * 0 + _ ≤ _; exact Nat.le_of_eq rfl) (hb hby at_45) (fun _ _ => ⟨rfl, e14, (by decide : 0 + 0 ≤ _), (by decide : 0 + 0 ≤ _)⟩)
      dsimp only [Pt.U, Pt.locs, Pt.cells, Pt.slots] at X15 l15 y15 z15 st15 hQ15
      subst l15 y15 z15
      obtain ⟨hv15, N15q, e15⟩ := hQ15
      rw [show ((0 : Int32) &&& 1) = (0 : Int32) from by decide] at hv15
      subst hv15
      have N15 := Fr.app N14 N15q
      refine own_via (A' := T15.setTop (mkF m 48 #[.val (.int p0), .val (.int (1 : Int32)), .val (.int (0 : Int32)), .val (.ref a_ZERO_OR_ONE), .unset, .unset] [(.int (0 : Int32))])) (fun _ kt => st15.trans kt) ?_
      refine own_via (A' := T15.setTop (mkF m 49 #[.val (.int p0), .val (.int (1 : Int32)), .val (.int (0 : Int32)), .val (.ref a_ZERO_OR_ONE), .unset, .unset] [(.int (0 : Int32)), (.int (0 : Int32))])) (fun target kt => ?_) ?_
      · show Steps p.tables e below (T15.setTop (mkF m 48 #[.val (.int p0), .val (.int (1 : Int32)), .val (.int (0 : Int32)), .val (.ref a_ZERO_OR_ONE), .unset, .unset] [(.int (0 : Int32))])) _
        refine XS.iloadN X15.here hx rfl (hb hby at_48) rfl ?_
        exact kt
      refine own_via (A' := T15.setTop (mkF m 52 #[.val (.int p0), .val (.int (1 : Int32)), .val (.int (0 : Int32)), .val (.ref a_ZERO_OR_ONE), .unset, .unset] [])) (fun target kt => XS.icmpNo X15.here hx rfl (hb hby at_49) rfl (teq ((by decide) : (0 : Int32) = (0 : Int32))).2 kt) ?_
      refine own_via (A' := T15.setTop (mkF m 61 #[.val (.int p0), .val (.int (1 : Int32)), .val (.int (0 : Int32)), .val (.ref a_ZERO_OR_ONE), .val (.int (1 : Int32)), .unset] [(.int (0 : Int32)), (.ref a_ZERO_OR_ONE)])) (fun target kt => ?_) ?_
      · show Steps p.tables e below (T15.setTop (mkF m 52 #[.val (.int p0), .val (.int (1 : Int32)), .val (.int (0 : Int32)), .val (.ref a_ZERO_OR_ONE), .unset, .unset] [])) _
        refine XS.iconst X15.here hx rfl (hb hby at_52) ?_
        show Steps p.tables e below (T15.setTop (mkF m 53 #[.val (.int p0), .val (.int (1 : Int32)), .val (.int (0 : Int32)), .val (.ref a_ZERO_OR_ONE), .unset, .unset] [(.int (1 : Int32))])) _
        refine XS.goto X15.here hx rfl (pc0 := 53) (pc' := 57) rfl (hb hby at_53) (by decide) (by decide) ?_
        show Steps p.tables e below (T15.setTop (mkF m 57 #[.val (.int p0), .val (.int (1 : Int32)), .val (.int (0 : Int32)), .val (.ref a_ZERO_OR_ONE), .unset, .unset] [(.int (1 : Int32))])) _
        refine XS.istore X15.here hx rfl (hb hby at_57) rfl (l' := #[.val (.int p0), .val (.int (1 : Int32)), .val (.int (0 : Int32)), .val (.ref a_ZERO_OR_ONE), .val (.int (1 : Int32)), .unset]) rfl ?_
        show Steps p.tables e below (T15.setTop (mkF m 59 #[.val (.int p0), .val (.int (1 : Int32)), .val (.int (0 : Int32)), .val (.ref a_ZERO_OR_ONE), .val (.int (1 : Int32)), .unset] [])) _
        refine XS.aloadN X15.here hx rfl (hb hby at_59) rfl rfl ?_
        show Steps p.tables e below (T15.setTop (mkF m 60 #[.val (.int p0), .val (.int (1 : Int32)), .val (.int (0 : Int32)), .val (.ref a_ZERO_OR_ONE), .val (.int (1 : Int32)), .unset] [(.ref a_ZERO_OR_ONE)])) _
        refine XS.iconst X15.here hx rfl (hb hby at_60) ?_
        exact kt
      obtain ⟨cq16, kq16, q16a, q16b, q16c⟩ := isOf hZ e15 E_ZERO_OR_ONE
      obtain ⟨_, _, ⟨T16, L16, k16, n16⟩, -, X16, ⟨Lc16, hQ16, l16, y16, z16⟩, st16⟩ := X15.virtualBack hx (y := (⟨"com/example/txq/txq/type/Occurrence", "allows", "(I)Z"⟩ : MethodName)) (z := (⟨"com/example/txq/txq/type/Occurrence", "allows", "(I)Z"⟩ : MethodName)) hown (mvT hZ (hw _ (List.mem_of_getElem? (i := 20) rfl))) (mvT hZ (hw _ (List.mem_of_getElem? (i := 21) rfl))) (notFace_of_selects (args := #[]) (mvT hZ (hw _ (List.mem_of_getElem? (i := 23) rfl)))) (mvT hZ (hw _ (List.mem_of_getElem? (i := 23) rfl))) (mvT hZ (hw _ (List.mem_of_getElem? (i := 22) rfl))) (by decide) (backOf (W := 0) (rm4 l Z a0 hw [] a_ZERO_OR_ONE (0 : Int32) (1 : Int32) (0 : Int32) h0 n0 Z0 F_ZERO_OR_ONE_allowsEmpty F_ZERO_OR_ONE_allowsMany) hZ (hw _ (List.mem_of_getElem? (i := 24) rfl)) (hw _ (List.mem_of_getElem? (i := 2) rfl)) (by decide) (by decide)) q16a q16c (g := (mkF m 61 #[.val (.int p0), .val (.int (1 : Int32)), .val (.int (0 : Int32)), .val (.ref a_ZERO_OR_ONE), .val (.int (1 : Int32)), .unset] [(.int (0 : Int32)), (.ref a_ZERO_OR_ONE)])) rfl (by rw [hml]; rfl) (Steps.refl _) (argsL := [(.int (0 : Int32))]) (rest := []) (lenOf pd_0_2 rfl) rfl (by show 2 * 0 + _ ≤ _; exact Nat.le_of_eq rfl) (hb hby at_61) (fun _ _ => ⟨rfl, e15, (by decide : 0 + 0 ≤ _), (by decide : 0 + 0 ≤ _)⟩)
      dsimp only [Pt.U, Pt.locs, Pt.cells, Pt.slots] at X16 l16 y16 z16 st16 hQ16
      subst l16 y16 z16
      obtain ⟨hv16, N16q, e16⟩ := hQ16
      rw [show own_al (0 : Int32) (1 : Int32) (0 : Int32) = (1 : Int32) from by decide] at hv16
      subst hv16
      have N16 := Fr.app N15 N16q
      refine own_via (A' := T16.setTop (mkF m 64 #[.val (.int p0), .val (.int (1 : Int32)), .val (.int (0 : Int32)), .val (.ref a_ZERO_OR_ONE), .val (.int (1 : Int32)), .unset] [(.int (1 : Int32))])) (fun _ kt => st16.trans kt) ?_
      refine own_via (A' := T16.setTop (mkF m 65 #[.val (.int p0), .val (.int (1 : Int32)), .val (.int (0 : Int32)), .val (.ref a_ZERO_OR_ONE), .val (.int (1 : Int32)), .unset] [(.int (1 : Int32)), (.int (1 : Int32))])) (fun target kt => ?_) ?_
      · show Steps p.tables e below (T16.setTop (mkF m 64 #[.val (.int p0), .val (.int (1 : Int32)), .val (.int (0 : Int32)), .val (.ref a_ZERO_OR_ONE), .val (.int (1 : Int32)), .unset] [(.int (1 : Int32))])) _
        refine XS.iloadN X16.here hx rfl (hb hby at_64) rfl ?_
        exact kt
      refine own_via (A' := T16.setTop (mkF m 68 #[.val (.int p0), .val (.int (1 : Int32)), .val (.int (0 : Int32)), .val (.ref a_ZERO_OR_ONE), .val (.int (1 : Int32)), .unset] [])) (fun target kt => XS.icmpNo X16.here hx rfl (hb hby at_65) rfl (teq ((by decide) : (1 : Int32) = (1 : Int32))).2 kt) ?_
      refine own_via (A' := T16.setTop (mkF m 70 #[.val (.int p0), .val (.int (1 : Int32)), .val (.int (0 : Int32)), .val (.ref a_ZERO_OR_ONE), .val (.int (1 : Int32)), .unset] [(.int (1 : Int32)), (.ref a_ZERO_OR_ONE)])) (fun target kt => ?_) ?_
      · show Steps p.tables e below (T16.setTop (mkF m 68 #[.val (.int p0), .val (.int (1 : Int32)), .val (.int (0 : Int32)), .val (.ref a_ZERO_OR_ONE), .val (.int (1 : Int32)), .unset] [])) _
        refine XS.aloadN X16.here hx rfl (hb hby at_68) rfl rfl ?_
        show Steps p.tables e below (T16.setTop (mkF m 69 #[.val (.int p0), .val (.int (1 : Int32)), .val (.int (0 : Int32)), .val (.ref a_ZERO_OR_ONE), .val (.int (1 : Int32)), .unset] [(.ref a_ZERO_OR_ONE)])) _
        refine XS.iconst X16.here hx rfl (hb hby at_69) ?_
        exact kt
      obtain ⟨cq17, kq17, q17a, q17b, q17c⟩ := isOf hZ e16 E_ZERO_OR_ONE
      obtain ⟨_, _, ⟨T17, L17, k17, n17⟩, -, X17, ⟨Lc17, hQ17, l17, y17, z17⟩, st17⟩ := X16.virtualBack hx (y := (⟨"com/example/txq/txq/type/Occurrence", "allows", "(I)Z"⟩ : MethodName)) (z := (⟨"com/example/txq/txq/type/Occurrence", "allows", "(I)Z"⟩ : MethodName)) hown (mvT hZ (hw _ (List.mem_of_getElem? (i := 20) rfl))) (mvT hZ (hw _ (List.mem_of_getElem? (i := 21) rfl))) (notFace_of_selects (args := #[]) (mvT hZ (hw _ (List.mem_of_getElem? (i := 23) rfl)))) (mvT hZ (hw _ (List.mem_of_getElem? (i := 23) rfl))) (mvT hZ (hw _ (List.mem_of_getElem? (i := 22) rfl))) (by decide) (backOf (W := 0) (rm4 l Z a0 hw [] a_ZERO_OR_ONE (1 : Int32) (1 : Int32) (0 : Int32) h0 n0 Z0 F_ZERO_OR_ONE_allowsEmpty F_ZERO_OR_ONE_allowsMany) hZ (hw _ (List.mem_of_getElem? (i := 24) rfl)) (hw _ (List.mem_of_getElem? (i := 2) rfl)) (by decide) (by decide)) q17a q17c (g := (mkF m 70 #[.val (.int p0), .val (.int (1 : Int32)), .val (.int (0 : Int32)), .val (.ref a_ZERO_OR_ONE), .val (.int (1 : Int32)), .unset] [(.int (1 : Int32)), (.ref a_ZERO_OR_ONE)])) rfl (by rw [hml]; rfl) (Steps.refl _) (argsL := [(.int (1 : Int32))]) (rest := []) (lenOf pd_0_2 rfl) rfl (by show 2 * 0 + _ ≤ _; exact Nat.le_of_eq rfl) (hb hby at_70) (fun _ _ => ⟨rfl, e16, (by decide : 0 + 0 ≤ _), (by decide : 0 + 0 ≤ _)⟩)
      dsimp only [Pt.U, Pt.locs, Pt.cells, Pt.slots] at X17 l17 y17 z17 st17 hQ17
      subst l17 y17 z17
      obtain ⟨hv17, N17q, e17⟩ := hQ17
      rw [show own_al (1 : Int32) (1 : Int32) (0 : Int32) = (1 : Int32) from by decide] at hv17
      subst hv17
      have N17 := Fr.app N16 N17q
      refine own_via (A' := T17.setTop (mkF m 73 #[.val (.int p0), .val (.int (1 : Int32)), .val (.int (0 : Int32)), .val (.ref a_ZERO_OR_ONE), .val (.int (1 : Int32)), .unset] [(.int (1 : Int32))])) (fun _ kt => st17.trans kt) ?_
      refine own_via (A' := T17.setTop (mkF m 76 #[.val (.int p0), .val (.int (1 : Int32)), .val (.int (0 : Int32)), .val (.ref a_ZERO_OR_ONE), .val (.int (1 : Int32)), .unset] [])) (fun target kt => XS.ifNo X17.here hx rfl (hb hby at_73) rfl ((if0 _ _).trans (feq ((by decide) : ¬ ((1 : Int32) = (0 : Int32)))).1) kt) ?_
      refine own_via (A' := T17.setTop (mkF m 78 #[.val (.int p0), .val (.int (1 : Int32)), .val (.int (0 : Int32)), .val (.ref a_ZERO_OR_ONE), .val (.int (1 : Int32)), .unset] [(.int (2 : Int32)), (.ref a_ZERO_OR_ONE)])) (fun target kt => ?_) ?_
      · show Steps p.tables e below (T17.setTop (mkF m 76 #[.val (.int p0), .val (.int (1 : Int32)), .val (.int (0 : Int32)), .val (.ref a_ZERO_OR_ONE), .val (.int (1 : Int32)), .unset] [])) _
        refine XS.aloadN X17.here hx rfl (hb hby at_76) rfl rfl ?_
        show Steps p.tables e below (T17.setTop (mkF m 77 #[.val (.int p0), .val (.int (1 : Int32)), .val (.int (0 : Int32)), .val (.ref a_ZERO_OR_ONE), .val (.int (1 : Int32)), .unset] [(.ref a_ZERO_OR_ONE)])) _
        refine XS.iconst X17.here hx rfl (hb hby at_77) ?_
        exact kt
      obtain ⟨cq18, kq18, q18a, q18b, q18c⟩ := isOf hZ e17 E_ZERO_OR_ONE
      obtain ⟨_, _, ⟨T18, L18, k18, n18⟩, -, X18, ⟨Lc18, hQ18, l18, y18, z18⟩, st18⟩ := X17.virtualBack hx (y := (⟨"com/example/txq/txq/type/Occurrence", "allows", "(I)Z"⟩ : MethodName)) (z := (⟨"com/example/txq/txq/type/Occurrence", "allows", "(I)Z"⟩ : MethodName)) hown (mvT hZ (hw _ (List.mem_of_getElem? (i := 20) rfl))) (mvT hZ (hw _ (List.mem_of_getElem? (i := 21) rfl))) (notFace_of_selects (args := #[]) (mvT hZ (hw _ (List.mem_of_getElem? (i := 23) rfl)))) (mvT hZ (hw _ (List.mem_of_getElem? (i := 23) rfl))) (mvT hZ (hw _ (List.mem_of_getElem? (i := 22) rfl))) (by decide) (backOf (W := 0) (rm4 l Z a0 hw [] a_ZERO_OR_ONE (2 : Int32) (1 : Int32) (0 : Int32) h0 n0 Z0 F_ZERO_OR_ONE_allowsEmpty F_ZERO_OR_ONE_allowsMany) hZ (hw _ (List.mem_of_getElem? (i := 24) rfl)) (hw _ (List.mem_of_getElem? (i := 2) rfl)) (by decide) (by decide)) q18a q18c (g := (mkF m 78 #[.val (.int p0), .val (.int (1 : Int32)), .val (.int (0 : Int32)), .val (.ref a_ZERO_OR_ONE), .val (.int (1 : Int32)), .unset] [(.int (2 : Int32)), (.ref a_ZERO_OR_ONE)])) rfl (by rw [hml]; rfl) (Steps.refl _) (argsL := [(.int (2 : Int32))]) (rest := []) (lenOf pd_0_2 rfl) rfl (by show 2 * 0 + _ ≤ _; exact Nat.le_of_eq rfl) (hb hby at_78) (fun _ _ => ⟨rfl, e17, (by decide : 0 + 0 ≤ _), (by decide : 0 + 0 ≤ _)⟩)
      dsimp only [Pt.U, Pt.locs, Pt.cells, Pt.slots] at X18 l18 y18 z18 st18 hQ18
      subst l18 y18 z18
      obtain ⟨hv18, N18q, e18⟩ := hQ18
      rw [show own_al (2 : Int32) (1 : Int32) (0 : Int32) = (0 : Int32) from by decide] at hv18
      subst hv18
      have N18 := Fr.app N17 N18q
      refine own_via (A' := T18.setTop (mkF m 81 #[.val (.int p0), .val (.int (1 : Int32)), .val (.int (0 : Int32)), .val (.ref a_ZERO_OR_ONE), .val (.int (1 : Int32)), .unset] [(.int (0 : Int32))])) (fun _ kt => st18.trans kt) ?_
      refine own_via (A' := T18.setTop (mkF m 82 #[.val (.int p0), .val (.int (1 : Int32)), .val (.int (0 : Int32)), .val (.ref a_ZERO_OR_ONE), .val (.int (1 : Int32)), .unset] [(.int (0 : Int32)), (.int (0 : Int32))])) (fun target kt => ?_) ?_
      · show Steps p.tables e below (T18.setTop (mkF m 81 #[.val (.int p0), .val (.int (1 : Int32)), .val (.int (0 : Int32)), .val (.ref a_ZERO_OR_ONE), .val (.int (1 : Int32)), .unset] [(.int (0 : Int32))])) _
        refine XS.iloadN X18.here hx rfl (hb hby at_81) rfl ?_
        exact kt
      refine own_via (A' := T18.setTop (mkF m 85 #[.val (.int p0), .val (.int (1 : Int32)), .val (.int (0 : Int32)), .val (.ref a_ZERO_OR_ONE), .val (.int (1 : Int32)), .unset] [])) (fun target kt => XS.icmpNo X18.here hx rfl (hb hby at_82) rfl (teq ((by decide) : (0 : Int32) = (0 : Int32))).2 kt) ?_
      refine own_via (A' := T18.setTop (mkF m 94 #[.val (.int p0), .val (.int (1 : Int32)), .val (.int (0 : Int32)), .val (.ref a_ZERO_OR_ONE), .val (.int (1 : Int32)), .val (.int (1 : Int32))] [(.int (1 : Int32))])) (fun target kt => ?_) ?_
      · show Steps p.tables e below (T18.setTop (mkF m 85 #[.val (.int p0), .val (.int (1 : Int32)), .val (.int (0 : Int32)), .val (.ref a_ZERO_OR_ONE), .val (.int (1 : Int32)), .unset] [])) _
        refine XS.iconst X18.here hx rfl (hb hby at_85) ?_
        show Steps p.tables e below (T18.setTop (mkF m 86 #[.val (.int p0), .val (.int (1 : Int32)), .val (.int (0 : Int32)), .val (.ref a_ZERO_OR_ONE), .val (.int (1 : Int32)), .unset] [(.int (1 : Int32))])) _
        refine XS.goto X18.here hx rfl (pc0 := 86) (pc' := 90) rfl (hb hby at_86) (by decide) (by decide) ?_
        show Steps p.tables e below (T18.setTop (mkF m 90 #[.val (.int p0), .val (.int (1 : Int32)), .val (.int (0 : Int32)), .val (.ref a_ZERO_OR_ONE), .val (.int (1 : Int32)), .unset] [(.int (1 : Int32))])) _
        refine XS.istore X18.here hx rfl (hb hby at_90) rfl (l' := #[.val (.int p0), .val (.int (1 : Int32)), .val (.int (0 : Int32)), .val (.ref a_ZERO_OR_ONE), .val (.int (1 : Int32)), .val (.int (1 : Int32))]) rfl ?_
        show Steps p.tables e below (T18.setTop (mkF m 92 #[.val (.int p0), .val (.int (1 : Int32)), .val (.int (0 : Int32)), .val (.ref a_ZERO_OR_ONE), .val (.int (1 : Int32)), .val (.int (1 : Int32))] [])) _
        refine XS.iload X18.here hx rfl (hb hby at_92) rfl ?_
        exact kt
      refine own_via (A' := T18.setTop (mkF m 97 #[.val (.int p0), .val (.int (1 : Int32)), .val (.int (0 : Int32)), .val (.ref a_ZERO_OR_ONE), .val (.int (1 : Int32)), .val (.int (1 : Int32))] [])) (fun target kt => XS.ifNo X18.here hx rfl (hb hby at_94) rfl ((if0 _ _).trans (feq ((by decide) : ¬ ((1 : Int32) = (0 : Int32)))).1) kt) ?_
      refine own_via (A' := T18.setTop (mkF m 99 #[.val (.int p0), .val (.int (1 : Int32)), .val (.int (0 : Int32)), .val (.ref a_ZERO_OR_ONE), .val (.int (1 : Int32)), .val (.int (1 : Int32))] [(.int (1 : Int32))])) (fun target kt => ?_) ?_
      · show Steps p.tables e below (T18.setTop (mkF m 97 #[.val (.int p0), .val (.int (1 : Int32)), .val (.int (0 : Int32)), .val (.ref a_ZERO_OR_ONE), .val (.int (1 : Int32)), .val (.int (1 : Int32))] [])) _
        refine XS.iload X18.here hx rfl (hb hby at_97) rfl ?_
        exact kt
      refine own_via (A' := T18.setTop (mkF m 102 #[.val (.int p0), .val (.int (1 : Int32)), .val (.int (0 : Int32)), .val (.ref a_ZERO_OR_ONE), .val (.int (1 : Int32)), .val (.int (1 : Int32))] [])) (fun target kt => XS.ifNo X18.here hx rfl (hb hby at_99) rfl ((if0 _ _).trans (feq ((by decide) : ¬ ((1 : Int32) = (0 : Int32)))).1) kt) ?_
      refine own_via (A' := T18.setTop (mkF m 107 #[.val (.int p0), .val (.int (1 : Int32)), .val (.int (0 : Int32)), .val (.ref a_ZERO_OR_ONE), .val (.int (1 : Int32)), .val (.int (1 : Int32))] [(.int (1 : Int32))])) (fun target kt => ?_) ?_
      · show Steps p.tables e below (T18.setTop (mkF m 102 #[.val (.int p0), .val (.int (1 : Int32)), .val (.int (0 : Int32)), .val (.ref a_ZERO_OR_ONE), .val (.int (1 : Int32)), .val (.int (1 : Int32))] [])) _
        refine XS.iconst X18.here hx rfl (hb hby at_102) ?_
        show Steps p.tables e below (T18.setTop (mkF m 103 #[.val (.int p0), .val (.int (1 : Int32)), .val (.int (0 : Int32)), .val (.ref a_ZERO_OR_ONE), .val (.int (1 : Int32)), .val (.int (1 : Int32))] [(.int (1 : Int32))])) _
        refine XS.goto X18.here hx rfl (pc0 := 103) (pc' := 107) rfl (hb hby at_103) (by decide) (by decide) ?_
        exact kt
      exact own_retN X18 Bd.notSynchronized hx (t := .boolean) Bd.returns (by simp) (hb hby at_107) (show Q0 Z p0 a_EXACTLY_ONE a_ZERO_OR_MORE a_ONE_OR_MORE a_ZERO_OR_ONE h0 n0 _ _ _ from ⟨rfl, N18⟩) (by decide) (by decide)
    · refine own_via (A' := s₁.setTop (mkF m 18 #[.val (.int p0), .val (.int (1 : Int32)), .unset, .unset, .unset, .unset] [])) (fun target kt => XS.ifNo X0.here hx rfl (hb hby at_15) rfl ((if0 _ _).trans (feq hc15).1) kt) ?_
      refine own_via (A' := s₁.setTop (mkF m 26 #[.val (.int p0), .val (.int (1 : Int32)), .val (.int (1 : Int32)), .unset, .unset, .unset] [(.int (1 : Int32)), (.int (1 : Int32))])) (fun target kt => ?_) ?_
      · show Steps p.tables e below (s₁.setTop (mkF m 18 #[.val (.int p0), .val (.int (1 : Int32)), .unset, .unset, .unset, .unset] [])) _
        refine XS.iconst X0.here hx rfl (hb hby at_18) ?_
        show Steps p.tables e below (s₁.setTop (mkF m 19 #[.val (.int p0), .val (.int (1 : Int32)), .unset, .unset, .unset, .unset] [(.int (1 : Int32))])) _
        refine XS.goto X0.here hx rfl (pc0 := 19) (pc' := 23) rfl (hb hby at_19) (by decide) (by decide) ?_
        show Steps p.tables e below (s₁.setTop (mkF m 23 #[.val (.int p0), .val (.int (1 : Int32)), .unset, .unset, .unset, .unset] [(.int (1 : Int32))])) _
        refine XS.istoreN X0.here hx rfl (hb hby at_23) rfl (l' := #[.val (.int p0), .val (.int (1 : Int32)), .val (.int (1 : Int32)), .unset, .unset, .unset]) rfl ?_
        show Steps p.tables e below (s₁.setTop (mkF m 24 #[.val (.int p0), .val (.int (1 : Int32)), .val (.int (1 : Int32)), .unset, .unset, .unset] [])) _
        refine XS.iloadN X0.here hx rfl (hb hby at_24) rfl ?_
        show Steps p.tables e below (s₁.setTop (mkF m 25 #[.val (.int p0), .val (.int (1 : Int32)), .val (.int (1 : Int32)), .unset, .unset, .unset] [(.int (1 : Int32))])) _
        refine XS.iloadN X0.here hx rfl (hb hby at_25) rfl ?_
        exact kt
      obtain ⟨_, _, ⟨T19, L19, k19, n19⟩, -, X19, ⟨Lc19, hQ19, l19, y19, z19⟩, st19⟩ := Jvm.LawKit.callS X0 hx (y := (⟨"com/example/txq/txq/type/Occurrence", "of", "(ZZ)Lcom/example/txq/txq/type/Occurrence;"⟩ : MethodName)) hown (mvT hZ (hw _ (List.mem_of_getElem? (i := 0) rfl))) (mvT hZ (hw _ (List.mem_of_getElem? (i := 1) rfl))) (mvT hZ (hw _ (List.mem_of_getElem? (i := 2) rfl))) (mvT hZ (hw _ (List.mem_of_getElem? (i := 3) rfl))) (by decide) (backOf (W := 0) (rm1 l Z a0 hw [] (1 : Int32) (1 : Int32) a_EXACTLY_ONE a_ZERO_OR_MORE a_ONE_OR_MORE a_ZERO_OR_ONE h0 n0 Z0 S_EXACTLY_ONE S_ZERO_OR_MORE S_ONE_OR_MORE S_ZERO_OR_ONE) hZ (hw _ (List.mem_of_getElem? (i := 3) rfl)) (hw _ (List.mem_of_getElem? (i := 2) rfl)) (by decide) (by decide)) (g := (mkF m 26 #[.val (.int p0), .val (.int (1 : Int32)), .val (.int (1 : Int32)), .unset, .unset, .unset] [(.int (1 : Int32)), (.int (1 : Int32))])) rfl (by rw [hml]; rfl) (argsL := [(.int (1 : Int32)), (.int (1 : Int32))]) (rest := []) (lenOf pd_0_0 rfl) rfl (by show 2 * 0 + _ ≤ _; exact Nat.le_of_eq rfl) (hb hby at_26) (fun _ _ => ⟨rfl, e0, (by decide : 0 + 0 ≤ _), (by decide : 0 + 0 ≤ _)⟩)
      dsimp only [Pt.U, Pt.locs, Pt.cells, Pt.slots] at X19 l19 y19 z19 st19 hQ19
      subst l19 y19 z19
      obtain ⟨hv19, N19q, e19⟩ := hQ19
      rw [show own_oc (1 : Int32) (1 : Int32) a_EXACTLY_ONE a_ZERO_OR_MORE a_ONE_OR_MORE a_ZERO_OR_ONE = a_ZERO_OR_MORE from by simp [own_oc]] at hv19
      subst hv19
      have N19 := Fr.app N0 N19q
      refine own_via (A' := T19.setTop (mkF m 29 #[.val (.int p0), .val (.int (1 : Int32)), .val (.int (1 : Int32)), .unset, .unset, .unset] [(.ref a_ZERO_OR_MORE)])) st19 ?_
      refine own_via (A' := T19.setTop (mkF m 37 #[.val (.int p0), .val (.int (1 : Int32)), .val (.int (1 : Int32)), .val (.ref a_ZERO_OR_MORE), .unset, .unset] [(.ref a_ZERO_OR_MORE)])) (fun target kt => ?_) ?_
      · show Steps p.tables e below (T19.setTop (mkF m 29 #[.val (.int p0), .val (.int (1 : Int32)), .val (.int (1 : Int32)), .unset, .unset, .unset] [(.ref a_ZERO_OR_MORE)])) _
        refine XS.astoreN X19.here hx rfl (hb hby at_29) rfl rfl (l' := #[.val (.int p0), .val (.int (1 : Int32)), .val (.int (1 : Int32)), .val (.ref a_ZERO_OR_MORE), .unset, .unset]) rfl ?_
        show Steps p.tables e below (T19.setTop (mkF m 30 #[.val (.int p0), .val (.int (1 : Int32)), .val (.int (1 : Int32)), .val (.ref a_ZERO_OR_MORE), .unset, .unset] [])) _
        refine XS.aloadN X19.here hx rfl (hb hby at_30) rfl rfl ?_
        show Steps p.tables e below (T19.setTop (mkF m 31 #[.val (.int p0), .val (.int (1 : Int32)), .val (.int (1 : Int32)), .val (.ref a_ZERO_OR_MORE), .unset, .unset] [(.ref a_ZERO_OR_MORE)])) _
        refine XS.ifnonnullYes X19.here hx rfl (pc0 := 31) (pc' := 36) rfl (hb hby at_31) rfl (by decide) (by decide) ?_
        show Steps p.tables e below (T19.setTop (mkF m 36 #[.val (.int p0), .val (.int (1 : Int32)), .val (.int (1 : Int32)), .val (.ref a_ZERO_OR_MORE), .unset, .unset] [])) _
        refine XS.aloadN X19.here hx rfl (hb hby at_36) rfl rfl ?_
        exact kt
      obtain ⟨cq20, kq20, q20a, q20b, q20c⟩ := isOf hZ e19 E_ZERO_OR_MORE
      obtain ⟨_, _, ⟨T20, L20, k20, n20⟩, -, X20, ⟨Lc20, hQ20, l20, y20, z20⟩, st20⟩ := X19.virtualBack hx (y := (⟨"com/example/txq/txq/type/Occurrence", "allowsEmpty", "()Z"⟩ : MethodName)) (z := (⟨"com/example/txq/txq/type/Occurrence", "allowsEmpty", "()Z"⟩ : MethodName)) hown (mvT hZ (hw _ (List.mem_of_getElem? (i := 6) rfl))) (mvT hZ (hw _ (List.mem_of_getElem? (i := 7) rfl))) (notFace_of_selects (args := #[]) (mvT hZ (hw _ (List.mem_of_getElem? (i := 9) rfl)))) (mvT hZ (hw _ (List.mem_of_getElem? (i := 9) rfl))) (mvT hZ (hw _ (List.mem_of_getElem? (i := 8) rfl))) (by decide) (backOf (W := 0) (rm2 l Z a0 hw [] a_ZERO_OR_MORE (1 : Int32) h0 n0 Z0 F_ZERO_OR_MORE_allowsEmpty) hZ (hw _ (List.mem_of_getElem? (i := 10) rfl)) (hw _ (List.mem_of_getElem? (i := 2) rfl)) (by decide) (by decide)) q20a q20c (g := (mkF m 37 #[.val (.int p0), .val (.int (1 : Int32)), .val (.int (1 : Int32)), .val (.ref a_ZERO_OR_MORE), .unset, .unset] [(.ref a_ZERO_OR_MORE)])) rfl (by rw [hml]; rfl) (Steps.refl _) (argsL := []) (rest := []) (lenOf pd_0_1 rfl) rfl (by show 2 * 0 + _ ≤ _; exact Nat.le_of_eq rfl) (hb hby at_37) (fun _ _ => ⟨rfl, e19, (by decide : 0 + 0 ≤ _), (by decide : 0 + 0 ≤ _)⟩)
      dsimp only [Pt.U, Pt.locs, Pt.cells, Pt.slots] at X20 l20 y20 z20 st20 hQ20
      subst l20 y20 z20
      obtain ⟨hv20, N20q, e20⟩ := hQ20
      rw [show ((1 : Int32) &&& 1) = (1 : Int32) from by decide] at hv20
      subst hv20
      have N20 := Fr.app N19 N20q
      refine own_via (A' := T20.setTop (mkF m 40 #[.val (.int p0), .val (.int (1 : Int32)), .val (.int (1 : Int32)), .val (.ref a_ZERO_OR_MORE), .unset, .unset] [(.int (1 : Int32))])) (fun _ kt => st20.trans kt) ?_
      refine own_via (A' := T20.setTop (mkF m 41 #[.val (.int p0), .val (.int (1 : Int32)), .val (.int (1 : Int32)), .val (.ref a_ZERO_OR_MORE), .unset, .unset] [(.int (1 : Int32)), (.int (1 : Int32))])) (fun target kt => ?_) ?_
      · show Steps p.tables e below (T20.setTop (mkF m 40 #[.val (.int p0), .val (.int (1 : Int32)), .val (.int (1 : Int32)), .val (.ref a_ZERO_OR_MORE), .unset, .unset] [(.int (1 : Int32))])) _
        refine XS.iloadN X20.here hx rfl (hb hby at_40) rfl ?_
        exact kt
      refine own_via (A' := T20.setTop (mkF m 44 #[.val (.int p0), .val (.int (1 : Int32)), .val (.int (1 : Int32)), .val (.ref a_ZERO_OR_MORE), .unset, .unset] [])) (fun target kt => XS.icmpNo X20.here hx rfl (hb hby at_41) rfl (teq ((by decide) : (1 : Int32) = (1 : Int32))).2 kt) ?_
      refine own_via (A' := T20.setTop (mkF m 45 #[.val (.int p0), .val (.int (1 : Int32)), .val (.int (1 : Int32)), .val (.ref a_ZERO_OR_MORE), .unset, .unset] [(.ref a_ZERO_OR_MORE)])) (fun target kt => ?_) ?_
      · show Steps p.tables e below (T20.setTop (mkF m 44 #[.val (.int p0), .val (.int (1 : Int32)), .val (.int (1 : Int32)), .val (.ref a_ZERO_OR_MORE), .unset, .unset] [])) _
        refine XS.aloadN X20.here hx rfl (hb hby at_44) rfl rfl ?_
        exact kt
      obtain ⟨cq21, kq21, q21a, q21b, q21c⟩ := isOf hZ e20 E_ZERO_OR_MORE
      obtain ⟨_, _, ⟨T21, L21, k21, n21⟩, -, X21, ⟨Lc21, hQ21, l21, y21, z21⟩, st21⟩ := X20.virtualBack hx (y := (⟨"com/example/txq/txq/type/Occurrence", "allowsMany", "()Z"⟩ : MethodName)) (z := (⟨"com/example/txq/txq/type/Occurrence", "allowsMany", "()Z"⟩ : MethodName)) hown (mvT hZ (hw _ (List.mem_of_getElem? (i := 13) rfl))) (mvT hZ (hw _ (List.mem_of_getElem? (i := 14) rfl))) (notFace_of_selects (args := #[]) (mvT hZ (hw _ (List.mem_of_getElem? (i := 16) rfl)))) (mvT hZ (hw _ (List.mem_of_getElem? (i := 16) rfl))) (mvT hZ (hw _ (List.mem_of_getElem? (i := 15) rfl))) (by decide) (backOf (W := 0) (rm3 l Z a0 hw [] a_ZERO_OR_MORE (1 : Int32) h0 n0 Z0 F_ZERO_OR_MORE_allowsMany) hZ (hw _ (List.mem_of_getElem? (i := 17) rfl)) (hw _ (List.mem_of_getElem? (i := 2) rfl)) (by decide) (by decide)) q21a q21c (g := (mkF m 45 #[.val (.int p0), .val (.int (1 : Int32)), .val (.int (1 : Int32)), .val (.ref a_ZERO_OR_MORE), .unset, .unset] [(.ref a_ZERO_OR_MORE)])) rfl (by rw [hml]; rfl) (Steps.refl _) (argsL := []) (rest := []) (lenOf pd_0_1 rfl) rfl (by show 2 * 0 + _ ≤ _; exact Nat.le_of_eq rfl) (hb hby at_45) (fun _ _ => ⟨rfl, e20, (by decide : 0 + 0 ≤ _), (by decide : 0 + 0 ≤ _)⟩)
      dsimp only [Pt.U, Pt.locs, Pt.cells, Pt.slots] at X21 l21 y21 z21 st21 hQ21
      subst l21 y21 z21
      obtain ⟨hv21, N21q, e21⟩ := hQ21
      rw [show ((1 : Int32) &&& 1) = (1 : Int32) from by decide] at hv21
      subst hv21
      have N21 := Fr.app N20 N21q
      refine own_via (A' := T21.setTop (mkF m 48 #[.val (.int p0), .val (.int (1 : Int32)), .val (.int (1 : Int32)), .val (.ref a_ZERO_OR_MORE), .unset, .unset] [(.int (1 : Int32))])) (fun _ kt => st21.trans kt) ?_
      refine own_via (A' := T21.setTop (mkF m 49 #[.val (.int p0), .val (.int (1 : Int32)), .val (.int (1 : Int32)), .val (.ref a_ZERO_OR_MORE), .unset, .unset] [(.int (1 : Int32)), (.int (1 : Int32))])) (fun target kt => ?_) ?_
      · show Steps p.tables e below (T21.setTop (mkF m 48 #[.val (.int p0), .val (.int (1 : Int32)), .val (.int (1 : Int32)), .val (.ref a_ZERO_OR_MORE), .unset, .unset] [(.int (1 : Int32))])) _
        refine XS.iloadN X21.here hx rfl (hb hby at_48) rfl ?_
        exact kt
      refine own_via (A' := T21.setTop (mkF m 52 #[.val (.int p0), .val (.int (1 : Int32)), .val (.int (1 : Int32)), .val (.ref a_ZERO_OR_MORE), .unset, .unset] [])) (fun target kt => XS.icmpNo X21.here hx rfl (hb hby at_49) rfl (teq ((by decide) : (1 : Int32) = (1 : Int32))).2 kt) ?_
      refine own_via (A' := T21.setTop (mkF m 61 #[.val (.int p0), .val (.int (1 : Int32)), .val (.int (1 : Int32)), .val (.ref a_ZERO_OR_MORE), .val (.int (1 : Int32)), .unset] [(.int (0 : Int32)), (.ref a_ZERO_OR_MORE)])) (fun target kt => ?_) ?_
      · show Steps p.tables e below (T21.setTop (mkF m 52 #[.val (.int p0), .val (.int (1 : Int32)), .val (.int (1 : Int32)), .val (.ref a_ZERO_OR_MORE), .unset, .unset] [])) _
        refine XS.iconst X21.here hx rfl (hb hby at_52) ?_
        show Steps p.tables e below (T21.setTop (mkF m 53 #[.val (.int p0), .val (.int (1 : Int32)), .val (.int (1 : Int32)), .val (.ref a_ZERO_OR_MORE), .unset, .unset] [(.int (1 : Int32))])) _
        refine XS.goto X21.here hx rfl (pc0 := 53) (pc' := 57) rfl (hb hby at_53) (by decide) (by decide) ?_
        show Steps p.tables e below (T21.setTop (mkF m 57 #[.val (.int p0), .val (.int (1 : Int32)), .val (.int (1 : Int32)), .val (.ref a_ZERO_OR_MORE), .unset, .unset] [(.int (1 : Int32))])) _
        refine XS.istore X21.here hx rfl (hb hby at_57) rfl (l' := #[.val (.int p0), .val (.int (1 : Int32)), .val (.int (1 : Int32)), .val (.ref a_ZERO_OR_MORE), .val (.int (1 : Int32)), .unset]) rfl ?_
        show Steps p.tables e below (T21.setTop (mkF m 59 #[.val (.int p0), .val (.int (1 : Int32)), .val (.int (1 : Int32)), .val (.ref a_ZERO_OR_MORE), .val (.int (1 : Int32)), .unset] [])) _
        refine XS.aloadN X21.here hx rfl (hb hby at_59) rfl rfl ?_
        show Steps p.tables e below (T21.setTop (mkF m 60 #[.val (.int p0), .val (.int (1 : Int32)), .val (.int (1 : Int32)), .val (.ref a_ZERO_OR_MORE), .val (.int (1 : Int32)), .unset] [(.ref a_ZERO_OR_MORE)])) _
        refine XS.iconst X21.here hx rfl (hb hby at_60) ?_
        exact kt
      obtain ⟨cq22, kq22, q22a, q22b, q22c⟩ := isOf hZ e21 E_ZERO_OR_MORE
      obtain ⟨_, _, ⟨T22, L22, k22, n22⟩, -, X22, ⟨Lc22, hQ22, l22, y22, z22⟩, st22⟩ := X21.virtualBack hx (y := (⟨"com/example/txq/txq/type/Occurrence", "allows", "(I)Z"⟩ : MethodName)) (z := (⟨"com/example/txq/txq/type/Occurrence", "allows", "(I)Z"⟩ : MethodName)) hown (mvT hZ (hw _ (List.mem_of_getElem? (i := 20) rfl))) (mvT hZ (hw _ (List.mem_of_getElem? (i := 21) rfl))) (notFace_of_selects (args := #[]) (mvT hZ (hw _ (List.mem_of_getElem? (i := 23) rfl)))) (mvT hZ (hw _ (List.mem_of_getElem? (i := 23) rfl))) (mvT hZ (hw _ (List.mem_of_getElem? (i := 22) rfl))) (by decide) (backOf (W := 0) (rm4 l Z a0 hw [] a_ZERO_OR_MORE (0 : Int32) (1 : Int32) (1 : Int32) h0 n0 Z0 F_ZERO_OR_MORE_allowsEmpty F_ZERO_OR_MORE_allowsMany) hZ (hw _ (List.mem_of_getElem? (i := 24) rfl)) (hw _ (List.mem_of_getElem? (i := 2) rfl)) (by decide) (by decide)) q22a q22c (g := (mkF m 61 #[.val (.int p0), .val (.int (1 : Int32)), .val (.int (1 : Int32)), .val (.ref a_ZERO_OR_MORE), .val (.int (1 : Int32)), .unset] [(.int (0 : Int32)), (.ref a_ZERO_OR_MORE)])) rfl (by rw [hml]; rfl) (Steps.refl _) (argsL := [(.int (0 : Int32))]) (rest := []) (lenOf pd_0_2 rfl) rfl (by show 2 * 0 + _ ≤ _; exact Nat.le_of_eq rfl) (hb hby at_61) (fun _ _ => ⟨rfl, e21, (by decide : 0 + 0 ≤ _), (by decide : 0 + 0 ≤ _)⟩)
      dsimp only [Pt.U, Pt.locs, Pt.cells, Pt.slots] at X22 l22 y22 z22 st22 hQ22
      subst l22 y22 z22
      obtain ⟨hv22, N22q, e22⟩ := hQ22
      rw [show own_al (0 : Int32) (1 : Int32) (1 : Int32) = (1 : Int32) from by decide] at hv22
      subst hv22
      have N22 := Fr.app N21 N22q
      refine own_via (A' := T22.setTop (mkF m 64 #[.val (.int p0), .val (.int (1 : Int32)), .val (.int (1 : Int32)), .val (.ref a_ZERO_OR_MORE), .val (.int (1 : Int32)), .unset] [(.int (1 : Int32))])) (fun _ kt => st22.trans kt) ?_
      refine own_via (A' := T22.setTop (mkF m 65 #[.val (.int p0), .val (.int (1 : Int32)), .val (.int (1 : Int32)), .val (.ref a_ZERO_OR_MORE), .val (.int (1 : Int32)), .unset] [(.int (1 : Int32)), (.int (1 : Int32))])) (fun target kt => ?_) ?_
      · show Steps p.tables e below (T22.setTop (mkF m 64 #[.val (.int p0), .val (.int (1 : Int32)), .val (.int (1 : Int32)), .val (.ref a_ZERO_OR_MORE), .val (.int (1 : Int32)), .unset] [(.int (1 : Int32))])) _
        refine XS.iloadN X22.here hx rfl (hb hby at_64) rfl ?_
        exact kt
      refine own_via (A' := T22.setTop (mkF m 68 #[.val (.int p0), .val (.int (1 : Int32)), .val (.int (1 : Int32)), .val (.ref a_ZERO_OR_MORE), .val (.int (1 : Int32)), .unset] [])) (fun target kt => XS.icmpNo X22.here hx rfl (hb hby at_65) rfl (teq ((by decide) : (1 : Int32) = (1 : Int32))).2 kt) ?_
      refine own_via (A' := T22.setTop (mkF m 70 #[.val (.int p0), .val (.int (1 : Int32)), .val (.int (1 : Int32)), .val (.ref a_ZERO_OR_MORE), .val (.int (1 : Int32)), .unset] [(.int (1 : Int32)), (.ref a_ZERO_OR_MORE)])) (fun target kt => ?_) ?_
      · show Steps p.tables e below (T22.setTop (mkF m 68 #[.val (.int p0), .val (.int (1 : Int32)), .val (.int (1 : Int32)), .val (.ref a_ZERO_OR_MORE), .val (.int (1 : Int32)), .unset] [])) _
        refine XS.aloadN X22.here hx rfl (hb hby at_68) rfl rfl ?_
        show Steps p.tables e below (T22.setTop (mkF m 69 #[.val (.int p0), .val (.int (1 : Int32)), .val (.int (1 : Int32)), .val (.ref a_ZERO_OR_MORE), .val (.int (1 : Int32)), .unset] [(.ref a_ZERO_OR_MORE)])) _
        refine XS.iconst X22.here hx rfl (hb hby at_69) ?_
        exact kt
      obtain ⟨cq23, kq23, q23a, q23b, q23c⟩ := isOf hZ e22 E_ZERO_OR_MORE
      obtain ⟨_, _, ⟨T23, L23, k23, n23⟩, -, X23, ⟨Lc23, hQ23, l23, y23, z23⟩, st23⟩ := X22.virtualBack hx (y := (⟨"com/example/txq/txq/type/Occurrence", "allows", "(I)Z"⟩ : MethodName)) (z := (⟨"com/example/txq/txq/type/Occurrence", "allows", "(I)Z"⟩ : MethodName)) hown (mvT hZ (hw _ (List.mem_of_getElem? (i := 20) rfl))) (mvT hZ (hw _ (List.mem_of_getElem? (i := 21) rfl))) (notFace_of_selects (args := #[]) (mvT hZ (hw _ (List.mem_of_getElem? (i := 23) rfl)))) (mvT hZ (hw _ (List.mem_of_getElem? (i := 23) rfl))) (mvT hZ (hw _ (List.mem_of_getElem? (i := 22) rfl))) (by decide) (backOf (W := 0) (rm4 l Z a0 hw [] a_ZERO_OR_MORE (1 : Int32) (1 : Int32) (1 : Int32) h0 n0 Z0 F_ZERO_OR_MORE_allowsEmpty F_ZERO_OR_MORE_allowsMany) hZ (hw _ (List.mem_of_getElem? (i := 24) rfl)) (hw _ (List.mem_of_getElem? (i := 2) rfl)) (by decide) (by decide)) q23a q23c (g := (mkF m 70 #[.val (.int p0), .val (.int (1 : Int32)), .val (.int (1 : Int32)), .val (.ref a_ZERO_OR_MORE), .val (.int (1 : Int32)), .unset] [(.int (1 : Int32)), (.ref a_ZERO_OR_MORE)])) rfl (by rw [hml]; rfl) (Steps.refl _) (argsL := [(.int (1 : Int32))]) (rest := []) (lenOf pd_0_2 rfl) rfl (by show 2 * 0 + _ ≤ _; exact Nat.le_of_eq rfl) (hb hby at_70) (fun _ _ => ⟨rfl, e22, (by decide : 0 + 0 ≤ _), (by decide : 0 + 0 ≤ _)⟩)
      dsimp only [Pt.U, Pt.locs, Pt.cells, Pt.slots] at X23 l23 y23 z23 st23 hQ23
      subst l23 y23 z23
      obtain ⟨hv23, N23q, e23⟩ := hQ23
      rw [show own_al (1 : Int32) (1 : Int32) (1 : Int32) = (1 : Int32) from by decide] at hv23
      subst hv23
      have N23 := Fr.app N22 N23q
      refine own_via (A' := T23.setTop (mkF m 73 #[.val (.int p0), .val (.int (1 : Int32)), .val (.int (1 : Int32)), .val (.ref a_ZERO_OR_MORE), .val (.int (1 : Int32)), .unset] [(.int (1 : Int32))])) (fun _ kt => st23.trans kt) ?_
      refine own_via (A' := T23.setTop (mkF m 76 #[.val (.int p0), .val (.int (1 : Int32)), .val (.int (1 : Int32)), .val (.ref a_ZERO_OR_MORE), .val (.int (1 : Int32)), .unset] [])) (fun target kt => XS.ifNo X23.here hx rfl (hb hby at_73) rfl ((if0 _ _).trans (feq ((by decide) : ¬ ((1 : Int32) = (0 : Int32)))).1) kt) ?_
      refine own_via (A' := T23.setTop (mkF m 78 #[.val (.int p0), .val (.int (1 : Int32)), .val (.int (1 : Int32)), .val (.ref a_ZERO_OR_MORE), .val (.int (1 : Int32)), .unset] [(.int (2 : Int32)), (.ref a_ZERO_OR_MORE)])) (fun target kt => ?_) ?_
      · show Steps p.tables e below (T23.setTop (mkF m 76 #[.val (.int p0), .val (.int (1 : Int32)), .val (.int (1 : Int32)), .val (.ref a_ZERO_OR_MORE), .val (.int (1 : Int32)), .unset] [])) _
        refine XS.aloadN X23.here hx rfl (hb hby at_76) rfl rfl ?_
        show Steps p.tables e below (T23.setTop (mkF m 77 #[.val (.int p0), .val (.int (1 : Int32)), .val (.int (1 : Int32)), .val (.ref a_ZERO_OR_MORE), .val (.int (1 : Int32)), .unset] [(.ref a_ZERO_OR_MORE)])) _
        refine XS.iconst X23.here hx rfl (hb hby at_77) ?_
        exact kt
      obtain ⟨cq24, kq24, q24a, q24b, q24c⟩ := isOf hZ e23 E_ZERO_OR_MORE
      obtain ⟨_, _, ⟨T24, L24, k24, n24⟩, -, X24, ⟨Lc24, hQ24, l24, y24, z24⟩, st24⟩ := X23.virtualBack hx (y := (⟨"com/example/txq/txq/type/Occurrence", "allows", "(I)Z"⟩ : MethodName)) (z := (⟨"com/example/txq/txq/type/Occurrence", "allows", "(I)Z"⟩ : MethodName)) hown (mvT hZ (hw _ (List.mem_of_getElem? (i := 20) rfl))) (mvT hZ (hw _ (List.mem_of_getElem? (i := 21) rfl))) (notFace_of_selects (args := #[]) (mvT hZ (hw _ (List.mem_of_getElem? (i := 23) rfl)))) (mvT hZ (hw _ (List.mem_of_getElem? (i := 23) rfl))) (mvT hZ (hw _ (List.mem_of_getElem? (i := 22) rfl))) (by decide) (backOf (W := 0) (rm4 l Z a0 hw [] a_ZERO_OR_MORE (2 : Int32) (1 : Int32) (1 : Int32) h0 n0 Z0 F_ZERO_OR_MORE_allowsEmpty F_ZERO_OR_MORE_allowsMany) hZ (hw _ (List.mem_of_getElem? (i := 24) rfl)) (hw _ (List.mem_of_getElem? (i := 2) rfl)) (by decide) (by decide)) q24a q24c (g := (mkF m 78 #[.val (.int p0), .val (.int (1 : Int32)), .val (.int (1 : Int32)), .val (.ref a_ZERO_OR_MORE), .val (.int (1 : Int32)), .unset] [(.int (2 : Int32)), (.ref a_ZERO_OR_MORE)])) rfl (by rw [hml]; rfl) (Steps.refl _) (argsL := [(.int (2 : Int32))]) (rest := []) (lenOf pd_0_2 rfl) rfl (by show 2 * 0 + _ ≤ _; exact Nat.le_of_eq rfl) (hb hby at_78) (fun _ _ => ⟨rfl, e23, (by decide : 0 + 0 ≤ _), (by decide : 0 + 0 ≤ _)⟩)
      dsimp only [Pt.U, Pt.locs, Pt.cells, Pt.slots] at X24 l24 y24 z24 st24 hQ24
      subst l24 y24 z24
      obtain ⟨hv24, N24q, e24⟩ := hQ24
      rw [show own_al (2 : Int32) (1 : Int32) (1 : Int32) = (1 : Int32) from by decide] at hv24
      subst hv24
      have N24 := Fr.app N23 N24q
      refine own_via (A' := T24.setTop (mkF m 81 #[.val (.int p0), .val (.int (1 : Int32)), .val (.int (1 : Int32)), .val (.ref a_ZERO_OR_MORE), .val (.int (1 : Int32)), .unset] [(.int (1 : Int32))])) (fun _ kt => st24.trans kt) ?_
      refine own_via (A' := T24.setTop (mkF m 82 #[.val (.int p0), .val (.int (1 : Int32)), .val (.int (1 : Int32)), .val (.ref a_ZERO_OR_MORE), .val (.int (1 : Int32)), .unset] [(.int (1 : Int32)), (.int (1 : Int32))])) (fun target kt => ?_) ?_
      · show Steps p.tables e below (T24.setTop (mkF m 81 #[.val (.int p0), .val (.int (1 : Int32)), .val (.int (1 : Int32)), .val (.ref a_ZERO_OR_MORE), .val (.int (1 : Int32)), .unset] [(.int (1 : Int32))])) _
        refine XS.iloadN X24.here hx rfl (hb hby at_81) rfl ?_
        exact kt
      refine own_via (A' := T24.setTop (mkF m 85 #[.val (.int p0), .val (.int (1 : Int32)), .val (.int (1 : Int32)), .val (.ref a_ZERO_OR_MORE), .val (.int (1 : Int32)), .unset] [])) (fun target kt => XS.icmpNo X24.here hx rfl (hb hby at_82) rfl (teq ((by decide) : (1 : Int32) = (1 : Int32))).2 kt) ?_
      refine own_via (A' := T24.setTop (mkF m 94 #[.val (.int p0), .val (.int (1 : Int32)), .val (.int (1 : Int32)), .val (.ref a_ZERO_OR_MORE), .val (.int (1 : Int32)), .val (.int (1 : Int32))] [(.int (1 : Int32))])) (fun target kt => ?_) ?_
      · show Steps p.tables e below (T24.setTop (mkF m 85 #[.val (.int p0), .val (.int (1 : Int32)), .val (.int (1 : Int32)), .val (.ref a_ZERO_OR_MORE), .val (.int (1 : Int32)), .unset] [])) _
        refine XS.iconst X24.here hx rfl (hb hby at_85) ?_
        show Steps p.tables e below (T24.setTop (mkF m 86 #[.val (.int p0), .val (.int (1 : Int32)), .val (.int (1 : Int32)), .val (.ref a_ZERO_OR_MORE), .val (.int (1 : Int32)), .unset] [(.int (1 : Int32))])) _
        refine XS.goto X24.here hx rfl (pc0 := 86) (pc' := 90) rfl (hb hby at_86) (by decide) (by decide) ?_
        show Steps p.tables e below (T24.setTop (mkF m 90 #[.val (.int p0), .val (.int (1 : Int32)), .val (.int (1 : Int32)), .val (.ref a_ZERO_OR_MORE), .val (.int (1 : Int32)), .unset] [(.int (1 : Int32))])) _
        refine XS.istore X24.here hx rfl (hb hby at_90) rfl (l' := #[.val (.int p0), .val (.int (1 : Int32)), .val (.int (1 : Int32)), .val (.ref a_ZERO_OR_MORE), .val (.int (1 : Int32)), .val (.int (1 : Int32))]) rfl ?_
        show Steps p.tables e below (T24.setTop (mkF m 92 #[.val (.int p0), .val (.int (1 : Int32)), .val (.int (1 : Int32)), .val (.ref a_ZERO_OR_MORE), .val (.int (1 : Int32)), .val (.int (1 : Int32))] [])) _
        refine XS.iload X24.here hx rfl (hb hby at_92) rfl ?_
        exact kt
      refine own_via (A' := T24.setTop (mkF m 97 #[.val (.int p0), .val (.int (1 : Int32)), .val (.int (1 : Int32)), .val (.ref a_ZERO_OR_MORE), .val (.int (1 : Int32)), .val (.int (1 : Int32))] [])) (fun target kt => XS.ifNo X24.here hx rfl (hb hby at_94) rfl ((if0 _ _).trans (feq ((by decide) : ¬ ((1 : Int32) = (0 : Int32)))).1) kt) ?_
      refine own_via (A' := T24.setTop (mkF m 99 #[.val (.int p0), .val (.int (1 : Int32)), .val (.int (1 : Int32)), .val (.ref a_ZERO_OR_MORE), .val (.int (1 : Int32)), .val (.int (1 : Int32))] [(.int (1 : Int32))])) (fun target kt => ?_) ?_
      · show Steps p.tables e below (T24.setTop (mkF m 97 #[.val (.int p0), .val (.int (1 : Int32)), .val (.int (1 : Int32)), .val (.ref a_ZERO_OR_MORE), .val (.int (1 : Int32)), .val (.int (1 : Int32))] [])) _
        refine XS.iload X24.here hx rfl (hb hby at_97) rfl ?_
        exact kt
      refine own_via (A' := T24.setTop (mkF m 102 #[.val (.int p0), .val (.int (1 : Int32)), .val (.int (1 : Int32)), .val (.ref a_ZERO_OR_MORE), .val (.int (1 : Int32)), .val (.int (1 : Int32))] [])) (fun target kt => XS.ifNo X24.here hx rfl (hb hby at_99) rfl ((if0 _ _).trans (feq ((by decide) : ¬ ((1 : Int32) = (0 : Int32)))).1) kt) ?_
      refine own_via (A' := T24.setTop (mkF m 107 #[.val (.int p0), .val (.int (1 : Int32)), .val (.int (1 : Int32)), .val (.ref a_ZERO_OR_MORE), .val (.int (1 : Int32)), .val (.int (1 : Int32))] [(.int (1 : Int32))])) (fun target kt => ?_) ?_
      · show Steps p.tables e below (T24.setTop (mkF m 102 #[.val (.int p0), .val (.int (1 : Int32)), .val (.int (1 : Int32)), .val (.ref a_ZERO_OR_MORE), .val (.int (1 : Int32)), .val (.int (1 : Int32))] [])) _
        refine XS.iconst X24.here hx rfl (hb hby at_102) ?_
        show Steps p.tables e below (T24.setTop (mkF m 103 #[.val (.int p0), .val (.int (1 : Int32)), .val (.int (1 : Int32)), .val (.ref a_ZERO_OR_MORE), .val (.int (1 : Int32)), .val (.int (1 : Int32))] [(.int (1 : Int32))])) _
        refine XS.goto X24.here hx rfl (pc0 := 103) (pc' := 107) rfl (hb hby at_103) (by decide) (by decide) ?_
        exact kt
      exact own_retN X24 Bd.notSynchronized hx (t := .boolean) Bd.returns (by simp) (hb hby at_107) (show Q0 Z p0 a_EXACTLY_ONE a_ZERO_OR_MORE a_ONE_OR_MORE a_ZERO_OR_ONE h0 n0 _ _ _ from ⟨rfl, N24⟩) (by decide) (by decide)
set_option maxRecDepth 65536 in
set_option maxHeartbeats 40000000 in
theorem comes_1 {Post : Tables → Env → Array Value → State → Outcome → State → Prop} (hpost : ∀ tb e args s v u, (limb_1_1.after args s (.returned v) u = true ∧ limb_1_2.after args s (.returned v) u = true ∧ True) → FrameEnd s (.returned v) u (Jvm.fieldLocs frame_1_writes args s ++ Jvm.arrayLocs frame_1_arrays args s ++ Jvm.staticLocs frame_1_statics s) 0 0 → Post tb e args s (.returned v) u) :
    ArmFor flags0 classFile x code maxLocals ret World_1 tables_1 room_1 Calls_1 rest_1 Pre_1 Post := by
  intro l hfl _ _ p e ha hc hk s m args below hf hA hF happ hP
  obtain ⟨hcalls, hrest, hpre⟩ := hP
  obtain ⟨-, -, -, hnamed, -, -, -, hat⟩ := (Spec.applies_iff hf).mp happ
  obtain ⟨hg, hn⟩ := and_e (Cond.before_iff.mp (show (Jvm.Cond.and given_1 narrow_1).before args s = true from hpre))
  obtain ⟨h1, g0⟩ := and_e hg
  obtain ⟨w0, rfl⟩ : ∃ w0 : Value, args = #[w0] := by
    have hs : args.size = 1 := by simpa [Cond.value, given_1] using h1
    obtain ⟨L⟩ := args
    match L, hs with
    | [w0], _ => exact ⟨w0, rfl⟩
  have hw := fun d (hd : d ∈ tables_1) => atoms_spec (ws := Jvm.Cond.code x code maxLocals ret :: tables_1) hat d (List.mem_cons_of_mem _ hd)
  obtain ⟨i0, ei0⟩ := is_v g0
  obtain rfl : w0 = (.int i0) := Option.some.inj ei0
  obtain ⟨c0, t0⟩ := and_e hn
  obtain ⟨c1, t1⟩ := and_e t0
  obtain ⟨c2, t2⟩ := and_e t1
  obtain ⟨c3, t3⟩ := and_e t2
  obtain ⟨c4, t4⟩ := and_e t3
  obtain ⟨c5, t5⟩ := and_e t4
  obtain ⟨c6, t6⟩ := and_e t5
  obtain ⟨c7, t7⟩ := and_e t6
  obtain ⟨c8, t8⟩ := and_e t7
  obtain ⟨c9, t9⟩ := and_e t8
  obtain ⟨c10, t10⟩ := and_e t9
  obtain ⟨a_EXACTLY_ONE, e_EXACTLY_ONE⟩ := exa_v c0
  have S_EXACTLY_ONE : Sta s s.heap "com/example/txq/txq/type/Occurrence" "EXACTLY_ONE" "Lcom/example/txq/txq/type/Occurrence;" (.ref a_EXACTLY_ONE) := Sta.start e_EXACTLY_ONE (Or.inr ⟨(hw _ (List.mem_of_getElem? (i := 2) rfl)), (hw _ (List.mem_of_getElem? (i := 5) rfl))⟩)
  have E_EXACTLY_ONE : Exa s s.heap a_EXACTLY_ONE "com/example/txq/txq/type/Occurrence" := Exa.start e_EXACTLY_ONE c0
  obtain ⟨a_ZERO_OR_MORE, e_ZERO_OR_MORE⟩ := exa_v c3
  have S_ZERO_OR_MORE : Sta s s.heap "com/example/txq/txq/type/Occurrence" "ZERO_OR_MORE" "Lcom/example/txq/txq/type/Occurrence;" (.ref a_ZERO_OR_MORE) := Sta.start e_ZERO_OR_MORE (Or.inr ⟨(hw _ (List.mem_of_getElem? (i := 2) rfl)), (hw _ (List.mem_of_getElem? (i := 26) rfl))⟩)
  have E_ZERO_OR_MORE : Exa s s.heap a_ZERO_OR_MORE "com/example/txq/txq/type/Occurrence" := Exa.start e_ZERO_OR_MORE c3
  obtain ⟨a_ONE_OR_MORE, e_ONE_OR_MORE⟩ := exa_v c6
  have S_ONE_OR_MORE : Sta s s.heap "com/example/txq/txq/type/Occurrence" "ONE_OR_MORE" "Lcom/example/txq/txq/type/Occurrence;" (.ref a_ONE_OR_MORE) := Sta.start e_ONE_OR_MORE (Or.inr ⟨(hw _ (List.mem_of_getElem? (i := 2) rfl)), (hw _ (List.mem_of_getElem? (i := 28) rfl))⟩)
  have E_ONE_OR_MORE : Exa s s.heap a_ONE_OR_MORE "com/example/txq/txq/type/Occurrence" := Exa.start e_ONE_OR_MORE c6
  obtain ⟨a_ZERO_OR_ONE, e_ZERO_OR_ONE⟩ := exa_v c9
  have S_ZERO_OR_ONE : Sta s s.heap "com/example/txq/txq/type/Occurrence" "ZERO_OR_ONE" "Lcom/example/txq/txq/type/Occurrence;" (.ref a_ZERO_OR_ONE) := Sta.start e_ZERO_OR_ONE (Or.inr ⟨(hw _ (List.mem_of_getElem? (i := 2) rfl)), (hw _ (List.mem_of_getElem? (i := 30) rfl))⟩)
  have E_ZERO_OR_ONE : Exa s s.heap a_ZERO_OR_ONE "com/example/txq/txq/type/Occurrence" := Exa.start e_ZERO_OR_ONE c9
  have F_EXACTLY_ONE_allowsEmpty : Fld s s.heap a_EXACTLY_ONE "com/example/txq/txq/type/Occurrence" "allowsEmpty" "Z" (.int (0 : Int32)) := own_fld e_EXACTLY_ONE c1
  have F_EXACTLY_ONE_allowsMany : Fld s s.heap a_EXACTLY_ONE "com/example/txq/txq/type/Occurrence" "allowsMany" "Z" (.int (0 : Int32)) := own_fld e_EXACTLY_ONE c2
  have F_ZERO_OR_MORE_allowsEmpty : Fld s s.heap a_ZERO_OR_MORE "com/example/txq/txq/type/Occurrence" "allowsEmpty" "Z" (.int (1 : Int32)) := own_fld e_ZERO_OR_MORE c4
  have F_ZERO_OR_MORE_allowsMany : Fld s s.heap a_ZERO_OR_MORE "com/example/txq/txq/type/Occurrence" "allowsMany" "Z" (.int (1 : Int32)) := own_fld e_ZERO_OR_MORE c5
  have F_ONE_OR_MORE_allowsEmpty : Fld s s.heap a_ONE_OR_MORE "com/example/txq/txq/type/Occurrence" "allowsEmpty" "Z" (.int (0 : Int32)) := own_fld e_ONE_OR_MORE c7
  have F_ONE_OR_MORE_allowsMany : Fld s s.heap a_ONE_OR_MORE "com/example/txq/txq/type/Occurrence" "allowsMany" "Z" (.int (1 : Int32)) := own_fld e_ONE_OR_MORE c8
  have F_ZERO_OR_ONE_allowsEmpty : Fld s s.heap a_ZERO_OR_ONE "com/example/txq/txq/type/Occurrence" "allowsEmpty" "Z" (.int (1 : Int32)) := own_fld e_ZERO_OR_ONE c10
  have F_ZERO_OR_ONE_allowsMany : Fld s s.heap a_ZERO_OR_ONE "com/example/txq/txq/type/Occurrence" "allowsMany" "Z" (.int (0 : Int32)) := own_fld e_ZERO_OR_ONE t10
  obtain ⟨n, o, h1, h2, h3, _, L, rfl, ⟨rfl, N⟩, hq⟩ := rm0 l s _ hw tables_1 i0 a_EXACTLY_ONE a_ZERO_OR_MORE a_ONE_OR_MORE a_ZERO_OR_ONE s.heap s.heap.size (Nat.le_refl _) S_EXACTLY_ONE S_ZERO_OR_MORE S_ONE_OR_MORE S_ZERO_OR_ONE E_EXACTLY_ONE E_ZERO_OR_MORE E_ONE_OR_MORE E_ZERO_OR_ONE F_EXACTLY_ONE_allowsEmpty F_EXACTLY_ONE_allowsMany F_ZERO_OR_MORE_allowsEmpty F_ZERO_OR_MORE_allowsMany F_ONE_OR_MORE_allowsEmpty F_ONE_OR_MORE_allowsMany F_ZERO_OR_ONE_allowsEmpty F_ZERO_OR_ONE_allowsMany p e ha hc hk s m _ below hf ((Spec.applies_iff_loose hf).mp happ).1 ⟨rfl, State.Warmed39.refl s, rfl⟩ trivial
  refine ⟨n, _, h1, h2, h3, hpost _ _ _ _ _ _ ⟨Cond.after_iff.mpr rfl, Cond.after_iff.mpr (eq_i res_at (Term.int_eval (1)) rfl), trivial⟩ ⟨hq.1, hq.2.1, (hq.2.2.sift fun y hy => Or.inr (N y hy)).mono (by decide) (by decide)⟩⟩
theorem main_1_1 : Claimed_1_1 := comes_1 fun _ _ _ _ _ _ h hF => ⟨h.1, hF⟩
theorem main_1_2 : Claimed_1_2 := comes_1 fun _ _ _ _ _ _ h hF => ⟨h.2.1, hF⟩
end Jvm.Pilot.@@N@@
namespace Jvm.Pilot.@@N@@
open Jvm Jvm.ClassFile Sem Op Lib Jvm.Free Jvm.Stand Jvm.Pilot.@@N@@.Jvm.D
/-! MADE BY PROGRAM (witnessworld.py) out of the Statement's table words and the real class files: 12 classes; the members and pool entries that the words name. The judged class is class 1, her method 1. -/
namespace start1
open Jvm.ClassFile
def u (s : String) : CpInfo := .utf8 (stringToUtf16 s)
/-- a pool by its gaps: so many unusable entries, then the entry; so many at the end -/
def gap : Nat → List CpInfo → List CpInfo
  | 0, r => r
  | n + 1, r => .unusable :: gap n r
def poolList (es : List (Nat × CpInfo)) (last : Nat) : List CpInfo := es.foldr (fun e r => gap e.1 (e.2 :: r)) (gap last [])
def pool (es : List (Nat × CpInfo)) (last : Nat) : Array CpInfo := ⟨poolList es last⟩
def fileOf (pool : Array CpInfo) (this : Nat) (attrs : Array Attribute := #[]) (ms : Array MethodInfo := #[]) (fl : Nat := 33) (sup : Nat := 0) (ifs : Array Nat := #[]) (fds : Array FieldInfo := #[]) : ClassFile where
  minorVersion := 0
  majorVersion := 65
  constantPool := pool
  accessFlags := fl
  thisClass := this
  superClass := sup
  interfaces := ifs
  fields := fds
  methods := ms
  attributes := attrs
def plain (name : String) (sup : Option ClassId) : Class where
  name := name
  kind := .ordinary
  loader := none
  accessFlags := 33
  super := sup
  interfaces := #[]
  cf := none
  fields := #[]
  methods := #[]
  instanceTypes := #[]
  staticTypes := #[]
  resolved := #[]
  callSites := []
  init := .initialized
  statics := none
  mirror := none

def pool0 : Array CpInfo := pool [(5, u "<init>"), (0, u "()V"), (1, .class_ 10), (1, u "java/lang/Object")] 113

def k0m0 : Method := { name := "<init>", desc := "()V", sig := { parameters := [], returnType := none }, accessFlags := 1, code := none }
/-- java/lang/Object -/
def k0 : Class := { plain "java/lang/Object" none with
  accessFlags := 33
  interfaces := #[]
  cf := some (fileOf pool0 8 #[] #[{ accessFlags := 1, nameIndex := 5, descriptorIndex := 6, attributes := #[] }] 33 0 #[] #[])
  fields := #[]
  methods := #[k0m0]
  instanceTypes := #[]
  staticTypes := #[]
  resolved := Array.replicate 124 none
  statics := none }

def pool1 : Array CpInfo := pool [(2, .class_ 4), (1, u "java/lang/Object"), (0, u "<init>"), (0, u "()V"), (0, .methodref 8 9), (0, .class_ 10), (0, .nameAndType 11 12), (0, u "com/example/txq/txq/type/Occurrence"), (0, u "of"), (0, u "(ZZ)Lcom/example/txq/txq/type/Occurrence;"), (0, .methodref 8 14), (0, .nameAndType 15 16), (0, u "allowsEmpty"), (0, u "()Z"), (0, .methodref 8 18), (0, .nameAndType 19 16), (0, u "allowsMany"), (0, .methodref 8 21), (0, .nameAndType 22 23), (0, u "allows"), (0, u "(I)Z"), (0, .class_ 25), (0, u "com/example/txq/txq/type/OccurrenceOfPinLaw"), (2, u "law")] 3

def k1m0 : Method := { name := "<init>", desc := "()V", sig := { parameters := [], returnType := none }, accessFlags := 1, code := none }
def k1c1 : Code := { maxStack := 2, maxLocals := 6, code := code, exceptionTable := #[], attributes := #[] }
def k1m1 : Method := { name := "law", desc := "(I)Z", sig := { parameters := [.int], returnType := some .boolean }, accessFlags := 9, code := some k1c1 }
/-- com/example/txq/txq/type/OccurrenceOfPinLaw -/
def k1 : Class := { plain "com/example/txq/txq/type/OccurrenceOfPinLaw" (some 0) with
  accessFlags := 49
  interfaces := #[]
  cf := some (fileOf pool1 24 #[] #[{ accessFlags := 1, nameIndex := 5, descriptorIndex := 6, attributes := #[] }, { accessFlags := 9, nameIndex := 28, descriptorIndex := 23, attributes := #[] }] 49 2 #[] #[])
  fields := #[]
  methods := #[k1m0, k1m1]
  instanceTypes := #[]
  staticTypes := #[]
  resolved := Array.replicate 32 none
  statics := none }

def pool2 : Array CpInfo := pool [(1, .class_ 2), (0, u "java/lang/constant/Constable"), (0, .class_ 4), (0, u "java/lang/Object")] 6

/-- java/lang/constant/Constable -/
def k2 : Class := { plain "java/lang/constant/Constable" (some 0) with
  accessFlags := 1537
  interfaces := #[]
  cf := some (fileOf pool2 1 #[] #[] 1537 3 #[] #[])
  fields := #[]
  methods := #[]
  instanceTypes := #[]
  staticTypes := #[]
  resolved := Array.replicate 11 none
  statics := none }

def pool3 : Array CpInfo := pool [(1, .class_ 2), (0, u "java/lang/Comparable"), (0, .class_ 4), (0, u "java/lang/Object")] 7

/-- java/lang/Comparable -/
def k3 : Class := { plain "java/lang/Comparable" (some 0) with
  accessFlags := 1537
  interfaces := #[]
  cf := some (fileOf pool3 1 #[] #[] 1537 3 #[] #[])
  fields := #[]
  methods := #[]
  instanceTypes := #[]
  staticTypes := #[]
  resolved := Array.replicate 12 none
  statics := none }

def pool4 : Array CpInfo := pool [(1, .class_ 2), (0, u "java/io/Serializable"), (0, .class_ 4), (0, u "java/lang/Object")] 2

/-- java/io/Serializable -/
def k4 : Class := { plain "java/io/Serializable" (some 0) with
  accessFlags := 1537
  interfaces := #[]
  cf := some (fileOf pool4 1 #[] #[] 1537 3 #[] #[])
  fields := #[]
  methods := #[]
  instanceTypes := #[]
  staticTypes := #[]
  resolved := Array.replicate 7 none
  statics := none }

def pool5 : Array CpInfo := pool [(2, .class_ 4), (1, u "java/lang/Enum"), (0, u "name"), (0, u "Ljava/lang/String;"), (2, u "ordinal"), (0, u "I"), (1, .class_ 14), (1, u "java/lang/Object"), (4, u "hash"), (86, .class_ 108), (1, u "java/lang/Enum$EnumDesc"), (2, .class_ 112), (0, u "java/lang/constant/Constable"), (0, .class_ 114), (0, u "java/lang/Comparable"), (0, .class_ 116), (0, u "java/io/Serializable")] 87

/-- java/lang/Enum -/
def k5 : Class := { plain "java/lang/Enum" (some 0) with
  accessFlags := 1057
  interfaces := #[2, 3, 4]
  cf := some (fileOf pool5 2 #[.nestMembers #[106]] #[] 1057 12 #[111, 113, 115] #[{ accessFlags := 18, nameIndex := 5, descriptorIndex := 6, attributes := #[] }, { accessFlags := 18, nameIndex := 9, descriptorIndex := 10, attributes := #[] }, { accessFlags := 2, nameIndex := 19, descriptorIndex := 10, attributes := #[] }])
  fields := #[{ name := "name", type := (.object "java/lang/String"), accessFlags := 18, slot := 0, constantValue := 0 }, { name := "ordinal", type := .int, accessFlags := 18, slot := 1, constantValue := 0 }, { name := "hash", type := .int, accessFlags := 2, slot := 2, constantValue := 0 }]
  methods := #[]
  instanceTypes := #[(.object "java/lang/String"), .int, .int]
  staticTypes := #[]
  resolved := Array.replicate 204 none
  statics := none }

def pool6 : Array CpInfo := pool [(1, .class_ 2), (0, u "com/example/txq/txq/type/Occurrence"), (0, .fieldref 1 4), (0, .nameAndType 5 6), (0, u "EXACTLY_ONE"), (0, u "Lcom/example/txq/txq/type/Occurrence;"), (0, .fieldref 1 8), (0, .nameAndType 9 6), (0, u "ZERO_OR_ONE"), (0, .fieldref 1 11), (0, .nameAndType 12 6), (0, u "ONE_OR_MORE"), (0, .fieldref 1 14), (0, .nameAndType 15 6), (0, u "ZERO_OR_MORE"), (2, u "$VALUES"), (0, u "[Lcom/example/txq/txq/type/Occurrence;"), (6, .class_ 28), (1, u "java/lang/Enum"), (8, u "indicator"), (0, u "Ljava/lang/String;"), (0, .fieldref 1 40), (0, .nameAndType 41 42), (0, u "allowsEmpty"), (0, u "Z"), (0, .fieldref 1 44), (0, .nameAndType 45 42), (0, u "allowsMany"), (12, u "()Z"), (2, u "of"), (0, u "(ZZ)Lcom/example/txq/txq/type/Occurrence;"), (29, u "allows"), (0, u "(I)Z")] 11

def k6c0 : Code := { maxStack := 1, maxLocals := 2, code := prog_187_method_4_code, exceptionTable := #[], attributes := #[] }
def k6m0 : Method := { name := "of", desc := "(ZZ)Lcom/example/txq/txq/type/Occurrence;", sig := { parameters := [.boolean, .boolean], returnType := some (.object "com/example/txq/txq/type/Occurrence") }, accessFlags := 9, code := some k6c0 }
def k6c1 : Code := { maxStack := 1, maxLocals := 1, code := prog_187_method_7_code, exceptionTable := #[], attributes := #[] }
def k6m1 : Method := { name := "allowsEmpty", desc := "()Z", sig := { parameters := [], returnType := some .boolean }, accessFlags := 1, code := some k6c1 }
def k6c2 : Code := { maxStack := 1, maxLocals := 1, code := prog_187_method_8_code, exceptionTable := #[], attributes := #[] }
def k6m2 : Method := { name := "allowsMany", desc := "()Z", sig := { parameters := [], returnType := some .boolean }, accessFlags := 1, code := some k6c2 }
def k6c3 : Code := { maxStack := 2, maxLocals := 2, code := prog_187_method_9_code, exceptionTable := #[], attributes := #[] }
def k6m3 : Method := { name := "allows", desc := "(I)Z", sig := { parameters := [.int], returnType := some .boolean }, accessFlags := 1, code := some k6c3 }
/-- com/example/txq/txq/type/Occurrence -/
def k6 : Class := { plain "com/example/txq/txq/type/Occurrence" (some 5) with
  accessFlags := 16433
  interfaces := #[]
  cf := some (fileOf pool6 1 #[] #[{ accessFlags := 9, nameIndex := 61, descriptorIndex := 62, attributes := #[] }, { accessFlags := 1, nameIndex := 41, descriptorIndex := 58, attributes := #[] }, { accessFlags := 1, nameIndex := 45, descriptorIndex := 58, attributes := #[] }, { accessFlags := 1, nameIndex := 92, descriptorIndex := 93, attributes := #[] }] 16433 26 #[] #[{ accessFlags := 16409, nameIndex := 5, descriptorIndex := 6, attributes := #[] }, { accessFlags := 16409, nameIndex := 9, descriptorIndex := 6, attributes := #[] }, { accessFlags := 16409, nameIndex := 12, descriptorIndex := 6, attributes := #[] }, { accessFlags := 16409, nameIndex := 15, descriptorIndex := 6, attributes := #[] }, { accessFlags := 18, nameIndex := 37, descriptorIndex := 38, attributes := #[] }, { accessFlags := 18, nameIndex := 41, descriptorIndex := 42, attributes := #[] }, { accessFlags := 18, nameIndex := 45, descriptorIndex := 42, attributes := #[] }, { accessFlags := 4122, nameIndex := 18, descriptorIndex := 19, attributes := #[] }])
  fields := #[{ name := "EXACTLY_ONE", type := (.object "com/example/txq/txq/type/Occurrence"), accessFlags := 16409, slot := 0, constantValue := 0 }, { name := "ZERO_OR_ONE", type := (.object "com/example/txq/txq/type/Occurrence"), accessFlags := 16409, slot := 1, constantValue := 0 }, { name := "ONE_OR_MORE", type := (.object "com/example/txq/txq/type/Occurrence"), accessFlags := 16409, slot := 2, constantValue := 0 }, { name := "ZERO_OR_MORE", type := (.object "com/example/txq/txq/type/Occurrence"), accessFlags := 16409, slot := 3, constantValue := 0 }, { name := "indicator", type := (.object "java/lang/String"), accessFlags := 18, slot := 3, constantValue := 0 }, { name := "allowsEmpty", type := .boolean, accessFlags := 18, slot := 4, constantValue := 0 }, { name := "allowsMany", type := .boolean, accessFlags := 18, slot := 5, constantValue := 0 }, { name := "$VALUES", type := (.array (.object "com/example/txq/txq/type/Occurrence")), accessFlags := 4122, slot := 4, constantValue := 0 }]
  methods := #[k6m0, k6m1, k6m2, k6m3]
  instanceTypes := #[(.object "java/lang/String"), .int, .int, (.object "java/lang/String"), .boolean, .boolean]
  staticTypes := #[(.object "com/example/txq/txq/type/Occurrence"), (.object "com/example/txq/txq/type/Occurrence"), (.object "com/example/txq/txq/type/Occurrence"), (.object "com/example/txq/txq/type/Occurrence"), (.array (.object "com/example/txq/txq/type/Occurrence"))]
  resolved := Array.replicate 105 none
  statics := some 0 }

def pool7 : Array CpInfo := pool [(1, u "java/lang/Cloneable"), (0, .class_ 1), (0, u "java/lang/Object"), (0, .class_ 3)] 3

/-- java/lang/Cloneable -/
def k7 : Class := { plain "java/lang/Cloneable" (some 0) with
  accessFlags := 1537
  interfaces := #[]
  cf := some (fileOf pool7 2 #[] #[] 1537 4 #[] #[])
  fields := #[]
  methods := #[]
  instanceTypes := #[]
  staticTypes := #[]
  resolved := Array.replicate 8 none
  statics := none }

/-- the primitive byte -/
def k8 : Class := { plain "byte" none with kind := .primitive 'B', accessFlags := 0x411 }
/-- [B -/
def k9 : Class := { plain "[B" (some 0) with kind := .array 8 .byte, interfaces := #[7, 4], accessFlags := 1041 }

/-- the primitive int -/
def k10 : Class := { plain "int" none with kind := .primitive 'I', accessFlags := 0x411 }
/-- [I -/
def k11 : Class := { plain "[I" (some 0) with kind := .array 10 .int, interfaces := #[7, 4], accessFlags := 1041 }

def heap : Heap := #[{ cls := 6, slots := #[.ref 1, .ref 2, .ref 3, .ref 4, .null], vm := .statics 6 },
  { cls := 6, slots := #[.null, .int 0, .int 0, .null, .int 0, .int 0], vm := .none },
  { cls := 6, slots := #[.null, .int 1, .int 0, .null, .int 1, .int 0], vm := .none },
  { cls := 6, slots := #[.null, .int 2, .int 0, .null, .int 0, .int 1], vm := .none },
  { cls := 6, slots := #[.null, .int 3, .int 0, .null, .int 1, .int 1], vm := .none }]
def classes : Array Class := #[k0, k1, k2, k3, k4, k5, k6, k7, k8, k9, k10, k11]
def interned : List (Array UInt16 × Addr) := []
def slotsUsed : Nat := 29
def theMethod : MethodId := ⟨1, 1⟩
def args0 : Array Value := #[.int 1]
def aboutOver (below : List Frame) : State where
  vm := { classes := classes, interned := interned.toArray }
  heap := heap
  slotsUsed := slotsUsed
  threads := #[{ frames := .invoking theMethod args0 :: below }]
def below0 : List Frame := [.native { method := ⟨0, 0⟩, args := #[] }]
def about1 : State := aboutOver below0
def p0 : Program := .bare "" "" ""
def e0 : Env := launch0.env 0 0 0
theorem w_frames : about1.frames = Frame.invoking theMethod args0 :: below0 := rfl
set_option maxRecDepth 65536 in
theorem w_args : argsFit about1.vm theMethod args0 = true := by decide +kernel
set_option maxRecDepth 65536 in
theorem w_heap : heapFits about1 = true := by decide +kernel
set_option maxRecDepth 65536 in
theorem w_runnable : about1.curStatus? = some .runnable := by decide +kernel
set_option maxRecDepth 65536 in
theorem w_alone : about1.alone = true := by decide +kernel
set_option maxRecDepth 65536 in
theorem w_named : about1.methodNamed? x = some theMethod := by decide +kernel
set_option maxRecDepth 65536 in
theorem w_hears : about1.hears theMethod below0 = true := by decide +kernel
set_option maxRecDepth 65536 in
theorem w_ripe : about1.ripe theMethod args0 below0 = true := by decide +kernel
theorem w_running : about1.status = .running := rfl
set_option maxRecDepth 65536 in
theorem w_room : about1.hasRoom e0.platform room_1 = true :=
  launch0.hasRoom_least _ room_1 (by decide +kernel) (by decide +kernel) (by decide +kernel) (by decide +kernel) (by decide +kernel) (by decide +kernel)
theorem allAtoms_all (ts : List Jvm.Cond) (a : Array Jvm.Value) (st : Jvm.State) : (allAtoms ts).before a st = ts.all (fun c => c.before a st) := by
  induction ts with
  | nil => rfl
  | cons c t ih =>
    show (Jvm.Cond.and c (allAtoms t)).before a st = _
    rw [Jvm.Cond.before_and, ih, List.all_cons]
def words1 : List Jvm.Cond := Jvm.Cond.code x code maxLocals ret :: tables_1
/-- a 'code' word, met by the world's own term for the bytes: nothing is compared byte by byte -/
theorem code_word {y : MethodName} {bytes : ByteArray} {mx : Nat} {rt : Option FieldType} {a : Array Value} {s : State} {m : MethodId} {meth : Method} {c : Code} (h1 : s.methodNamed? y = some m) (h2 : s.vm.method? m = some meth) (h3 : meth.code = some c) (h4 : c.code = bytes)
    (h5 : (c.maxLocals == mx && c.exceptionTable.isEmpty && decide (c.maxStack ≤ mostOperands) && decide (meth.sig.returnType = rt) && !meth.locks && decide (parseMethodDescriptor y.desc = some meth.sig)) = true) : (Jvm.Cond.code y bytes mx rt).before a s = true := by
  simp only [Bool.and_eq_true, beq_iff_eq, Bool.not_eq_true', decide_eq_true_eq] at h5
  obtain ⟨⟨⟨⟨⟨g1, g2⟩, g3⟩, g4⟩, g5⟩, g6⟩ := h5
  simp [Cond.before, Cond.holds, Cond.value, h1, h2, h3, h4, g1, g2, g3, g4, g5, g6]
def isCode : Jvm.Cond → Bool
  | .code _ _ _ _ => true
  | _ => false
theorem all_split {L : List Jvm.Cond} {P : Jvm.Cond → Bool} (h1 : L.all (fun c => isCode c || P c) = true) (h2 : ∀ c ∈ L.filter isCode, P c = true) : L.all P = true := by
  refine List.all_eq_true.mpr fun c hc => ?_
  have h := List.all_eq_true.mp h1 c hc
  rcases Bool.eq_false_or_eq_true (isCode c) with hi | hi
  · exact h2 c (List.mem_filter.mpr ⟨hc, hi⟩)
  · simpa [hi] using h
set_option maxRecDepth 65536 in
theorem w_c0 : (Jvm.Cond.code x code maxLocals ret).before args0 about1 = true := code_word (m := ⟨1, 1⟩) (meth := k1m1) (c := k1c1) (by decide +kernel) rfl rfl rfl (by decide +kernel)
set_option maxRecDepth 65536 in
theorem w_c1 : (Jvm.Cond.code ({ cls := "com/example/txq/txq/type/Occurrence", name := "of", desc := "(ZZ)Lcom/example/txq/txq/type/Occurrence;" } : Jvm.MethodName) prog_187_method_4_code (2 : Nat) (Option.some (Jvm.ClassFile.FieldType.object "com/example/txq/txq/type/Occurrence"))).before args0 about1 = true := code_word (m := ⟨6, 0⟩) (meth := k6m0) (c := k6c0) (by decide +kernel) rfl rfl rfl (by decide +kernel)
set_option maxRecDepth 65536 in
theorem w_c2 : (Jvm.Cond.code ({ cls := "com/example/txq/txq/type/Occurrence", name := "allowsEmpty", desc := "()Z" } : Jvm.MethodName) prog_187_method_7_code (1 : Nat) (Option.some Jvm.ClassFile.FieldType.boolean)).before args0 about1 = true := code_word (m := ⟨6, 1⟩) (meth := k6m1) (c := k6c1) (by decide +kernel) rfl rfl rfl (by decide +kernel)
set_option maxRecDepth 65536 in
theorem w_c3 : (Jvm.Cond.code ({ cls := "com/example/txq/txq/type/Occurrence", name := "allowsMany", desc := "()Z" } : Jvm.MethodName) prog_187_method_8_code (1 : Nat) (Option.some Jvm.ClassFile.FieldType.boolean)).before args0 about1 = true := code_word (m := ⟨6, 2⟩) (meth := k6m2) (c := k6c2) (by decide +kernel) rfl rfl rfl (by decide +kernel)
set_option maxRecDepth 65536 in
theorem w_c4 : (Jvm.Cond.code ({ cls := "com/example/txq/txq/type/Occurrence", name := "allows", desc := "(I)Z" } : Jvm.MethodName) prog_187_method_9_code (2 : Nat) (Option.some Jvm.ClassFile.FieldType.boolean)).before args0 about1 = true := code_word (m := ⟨6, 3⟩) (meth := k6m3) (c := k6c3) (by decide +kernel) rfl rfl rfl (by decide +kernel)
def codes1 : List Jvm.Cond := [Jvm.Cond.code x code maxLocals ret, Jvm.Cond.code ({ cls := "com/example/txq/txq/type/Occurrence", name := "of", desc := "(ZZ)Lcom/example/txq/txq/type/Occurrence;" } : Jvm.MethodName) prog_187_method_4_code (2 : Nat) (Option.some (Jvm.ClassFile.FieldType.object "com/example/txq/txq/type/Occurrence")), Jvm.Cond.code ({ cls := "com/example/txq/txq/type/Occurrence", name := "allowsEmpty", desc := "()Z" } : Jvm.MethodName) prog_187_method_7_code (1 : Nat) (Option.some Jvm.ClassFile.FieldType.boolean), Jvm.Cond.code ({ cls := "com/example/txq/txq/type/Occurrence", name := "allowsMany", desc := "()Z" } : Jvm.MethodName) prog_187_method_8_code (1 : Nat) (Option.some Jvm.ClassFile.FieldType.boolean), Jvm.Cond.code ({ cls := "com/example/txq/txq/type/Occurrence", name := "allows", desc := "(I)Z" } : Jvm.MethodName) prog_187_method_9_code (2 : Nat) (Option.some Jvm.ClassFile.FieldType.boolean)]
set_option maxRecDepth 65536 in
theorem codes_eq : words1.filter isCode = codes1 := rfl
theorem w_codes : ∀ c ∈ words1.filter isCode, c.before args0 about1 = true := by
  rw [codes_eq]
  intro c hc
  simp only [codes1, List.mem_cons, List.not_mem_nil, or_false] at hc
  rcases hc with rfl | rfl | rfl | rfl | rfl
  · exact w_c0
  · exact w_c1
  · exact w_c2
  · exact w_c3
  · exact w_c4
set_option maxRecDepth 65536 in
theorem w_t1 : (words1.take 24).all (fun c => isCode c || c.before args0 about1) = true := by decide +kernel
set_option maxRecDepth 65536 in
theorem w_t2 : (words1.drop 24).all (fun c => isCode c || c.before args0 about1) = true := by decide +kernel
theorem w_tables : (allAtoms (Jvm.Cond.code x code maxLocals ret :: tables_1)).before args0 about1 = true := by
  rw [allAtoms_all]
  show words1.all (fun c => c.before args0 about1) = true
  refine all_split ?_ w_codes
  rw [← List.take_append_drop 24 words1, List.all_append, w_t1, w_t2]
  rfl
set_option maxRecDepth 65536 in
theorem w_case : (Jvm.Cond.and given_1 narrow_1).before args0 about1 = true := by decide +kernel
theorem w_applies : (headSpec (Jvm.Cond.code x code maxLocals ret :: tables_1) room_1).applies x e0.platform about1 = true :=
  (Spec.applies_iff w_frames).mpr ⟨w_running, w_runnable, w_alone, w_named, w_hears, w_ripe, w_room, w_tables⟩
theorem atStart : AtStart classFile x code maxLocals ret World_1 tables_1 room_1 Calls_1 rest_1 Pre_1 launch0 p0 e0 about1 theMethod args0 below0 :=
  ⟨lists_1, trivial, launch0.admits_env _ _ _, launch0.least_env, fairChoices_fair.cas, fairChoices_fair.clock, w_frames, w_args, w_heap, w_applies, trivial, trivial, w_case⟩
end start1
theorem witness_1 : WitnessClaimed_1 := ⟨start1.p0, start1.e0, start1.about1, start1.theMethod, start1.args0, start1.below0, start1.atStart⟩
end Jvm.Pilot.@@N@@
