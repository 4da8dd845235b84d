import JvmDerived
import JvmDerived.Pilot.@@N@@Statement
import JvmDerived.Pilot.@@N@@Code
set_option linter.unusedVariables false
set_option linter.unusedSimpArgs false
@@BLOCK:NumsL.lean.txt@@
namespace Jvm.RoadKit
open Sem ClassFile Op Lib Jvm.Stand Jvm.Free Jvm.LawKit
section New
variable {p : Program} {l : Launch} {e : Env} {R : Room} {s : State} {m : MethodId} {args : Array Value} {below : List Frame} {meth : Method} {c : Code} {T : State} {locs : List Loc} {cells slots : Nat}
theorem retI (X : Stand p l e R s m args below meth c T locs cells slots) (hx : p.tables.exec = Jvm.exec) {pc : Nat} {Ls : Array Slot} {z : Int32} {rest : List Value} (hret : meth.sig.returnType = some .int) (hd : decode c.code pc = .ok (.ireturn, 1)) {fs : List Frame}
    (hl : ∀ (f : JFrame) (acts : List Action), f.method = m → f.locked = none → f.entered = [] → (doReturn e (T.setTop f) acts (some (.int z))).1 = T.setFrames fs) : Steps p.tables e below (T.setTop (mkF m pc Ls (.int z :: rest))) (T.setFrames fs) := by
  have hm' : T.vm.method? m = some meth := X.method'
  have hn : narrow .int (.int z) = .int z := rfl
  show Steps p.tables e below (T.setTop { method := m, pc := pc, locals := Ls, stack := _ :: rest, locked := none }) _
  jvm_step X.here [X.here.top, hx, hd, hm', hret, hn]
  first | (intro acts; rw [hl _ acts rfl rfl rfl]) | rw [hl _ _ rfl rfl rfl]
  exact Steps.refl _
/-- what a body leaves -/
def own_P (s : State) (Q : Option Value → Heap → List Loc → Prop) (k n : Nat) (s₂ : State) (o : Outcome) : Prop := ∃ v L, o = .returned v ∧ Q v s₂.heap L ∧ FrameEnd s o s₂ L k n
/-- from A the run comes to an end that P allows -/
def own_G (p : Program) (e : Env) (below : List Frame) (P : State → Outcome → Prop) (A : State) : Prop := ∃ s₂ o, Steps p.tables e below A s₂ ∧ s₂.status = .running ∧ Ended s₂ below o ∧ P s₂ o
theorem own_via {P : State → Outcome → Prop} {A A' : State} (h : ∀ t, Steps p.tables e below A' t → Steps p.tables e below A t) (k : own_G p e below P A') : own_G p e below P A := by
  obtain ⟨s₂, o, h1, h2⟩ := k
  exact ⟨s₂, o, h _ h1, h2⟩
theorem own_retN (X : Stand p l e R s m args below meth c T locs cells slots) (hlocks : meth.locks = false) (hx : p.tables.exec = Jvm.exec) {pc : Nat} {Ls : Array Slot} {z : Int32} {t : FieldType} {rest : List Value} {K N : Nat} {Q : Option Value → Heap → List Loc → Prop} (hret : meth.sig.returnType = some t) (ht : t = .boolean ∨ t = .byte ∨ t = .char ∨ t = .short)
    (hd : decode c.code pc = .ok (.ireturn, 1)) (hq : Q (some (.int (nar t z))) T.heap locs) (hK : cells ≤ K) (hN : slots ≤ N) : own_G p e below (own_P s Q K N) (T.setTop (mkF m pc Ls (.int z :: rest))) := by
  obtain ⟨fs, hr, hrun, hended, hW, hsame⟩ := X.leave (v := some (.int (nar t z))) (fun h => by rw [hret] at h; cases h) hlocks
  exact ⟨_, _, retN X hx hret ht hd hr, hrun, hended, _, _, rfl, hq, ⟨_, rfl⟩, hW, hsame.mono hK hN⟩
theorem own_retI (X : Stand p l e R s m args below meth c T locs cells slots) (hlocks : meth.locks = false) (hx : p.tables.exec = Jvm.exec) {pc : Nat} {Ls : Array Slot} {z : Int32} {rest : List Value} {K N : Nat} {Q : Option Value → Heap → List Loc → Prop} (hret : meth.sig.returnType = some .int)
    (hd : decode c.code pc = .ok (.ireturn, 1)) (hq : Q (some (.int z)) T.heap locs) (hK : cells ≤ K) (hN : slots ≤ N) : own_G p e below (own_P s Q K N) (T.setTop (mkF m pc Ls (.int z :: rest))) := by
  obtain ⟨fs, hr, hrun, hended, hW, hsame⟩ := X.leave (v := some (.int z)) (fun h => by rw [hret] at h; cases h) hlocks
  exact ⟨_, _, retI X hx hret hd hr, hrun, hended, _, _, rfl, hq, ⟨_, rfl⟩, hW, hsame.mono hK hN⟩
theorem own_retA (X : Stand p l e R s m args below meth c T locs cells slots) (hlocks : meth.locks = false) (hx : p.tables.exec = Jvm.exec) {pc : Nat} {Ls : Array Slot} {w : Value} {C : String} {rest : List Value} {K N : Nat} {Q : Option Value → Heap → List Loc → Prop} (hret : meth.sig.returnType = some (.object C)) (hw : w.isRef = true)
    (hd : decode c.code pc = .ok (.areturn, 1)) (hq : Q (some w) T.heap locs) (hK : cells ≤ K) (hN : slots ≤ N) : own_G p e below (own_P s Q K N) (T.setTop (mkF m pc Ls (w :: rest))) := by
  obtain ⟨fs, hr, hrun, hended, hW, hsame⟩ := X.leave (v := some w) (fun h => by rw [hret] at h; cases h) hlocks
  have hn : narrow (.object C) w = w := by cases w <;> rfl
  exact ⟨_, _, retOut X hx hret hn (Or.inr (Or.inr (Or.inr (Or.inr ⟨rfl, rfl, hw⟩)))) hd hr, hrun, hended, _, _, rfl, hq, ⟨_, rfl⟩, hW, hsame.mono hK hN⟩
theorem own_retV (X : Stand p l e R s m args below meth c T locs cells slots) (hlocks : meth.locks = false) (hx : p.tables.exec = Jvm.exec) {pc : Nat} {Ls : Array Slot} {K N : Nat} {Q : Option Value → Heap → List Loc → Prop} (hret : meth.sig.returnType = none)
    (hd : decode c.code pc = .ok (.return_, 1)) (hq : Q none T.heap locs) (hK : cells ≤ K) (hN : slots ≤ N) : own_G p e below (own_P s Q K N) (T.setTop (mkF m pc Ls [])) := by
  obtain ⟨fs, hr, hrun, hended, hW, hsame⟩ := X.leave (v := none) (fun _ => rfl) hlocks
  exact ⟨_, _, X.returnOut hx hret hd hr, hrun, hended, _, _, rfl, hq, ⟨_, rfl⟩, hW, hsame.mono hK hN⟩
end New
end Jvm.RoadKit
namespace Jvm.Pilot.@@N@@
open Jvm Jvm.ClassFile Sem Op Lib Jvm.Free Jvm.Stand Jvm.LawKit Jvm.RoadKit Bundle Jvm.Pilot.@@N@@.Jvm.D
theorem own_fld {args : Array Value} {s : State} {t : Term} {C n d : String} {k : Int32} {a : Addr} (et : t.eval args s none [] s = some (.ref a)) (h : (Jvm.Cond.eq (Term.field t C n d) (Term.int k)).value args s none s [] = some true) : Fld s s.heap a C n d (.int k) := by
  obtain ⟨x, y, e1, e2, k1, k2⟩ := cmp_v (Or.inl h)
  have e3 : y = .int k := Option.some.inj (e2.symm.trans (Term.int_eval k))
  subst e3
  obtain ⟨z, rfl⟩ := k2
  have e4 : z = k := gotT (Cond.eq_ints e1 e2) h
  subst e4
  exact Fld.start ((fld_at et).symm.trans e1)

def own_pick (k : Int32) (a_EQUAL a_NOT_EQUAL a_LESS_OR_EQUAL a_LESS a_GREATER_OR_EQUAL a_GREATER : Addr) : Addr := if k = 0 then a_EQUAL else if k = 1 then a_NOT_EQUAL else if k = 2 then a_LESS_OR_EQUAL else if k = 3 then a_LESS else if k = 4 then a_GREATER_OR_EQUAL else a_GREATER
def own_isord (a x y : Addr) : Int32 := if a = x then 0 else if a = y then 0 else 1
def own_hold (w p : Int32) : Int32 := if w = 0 then (if p = 0 then 1 else 0) else if w = 1 then (if p = 0 then 0 else 1) else if w = 2 then (if 0 < p then 0 else 1) else if w = 3 then (if p < 0 then 1 else 0) else if w = 4 then (if p < 0 then 0 else 1) else (if 0 < p then 1 else 0)
def own_lc (w : Int32) : Int32 := nar .char ((w &&& (255 : Int32)).toUInt32.toUInt16.toUInt32.toInt32)
def own_Ix (i : Int32) : Prop := i = 0 ∨ i = 1 ∨ i = 2 ∨ i = 3 ∨ i = 4 ∨ i = 5
/-- one of the six: its class, its ordinal, the first sign of its symbol -/
def own_K (Z : State) (h : Heap) (a : Addr) (w ch : Int32) : Prop := Exa Z h a "com/example/resultree/resultree/xpath/Comparison" ∧ Fld Z h a "java/lang/Enum" "ordinal" "I" (.int w) ∧ ∃ (y v : Addr) (cl : Cell) (z : Int32), Fld Z h a "com/example/resultree/resultree/xpath/Comparison" "symbol" "Ljava/lang/String;" (.ref y) ∧ Exa Z h y "java/lang/String" ∧ Fld Z h y "java/lang/String" "value" "[B" (.ref v) ∧ Fld Z h y "java/lang/String" "coder" "B" (.int (0 : Int32)) ∧ Arr Z h v cl .byte ∧ cl.slots.size.toInt32 = z ∧ ¬ z = 0 ∧ (0 : Int32) < z ∧
  ¬ ((0 : Int32) < 0 ∨ cl.slots.size ≤ (0 : Int32).toNatClampNeg) ∧ cl.slots[(0 : Int32).toNatClampNeg]? = some (.int ch)
theorem own_idx (p : Int32) : own_Ix ((p &&& (2147483647 : Int32)) % (6 : Int32)) := by
  have e1 : (p &&& (2147483647 : Int32)).toInt = p.toInt % 2 ^ 31 := Jvm.Kit.i32_mask p 2147483647 (k := 31) (by decide) (by decide)
  have e2 : ((p &&& (2147483647 : Int32)) % (6 : Int32)).toInt = (p &&& (2147483647 : Int32)).toInt % 6 := Jvm.Kit.i32_rem_nonneg (y := 6) (by omega)
  have h : ∀ k : Int32, ((p &&& (2147483647 : Int32)) % (6 : Int32)).toInt = k.toInt → ((p &&& (2147483647 : Int32)) % (6 : Int32)) = k := fun k hk => Int32.toInt_inj.mp hk
  have z : (0 : Int32).toInt = 0 ∧ (1 : Int32).toInt = 1 ∧ (2 : Int32).toInt = 2 ∧ (3 : Int32).toInt = 3 ∧ (4 : Int32).toInt = 4 ∧ (5 : Int32).toInt = 5 := by decide
  have c : (p &&& (2147483647 : Int32)).toInt % 6 = 0 ∨ (p &&& (2147483647 : Int32)).toInt % 6 = 1 ∨ (p &&& (2147483647 : Int32)).toInt % 6 = 2 ∨ (p &&& (2147483647 : Int32)).toInt % 6 = 3 ∨ (p &&& (2147483647 : Int32)).toInt % 6 = 4 ∨ (p &&& (2147483647 : Int32)).toInt % 6 = 5 := by omega
  rcases c with c | c | c | c | c | c
  · exact Or.inl (h 0 (by omega))
  · exact Or.inr (Or.inl (h 1 (by omega)))
  · exact Or.inr (Or.inr (Or.inl (h 2 (by omega))))
  · exact Or.inr (Or.inr (Or.inr (Or.inl (h 3 (by omega)))))
  · exact Or.inr (Or.inr (Or.inr (Or.inr (Or.inl (h 4 (by omega))))))
  · exact Or.inr (Or.inr (Or.inr (Or.inr (Or.inr (h 5 (by omega))))))
theorem own_one {Z : State} {h : Heap} {a : Addr} {C n d : String} {v w : Value} (F : Fld Z h a C n d v) (G : Fld Z h a C n d w) : v = w := by
  obtain ⟨cell, cf, k, i, f, h1, h2, h3, h4, h5, h6, h7⟩ := F
  obtain ⟨cell', cf', k', i', f', g1, g2, g3, g4, g5, g6, g7⟩ := G
  cases h1.symm.trans g1
  cases h2.symm.trans g2
  exact Option.some.inj (h7.symm.trans g7)
theorem own_ne {Z : State} {h : Heap} {a b : Addr} {v w ch ch' : Int32} (F : own_K Z h a v ch) (G : own_K Z h b w ch') (hn : ¬ v = w) : ¬ a = b := fun e => by
  subst e; exact hn (Value.int.inj (own_one F.2.1 G.2.1))
theorem d1_0 : decode method_2_code 0 = .ok (.iload_n 0, 1) := by decide +kernel
theorem d1_1 : decode method_2_code 1 = .ok (.ifCond .ne 7, 3) := by decide +kernel
theorem d1_4 : decode method_2_code 4 = .ok (.getstatic 7, 3) := by decide +kernel
theorem d1_7 : decode method_2_code 7 = .ok (.areturn, 1) := by decide +kernel
theorem d1_8 : decode method_2_code 8 = .ok (.iload_n 0, 1) := by decide +kernel
theorem d1_9 : decode method_2_code 9 = .ok (.iconst 1, 1) := by decide +kernel
theorem d1_10 : decode method_2_code 10 = .ok (.if_icmp .ne 7, 3) := by decide +kernel
theorem d1_13 : decode method_2_code 13 = .ok (.getstatic 13, 3) := by decide +kernel
theorem d1_16 : decode method_2_code 16 = .ok (.areturn, 1) := by decide +kernel
theorem d1_17 : decode method_2_code 17 = .ok (.iload_n 0, 1) := by decide +kernel
theorem d1_18 : decode method_2_code 18 = .ok (.iconst 2, 1) := by decide +kernel
theorem d1_19 : decode method_2_code 19 = .ok (.if_icmp .ne 7, 3) := by decide +kernel
theorem d1_22 : decode method_2_code 22 = .ok (.getstatic 16, 3) := by decide +kernel
theorem d1_25 : decode method_2_code 25 = .ok (.areturn, 1) := by decide +kernel
theorem d1_26 : decode method_2_code 26 = .ok (.iload_n 0, 1) := by decide +kernel
theorem d1_27 : decode method_2_code 27 = .ok (.iconst 3, 1) := by decide +kernel
theorem d1_28 : decode method_2_code 28 = .ok (.if_icmp .ne 7, 3) := by decide +kernel
theorem d1_31 : decode method_2_code 31 = .ok (.getstatic 19, 3) := by decide +kernel
theorem d1_34 : decode method_2_code 34 = .ok (.areturn, 1) := by decide +kernel
theorem d1_35 : decode method_2_code 35 = .ok (.iload_n 0, 1) := by decide +kernel
theorem d1_36 : decode method_2_code 36 = .ok (.iconst 4, 1) := by decide +kernel
theorem d1_37 : decode method_2_code 37 = .ok (.if_icmp .ne 7, 3) := by decide +kernel
theorem d1_40 : decode method_2_code 40 = .ok (.getstatic 22, 3) := by decide +kernel
theorem d1_43 : decode method_2_code 43 = .ok (.areturn, 1) := by decide +kernel
theorem d1_44 : decode method_2_code 44 = .ok (.getstatic 25, 3) := by decide +kernel
theorem d1_47 : decode method_2_code 47 = .ok (.areturn, 1) := by decide +kernel
theorem pn_1 : plainName "com/example/resultree/resultree/xpath/ComparisonIsOrderingPinLaw" = true := by first | (simp [plainName, overriddenIn]; done) | decide +kernel
theorem ef_1 (m : MethodId) (p0 : Int32) : entryFrame m #[(.int p0)] 1 = mkF m 0 #[.val (.int p0)] [] := by first | (simp [entryFrame, mkF, argsToLocals, Value.category]; done) | rfl
def Q1 (Z : State) (p0 : Int32) (a_EQUAL a_NOT_EQUAL a_LESS_OR_EQUAL a_LESS a_GREATER_OR_EQUAL a_GREATER : Addr) (h0 : Heap) (n0 : Nat) (v : Option Value) (h : Heap) (L : List Loc) : Prop := v = some (.ref (own_pick p0 a_EQUAL a_NOT_EQUAL a_LESS_OR_EQUAL a_LESS a_GREATER_OR_EQUAL a_GREATER)) ∧ Fr n0 L ∧ h = h0
set_option maxRecDepth 65536 in
set_option maxHeartbeats 40000000 in
theorem rm1 (l : Launch) (Z : State) (a0 : Array Value) (hw : ∀ d ∈ tables_1, d.before a0 Z = true) (ws : List Jvm.Cond) (p0 : Int32) (a_EQUAL a_NOT_EQUAL a_LESS_OR_EQUAL a_LESS a_GREATER_OR_EQUAL a_GREATER : Addr) (h0 : Heap) (n0 : Nat) (Z0 : n0 ≤ h0.size) (S_EQUAL : Sta Z h0 "com/example/resultree/resultree/xpath/Comparison" "EQUAL" "Lcom/example/resultree/resultree/xpath/Comparison;" (.ref a_EQUAL)) (S_NOT_EQUAL : Sta Z h0 "com/example/resultree/resultree/xpath/Comparison" "NOT_EQUAL" "Lcom/example/resultree/resultree/xpath/Comparison;" (.ref a_NOT_EQUAL)) (S_LESS_OR_EQUAL : Sta Z h0 "com/example/resultree/resultree/xpath/Comparison" "LESS_OR_EQUAL" "Lcom/example/resultree/resultree/xpath/Comparison;" (.ref a_LESS_OR_EQUAL)) (S_LESS : Sta Z h0 "com/example/resultree/resultree/xpath/Comparison" "LESS" "Lcom/example/resultree/resultree/xpath/Comparison;" (.ref a_LESS)) (S_GREATER_OR_EQUAL : Sta Z h0 "com/example/resultree/resultree/xpath/Comparison" "GREATER_OR_EQUAL" "Lcom/example/resultree/resultree/xpath/Comparison;" (.ref a_GREATER_OR_EQUAL)) (S_GREATER : Sta Z h0 "com/example/resultree/resultree/xpath/Comparison" "GREATER" "Lcom/example/resultree/resultree/xpath/Comparison;" (.ref a_GREATER)) :
    MetFree l (⟨"com/example/resultree/resultree/xpath/ComparisonIsOrderingPinLaw", "pick", "(I)Lcom/example/resultree/resultree/xpath/Comparison;"⟩ : MethodName) (head1 (Jvm.Cond.code (⟨"com/example/resultree/resultree/xpath/ComparisonIsOrderingPinLaw", "pick", "(I)Lcom/example/resultree/resultree/xpath/Comparison;"⟩ : MethodName) method_2_code 1 (some (.object "com/example/resultree/resultree/xpath/Comparison")) :: ws) ({ frames := 0, cells := 0, slots := 0, locals := 0 } : Room)) (fun a U => a = #[(.int p0)] ∧ Z.Warmed39 U.vm ∧ U.heap = h0) (fun _ _ _ _ _ => True) (fun _ U o U' => ∃ v L, o = .returned v ∧ Q1 Z p0 a_EQUAL a_NOT_EQUAL a_LESS_OR_EQUAL a_LESS a_GREATER_OR_EQUAL a_GREATER h0 n0 v U'.heap L ∧ FrameEnd U o U' L ({ frames := 0, cells := 0, slots := 0, locals := 0 } : Room).cells ({ frames := 0, cells := 0, slots := 0, locals := 0 } : Room).slots) := by
  refine MetFree.of_bodySF (plainFor_of_name pn_1) hisR ?_
  intro p e s m args below meth c s₁ Bd hml0 hP hK
  obtain ⟨rfl, hZ, hh⟩ := hP
  have hx := Bd.exec
  have hby := Bd.bytes
  have hml : c.maxLocals = 1 := hml0
  have hown : s.vm.findClass "com/example/resultree/resultree/xpath/ComparisonIsOrderingPinLaw" = some m.cls := findClass_of_methodNamed Bd.named
  have X0 : Stand p l e ({ frames := 0, cells := 0, slots := 0, locals := 0 } : Room) s m #[(.int p0)] below meth c s₁ [] 0 0 := Stand.of_body Bd
  have e0 : s₁.heap = h0 := by rw [← hh, Bd.state]; rfl
  have N0 := Fr.nil n0
  show own_G p e below (own_P s (Q1 Z p0 a_EQUAL a_NOT_EQUAL a_LESS_OR_EQUAL a_LESS a_GREATER_OR_EQUAL a_GREATER h0 n0) 0 0) _
  refine own_via (A' := s₁.setTop (mkF m 0 #[.val (.int p0)] [])) (fun t k => castTop (ef_1 m p0) k) ?_
  refine own_via (A' := s₁.setTop (mkF m 1 #[.val (.int p0)] [(.int p0)])) (fun target kt => ?_) ?_
  · show Steps p.tables e below (s₁.setTop (mkF m 0 #[.val (.int p0)] [])) _
    refine XS.iloadN X0.here hx rfl (hb hby d1_0) rfl ?_
    exact kt
  by_cases hc1 : p0 = (0 : Int32)
  · refine own_via (A' := s₁.setTop (mkF m 4 #[.val (.int p0)] [])) (fun target kt => XS.ifNo X0.here hx rfl (hb hby d1_1) rfl ((if0 _ _).trans (teq hc1).2) kt) ?_
    obtain ⟨T1, X1, e1, st1⟩ := getS2 X0 hx hZ hown (host := "") (Or.inl (hw _ (List.mem_of_getElem? (i := 5) rfl))) Via.refl e0 S_EQUAL (g := (mkF m 4 #[.val (.int p0)] [])) rfl (hb hby d1_4)
    refine own_via (A' := T1.setTop (mkF m 7 #[.val (.int p0)] [(.ref a_EQUAL)])) st1 ?_
    exact own_retA X1 Bd.notSynchronized hx Bd.returns rfl (hb hby d1_7) (show Q1 Z p0 a_EQUAL a_NOT_EQUAL a_LESS_OR_EQUAL a_LESS a_GREATER_OR_EQUAL a_GREATER h0 n0 _ _ _ from ⟨by rw [show own_pick p0 a_EQUAL a_NOT_EQUAL a_LESS_OR_EQUAL a_LESS a_GREATER_OR_EQUAL a_GREATER = a_EQUAL from by simp [own_pick, hc1]], N0, e1⟩) (by decide) (by decide)
  · refine own_via (A' := s₁.setTop (mkF m 8 #[.val (.int p0)] [])) (fun target kt => XS.ifYes X0.here hx rfl (pc0 := 1) (pc' := 8) rfl (hb hby d1_1) rfl ((if0 _ _).trans (feq hc1).2) (by decide) (by decide) kt) ?_
    refine own_via (A' := s₁.setTop (mkF m 10 #[.val (.int p0)] [(.int (1 : Int32)), (.int p0)])) (fun target kt => ?_) ?_
    · show Steps p.tables e below (s₁.setTop (mkF m 8 #[.val (.int p0)] [])) _
      refine XS.iloadN X0.here hx rfl (hb hby d1_8) rfl ?_
      show Steps p.tables e below (s₁.setTop (mkF m 9 #[.val (.int p0)] [(.int p0)])) _
      refine XS.iconst X0.here hx rfl (hb hby d1_9) ?_
      exact kt
    by_cases hc10 : p0 = (1 : Int32)
    · refine own_via (A' := s₁.setTop (mkF m 13 #[.val (.int p0)] [])) (fun target kt => XS.icmpNo X0.here hx rfl (hb hby d1_10) rfl (teq hc10).2 kt) ?_
      obtain ⟨T2, X2, e2, st2⟩ := getS2 X0 hx hZ hown (host := "") (Or.inl (hw _ (List.mem_of_getElem? (i := 74) rfl))) Via.refl e0 S_NOT_EQUAL (g := (mkF m 13 #[.val (.int p0)] [])) rfl (hb hby d1_13)
      refine own_via (A' := T2.setTop (mkF m 16 #[.val (.int p0)] [(.ref a_NOT_EQUAL)])) st2 ?_
      exact own_retA X2 Bd.notSynchronized hx Bd.returns rfl (hb hby d1_16) (show Q1 Z p0 a_EQUAL a_NOT_EQUAL a_LESS_OR_EQUAL a_LESS a_GREATER_OR_EQUAL a_GREATER h0 n0 _ _ _ from ⟨by rw [show own_pick p0 a_EQUAL a_NOT_EQUAL a_LESS_OR_EQUAL a_LESS a_GREATER_OR_EQUAL a_GREATER = a_NOT_EQUAL from by simp [own_pick, hc1, hc10]], N0, e2⟩) (by decide) (by decide)
    · refine own_via (A' := s₁.setTop (mkF m 17 #[.val (.int p0)] [])) (fun target kt => XS.icmpYes X0.here hx rfl (pc0 := 10) (pc' := 17) rfl (hb hby d1_10) rfl (feq hc10).2 (by decide) (by decide) kt) ?_
      refine own_via (A' := s₁.setTop (mkF m 19 #[.val (.int p0)] [(.int (2 : Int32)), (.int p0)])) (fun target kt => ?_) ?_
      · show Steps p.tables e below (s₁.setTop (mkF m 17 #[.val (.int p0)] [])) _
        refine XS.iloadN X0.here hx rfl (hb hby d1_17) rfl ?_
        show Steps p.tables e below (s₁.setTop (mkF m 18 #[.val (.int p0)] [(.int p0)])) _
        refine XS.iconst X0.here hx rfl (hb hby d1_18) ?_
        exact kt
      by_cases hc19 : p0 = (2 : Int32)
      · refine own_via (A' := s₁.setTop (mkF m 22 #[.val (.int p0)] [])) (fun target kt => XS.icmpNo X0.here hx rfl (hb hby d1_19) rfl (teq hc19).2 kt) ?_
        obtain ⟨T3, X3, e3, st3⟩ := getS2 X0 hx hZ hown (host := "") (Or.inl (hw _ (List.mem_of_getElem? (i := 72) rfl))) Via.refl e0 S_LESS_OR_EQUAL (g := (mkF m 22 #[.val (.int p0)] [])) rfl (hb hby d1_22)
        refine own_via (A' := T3.setTop (mkF m 25 #[.val (.int p0)] [(.ref a_LESS_OR_EQUAL)])) st3 ?_
        exact own_retA X3 Bd.notSynchronized hx Bd.returns rfl (hb hby d1_25) (show Q1 Z p0 a_EQUAL a_NOT_EQUAL a_LESS_OR_EQUAL a_LESS a_GREATER_OR_EQUAL a_GREATER h0 n0 _ _ _ from ⟨by rw [show own_pick p0 a_EQUAL a_NOT_EQUAL a_LESS_OR_EQUAL a_LESS a_GREATER_OR_EQUAL a_GREATER = a_LESS_OR_EQUAL from by simp [own_pick, hc1, hc10, hc19]], N0, e3⟩) (by decide) (by decide)
      · refine own_via (A' := s₁.setTop (mkF m 26 #[.val (.int p0)] [])) (fun target kt => XS.icmpYes X0.here hx rfl (pc0 := 19) (pc' := 26) rfl (hb hby d1_19) rfl (feq hc19).2 (by decide) (by decide) kt) ?_
        refine own_via (A' := s₁.setTop (mkF m 28 #[.val (.int p0)] [(.int (3 : Int32)), (.int p0)])) (fun target kt => ?_) ?_
        · show Steps p.tables e below (s₁.setTop (mkF m 26 #[.val (.int p0)] [])) _
          refine XS.iloadN X0.here hx rfl (hb hby d1_26) rfl ?_
          show Steps p.tables e below (s₁.setTop (mkF m 27 #[.val (.int p0)] [(.int p0)])) _
          refine XS.iconst X0.here hx rfl (hb hby d1_27) ?_
          exact kt
        by_cases hc28 : p0 = (3 : Int32)
        · refine own_via (A' := s₁.setTop (mkF m 31 #[.val (.int p0)] [])) (fun target kt => XS.icmpNo X0.here hx rfl (hb hby d1_28) rfl (teq hc28).2 kt) ?_
          obtain ⟨T4, X4, e4, st4⟩ := getS2 X0 hx hZ hown (host := "") (Or.inl (hw _ (List.mem_of_getElem? (i := 68) rfl))) Via.refl e0 S_LESS (g := (mkF m 31 #[.val (.int p0)] [])) rfl (hb hby d1_31)
          refine own_via (A' := T4.setTop (mkF m 34 #[.val (.int p0)] [(.ref a_LESS)])) st4 ?_
          exact own_retA X4 Bd.notSynchronized hx Bd.returns rfl (hb hby d1_34) (show Q1 Z p0 a_EQUAL a_NOT_EQUAL a_LESS_OR_EQUAL a_LESS a_GREATER_OR_EQUAL a_GREATER h0 n0 _ _ _ from ⟨by rw [show own_pick p0 a_EQUAL a_NOT_EQUAL a_LESS_OR_EQUAL a_LESS a_GREATER_OR_EQUAL a_GREATER = a_LESS from by simp [own_pick, hc1, hc10, hc19, hc28]], N0, e4⟩) (by decide) (by decide)
        · refine own_via (A' := s₁.setTop (mkF m 35 #[.val (.int p0)] [])) (fun target kt => XS.icmpYes X0.here hx rfl (pc0 := 28) (pc' := 35) rfl (hb hby d1_28) rfl (feq hc28).2 (by decide) (by decide) kt) ?_
          refine own_via (A' := s₁.setTop (mkF m 37 #[.val (.int p0)] [(.int (4 : Int32)), (.int p0)])) (fun target kt => ?_) ?_
          · show Steps p.tables e below (s₁.setTop (mkF m 35 #[.val (.int p0)] [])) _
            refine XS.iloadN X0.here hx rfl (hb hby d1_35) rfl ?_
            show Steps p.tables e below (s₁.setTop (mkF m 36 #[.val (.int p0)] [(.int p0)])) _
            refine XS.iconst X0.here hx rfl (hb hby d1_36) ?_
            exact kt
          by_cases hc37 : p0 = (4 : Int32)
          · refine own_via (A' := s₁.setTop (mkF m 40 #[.val (.int p0)] [])) (fun target kt => XS.icmpNo X0.here hx rfl (hb hby d1_37) rfl (teq hc37).2 kt) ?_
            obtain ⟨T5, X5, e5, st5⟩ := getS2 X0 hx hZ hown (host := "") (Or.inl (hw _ (List.mem_of_getElem? (i := 77) rfl))) Via.refl e0 S_GREATER_OR_EQUAL (g := (mkF m 40 #[.val (.int p0)] [])) rfl (hb hby d1_40)
            refine own_via (A' := T5.setTop (mkF m 43 #[.val (.int p0)] [(.ref a_GREATER_OR_EQUAL)])) st5 ?_
            exact own_retA X5 Bd.notSynchronized hx Bd.returns rfl (hb hby d1_43) (show Q1 Z p0 a_EQUAL a_NOT_EQUAL a_LESS_OR_EQUAL a_LESS a_GREATER_OR_EQUAL a_GREATER h0 n0 _ _ _ from ⟨by rw [show own_pick p0 a_EQUAL a_NOT_EQUAL a_LESS_OR_EQUAL a_LESS a_GREATER_OR_EQUAL a_GREATER = a_GREATER_OR_EQUAL from by simp [own_pick, hc1, hc10, hc19, hc28, hc37]], N0, e5⟩) (by decide) (by decide)
          · refine own_via (A' := s₁.setTop (mkF m 44 #[.val (.int p0)] [])) (fun target kt => XS.icmpYes X0.here hx rfl (pc0 := 37) (pc' := 44) rfl (hb hby d1_37) rfl (feq hc37).2 (by decide) (by decide) kt) ?_
            obtain ⟨T6, X6, e6, st6⟩ := getS2 X0 hx hZ hown (host := "") (Or.inl (hw _ (List.mem_of_getElem? (i := 75) rfl))) Via.refl e0 S_GREATER (g := (mkF m 44 #[.val (.int p0)] [])) rfl (hb hby d1_44)
            refine own_via (A' := T6.setTop (mkF m 47 #[.val (.int p0)] [(.ref a_GREATER)])) st6 ?_
            exact own_retA X6 Bd.notSynchronized hx Bd.returns rfl (hb hby d1_47) (show Q1 Z p0 a_EQUAL a_NOT_EQUAL a_LESS_OR_EQUAL a_LESS a_GREATER_OR_EQUAL a_GREATER h0 n0 _ _ _ from ⟨by rw [show own_pick p0 a_EQUAL a_NOT_EQUAL a_LESS_OR_EQUAL a_LESS a_GREATER_OR_EQUAL a_GREATER = a_GREATER from by simp [own_pick, hc1, hc10, hc19, hc28, hc37]], N0, e6⟩) (by decide) (by decide)
theorem d2_0 : decode prog_113_method_6_code 0 = .ok (.aload_n 0, 1) := by decide +kernel
theorem d2_1 : decode prog_113_method_6_code 1 = .ok (.getstatic 3, 3) := by decide +kernel
theorem d2_4 : decode prog_113_method_6_code 4 = .ok (.if_acmp .eq 14, 3) := by decide +kernel
theorem d2_7 : decode prog_113_method_6_code 7 = .ok (.aload_n 0, 1) := by decide +kernel
theorem d2_8 : decode prog_113_method_6_code 8 = .ok (.getstatic 7, 3) := by decide +kernel
theorem d2_11 : decode prog_113_method_6_code 11 = .ok (.if_acmp .eq 7, 3) := by decide +kernel
theorem d2_14 : decode prog_113_method_6_code 14 = .ok (.iconst 1, 1) := by decide +kernel
theorem d2_15 : decode prog_113_method_6_code 15 = .ok (.goto 4, 3) := by decide +kernel
theorem d2_18 : decode prog_113_method_6_code 18 = .ok (.iconst 0, 1) := by decide +kernel
theorem d2_19 : decode prog_113_method_6_code 19 = .ok (.ireturn, 1) := by decide +kernel
theorem pn_2 : plainName "com/example/resultree/resultree/xpath/Comparison" = true := by first | (simp [plainName, overriddenIn]; done) | decide +kernel
theorem ef_2 (m : MethodId) (a0r : Addr) : entryFrame m #[(.ref a0r)] 1 = mkF m 0 #[.val (.ref a0r)] [] := by first | (simp [entryFrame, mkF, argsToLocals, Value.category]; done) | rfl
def Q2 (Z : State) (a0r : Addr) (a_EQUAL a_NOT_EQUAL : Addr) (h0 : Heap) (n0 : Nat) (v : Option Value) (h : Heap) (L : List Loc) : Prop := v = some (.int (own_isord a0r a_EQUAL a_NOT_EQUAL)) ∧ Fr n0 L ∧ h = h0
set_option maxRecDepth 65536 in
set_option maxHeartbeats 40000000 in
theorem rm2 (l : Launch) (Z : State) (a0 : Array Value) (hw : ∀ d ∈ tables_1, d.before a0 Z = true) (ws : List Jvm.Cond) (a0r : Addr) (a_EQUAL a_NOT_EQUAL : Addr) (h0 : Heap) (n0 : Nat) (Z0 : n0 ≤ h0.size) (S_EQUAL : Sta Z h0 "com/example/resultree/resultree/xpath/Comparison" "EQUAL" "Lcom/example/resultree/resultree/xpath/Comparison;" (.ref a_EQUAL)) (S_NOT_EQUAL : Sta Z h0 "com/example/resultree/resultree/xpath/Comparison" "NOT_EQUAL" "Lcom/example/resultree/resultree/xpath/Comparison;" (.ref a_NOT_EQUAL)) :
    MetFree l (⟨"com/example/resultree/resultree/xpath/Comparison", "isOrdering", "()Z"⟩ : MethodName) (head1 (Jvm.Cond.code (⟨"com/example/resultree/resultree/xpath/Comparison", "isOrdering", "()Z"⟩ : MethodName) prog_113_method_6_code 1 (some .boolean) :: ws) ({ frames := 0, cells := 0, slots := 0, locals := 0 } : Room)) (fun a U => a = #[(.ref a0r)] ∧ Z.Warmed39 U.vm ∧ U.heap = h0) (fun _ _ _ _ _ => True) (fun _ U o U' => ∃ v L, o = .returned v ∧ Q2 Z a0r a_EQUAL a_NOT_EQUAL h0 n0 v U'.heap L ∧ FrameEnd U o U' L ({ frames := 0, cells := 0, slots := 0, locals := 0 } : Room).cells ({ frames := 0, cells := 0, slots := 0, locals := 0 } : Room).slots) := by
  refine MetFree.of_bodySF (plainFor_of_name pn_2) hisR ?_
  intro p e s m args below meth c s₁ Bd hml0 hP hK
  obtain ⟨rfl, hZ, hh⟩ := hP
  have hx := Bd.exec
  have hby := Bd.bytes
  have hml : c.maxLocals = 1 := hml0
  have hown : s.vm.findClass "com/example/resultree/resultree/xpath/Comparison" = some m.cls := findClass_of_methodNamed Bd.named
  have X0 : Stand p l e ({ frames := 0, cells := 0, slots := 0, locals := 0 } : Room) s m #[(.ref a0r)] below meth c s₁ [] 0 0 := Stand.of_body Bd
  have e0 : s₁.heap = h0 := by rw [← hh, Bd.state]; rfl
  have N0 := Fr.nil n0
  show own_G p e below (own_P s (Q2 Z a0r a_EQUAL a_NOT_EQUAL h0 n0) 0 0) _
  refine own_via (A' := s₁.setTop (mkF m 0 #[.val (.ref a0r)] [])) (fun t k => castTop (ef_2 m a0r) k) ?_
  refine own_via (A' := s₁.setTop (mkF m 1 #[.val (.ref a0r)] [(.ref a0r)])) (fun target kt => ?_) ?_
  · show Steps p.tables e below (s₁.setTop (mkF m 0 #[.val (.ref a0r)] [])) _
    refine XS.aloadN X0.here hx rfl (hb hby d2_0) rfl rfl ?_
    exact kt
  obtain ⟨T1, X1, e1, st1⟩ := getS2 X0 hx hZ hown (host := "") (Or.inl (hw _ (List.mem_of_getElem? (i := 13) rfl))) Via.refl e0 S_EQUAL (g := (mkF m 1 #[.val (.ref a0r)] [(.ref a0r)])) rfl (hb hby d2_1)
  refine own_via (A' := T1.setTop (mkF m 4 #[.val (.ref a0r)] [(.ref a_EQUAL), (.ref a0r)])) st1 ?_
  by_cases ha4 : a0r = a_EQUAL
  · refine own_via (A' := T1.setTop (mkF m 18 #[.val (.ref a0r)] [])) (fun target kt => Jvm.RoadKit.acmp (g := (mkF m 4 #[.val (.ref a0r)] [(.ref a_EQUAL), (.ref a0r)])) X1 hx rfl rfl rfl (pc0 := 4) (pc' := 18) (same := true) rfl (hb hby d2_4) rfl (decide_eq_true (congrArg Value.ref ha4)) (by decide) (by decide) kt) ?_
    refine own_via (A' := T1.setTop (mkF m 19 #[.val (.ref a0r)] [(.int (0 : Int32))])) (fun target kt => ?_) ?_
    · show Steps p.tables e below (T1.setTop (mkF m 18 #[.val (.ref a0r)] [])) _
      refine XS.iconst X1.here hx rfl (hb hby d2_18) ?_
      exact kt
    exact own_retN X1 Bd.notSynchronized hx (t := .boolean) Bd.returns (by simp) (hb hby d2_19) (show Q2 Z a0r a_EQUAL a_NOT_EQUAL h0 n0 _ _ _ from ⟨by rw [show own_isord a0r a_EQUAL a_NOT_EQUAL = 0 from by simp [own_isord, ha4]] <;> rfl, N0, e1⟩) (by decide) (by decide)
  · refine own_via (A' := T1.setTop (mkF m 7 #[.val (.ref a0r)] [])) (fun target kt => Jvm.RoadKit.acmp (g := (mkF m 4 #[.val (.ref a0r)] [(.ref a_EQUAL), (.ref a0r)])) X1 hx rfl rfl rfl (pc0 := 4) (pc' := 7) (same := false) rfl (hb hby d2_4) rfl (decide_eq_false fun q => ha4 (Value.ref.inj q)) (by decide) (by decide) kt) ?_
    refine own_via (A' := T1.setTop (mkF m 8 #[.val (.ref a0r)] [(.ref a0r)])) (fun target kt => ?_) ?_
    · show Steps p.tables e below (T1.setTop (mkF m 7 #[.val (.ref a0r)] [])) _
      refine XS.aloadN X1.here hx rfl (hb hby d2_7) rfl rfl ?_
      exact kt
    obtain ⟨T2, X2, e2, st2⟩ := getS2 X1 hx hZ hown (host := "") (Or.inl (hw _ (List.mem_of_getElem? (i := 70) rfl))) Via.refl e1 S_NOT_EQUAL (g := (mkF m 8 #[.val (.ref a0r)] [(.ref a0r)])) rfl (hb hby d2_8)
    refine own_via (A' := T2.setTop (mkF m 11 #[.val (.ref a0r)] [(.ref a_NOT_EQUAL), (.ref a0r)])) st2 ?_
    by_cases ha11 : a0r = a_NOT_EQUAL
    · refine own_via (A' := T2.setTop (mkF m 18 #[.val (.ref a0r)] [])) (fun target kt => Jvm.RoadKit.acmp (g := (mkF m 11 #[.val (.ref a0r)] [(.ref a_NOT_EQUAL), (.ref a0r)])) X2 hx rfl rfl rfl (pc0 := 11) (pc' := 18) (same := true) rfl (hb hby d2_11) rfl (decide_eq_true (congrArg Value.ref ha11)) (by decide) (by decide) kt) ?_
      refine own_via (A' := T2.setTop (mkF m 19 #[.val (.ref a0r)] [(.int (0 : Int32))])) (fun target kt => ?_) ?_
      · show Steps p.tables e below (T2.setTop (mkF m 18 #[.val (.ref a0r)] [])) _
        refine XS.iconst X2.here hx rfl (hb hby d2_18) ?_
        exact kt
      exact own_retN X2 Bd.notSynchronized hx (t := .boolean) Bd.returns (by simp) (hb hby d2_19) (show Q2 Z a0r a_EQUAL a_NOT_EQUAL h0 n0 _ _ _ from ⟨by rw [show own_isord a0r a_EQUAL a_NOT_EQUAL = 0 from by simp [own_isord, ha4, ha11]] <;> rfl, N0, e2⟩) (by decide) (by decide)
    · refine own_via (A' := T2.setTop (mkF m 14 #[.val (.ref a0r)] [])) (fun target kt => Jvm.RoadKit.acmp (g := (mkF m 11 #[.val (.ref a0r)] [(.ref a_NOT_EQUAL), (.ref a0r)])) X2 hx rfl rfl rfl (pc0 := 11) (pc' := 14) (same := false) rfl (hb hby d2_11) rfl (decide_eq_false fun q => ha11 (Value.ref.inj q)) (by decide) (by decide) kt) ?_
      refine own_via (A' := T2.setTop (mkF m 19 #[.val (.ref a0r)] [(.int (1 : Int32))])) (fun target kt => ?_) ?_
      · show Steps p.tables e below (T2.setTop (mkF m 14 #[.val (.ref a0r)] [])) _
        refine XS.iconst X2.here hx rfl (hb hby d2_14) ?_
        show Steps p.tables e below (T2.setTop (mkF m 15 #[.val (.ref a0r)] [(.int (1 : Int32))])) _
        refine XS.goto X2.here hx rfl (pc0 := 15) (pc' := 19) rfl (hb hby d2_15) (by decide) (by decide) ?_
        exact kt
      exact own_retN X2 Bd.notSynchronized hx (t := .boolean) Bd.returns (by simp) (hb hby d2_19) (show Q2 Z a0r a_EQUAL a_NOT_EQUAL h0 n0 _ _ _ from ⟨by rw [show own_isord a0r a_EQUAL a_NOT_EQUAL = 1 from by simp [own_isord, ha4, ha11]] <;> rfl, N0, e2⟩) (by decide) (by decide)
theorem d4_0 : decode jdk_37_method_2_code 0 = .ok (.aload_n 0, 1) := by decide +kernel
theorem d4_1 : decode jdk_37_method_2_code 1 = .ok (.getfield 7, 3) := by decide +kernel
theorem d4_4 : decode jdk_37_method_2_code 4 = .ok (.ireturn, 1) := by decide +kernel
theorem pn_4 : plainName "java/lang/Enum" = true := by first | (simp [plainName, overriddenIn]; done) | decide +kernel
theorem ef_4 (m : MethodId) (a0r : Addr) : entryFrame m #[(.ref a0r)] 1 = mkF m 0 #[.val (.ref a0r)] [] := by first | (simp [entryFrame, mkF, argsToLocals, Value.category]; done) | rfl
def Q4 (Z : State) (a0r : Addr) (w0 : Int32) (h0 : Heap) (n0 : Nat) (v : Option Value) (h : Heap) (L : List Loc) : Prop := v = some (.int w0) ∧ Fr n0 L ∧ h = h0
set_option maxRecDepth 65536 in
set_option maxHeartbeats 40000000 in
theorem rm4 (l : Launch) (Z : State) (a0 : Array Value) (hw : ∀ d ∈ tables_1, d.before a0 Z = true) (ws : List Jvm.Cond) (a0r : Addr) (w0 : Int32) (h0 : Heap) (n0 : Nat) (Z0 : n0 ≤ h0.size) (F0 : Fld Z h0 a0r "java/lang/Enum" "ordinal" "I" (.int w0)) :
    MetFree l (⟨"java/lang/Enum", "ordinal", "()I"⟩ : MethodName) (head1 (Jvm.Cond.code (⟨"java/lang/Enum", "ordinal", "()I"⟩ : MethodName) jdk_37_method_2_code 1 (some .int) :: ws) ({ frames := 0, cells := 0, slots := 0, locals := 0 } : Room)) (fun a U => a = #[(.ref a0r)] ∧ Z.Warmed39 U.vm ∧ U.heap = h0) (fun _ _ _ _ _ => True) (fun _ U o U' => ∃ v L, o = .returned v ∧ Q4 Z a0r w0 h0 n0 v U'.heap L ∧ FrameEnd U o U' L ({ frames := 0, cells := 0, slots := 0, locals := 0 } : Room).cells ({ frames := 0, cells := 0, slots := 0, locals := 0 } : Room).slots) := by
  refine MetFree.of_bodySF (plainFor_of_name pn_4) hisR ?_
  intro p e s m args below meth c s₁ Bd hml0 hP hK
  obtain ⟨rfl, hZ, hh⟩ := hP
  have hx := Bd.exec
  have hby := Bd.bytes
  have hml : c.maxLocals = 1 := hml0
  have hown : s.vm.findClass "java/lang/Enum" = some m.cls := findClass_of_methodNamed Bd.named
  have X0 : Stand p l e ({ frames := 0, cells := 0, slots := 0, locals := 0 } : Room) s m #[(.ref a0r)] below meth c s₁ [] 0 0 := Stand.of_body Bd
  have e0 : s₁.heap = h0 := by rw [← hh, Bd.state]; rfl
  have N0 := Fr.nil n0
  show own_G p e below (own_P s (Q4 Z a0r w0 h0 n0) 0 0) _
  refine own_via (A' := s₁.setTop (mkF m 0 #[.val (.ref a0r)] [])) (fun t k => castTop (ef_4 m a0r) k) ?_
  refine own_via (A' := s₁.setTop (mkF m 1 #[.val (.ref a0r)] [(.ref a0r)])) (fun target kt => ?_) ?_
  · show Steps p.tables e below (s₁.setTop (mkF m 0 #[.val (.ref a0r)] [])) _
    refine XS.aloadN X0.here hx rfl (hb hby d4_0) rfl rfl ?_
    exact kt
  obtain ⟨T1, X1, e1, st1⟩ := getF X0 hx hZ hown (host := "") (Or.inl (hw _ (List.mem_of_getElem? (i := 26) rfl))) Via.refl e0 F0 (g := (mkF m 1 #[.val (.ref a0r)] [(.ref a0r)])) rfl rfl (hb hby d4_1)
  refine own_via (A' := T1.setTop (mkF m 4 #[.val (.ref a0r)] [(.int w0)])) st1 ?_
  exact own_retI X1 Bd.notSynchronized hx Bd.returns (hb hby d4_4) (show Q4 Z a0r w0 h0 n0 _ _ _ from ⟨rfl, N0, e1⟩) (by decide) (by decide)
theorem d3_0 : decode prog_113_method_7_code 0 = .ok (.aload_n 0, 1) := by decide +kernel
theorem d3_1 : decode prog_113_method_7_code 1 = .ok (.invokevirtual 48, 3) := by decide +kernel
theorem d3_4 : decode prog_113_method_7_code 4 = .ok (.tableswitch 86 0 4 #[36, 46, 56, 66, 76], 36) := by decide +kernel
theorem d3_40 : decode prog_113_method_7_code 40 = .ok (.iload_n 1, 1) := by decide +kernel
theorem d3_41 : decode prog_113_method_7_code 41 = .ok (.ifCond .ne 7, 3) := by decide +kernel
theorem d3_44 : decode prog_113_method_7_code 44 = .ok (.iconst 1, 1) := by decide +kernel
theorem d3_45 : decode prog_113_method_7_code 45 = .ok (.goto 4, 3) := by decide +kernel
theorem d3_48 : decode prog_113_method_7_code 48 = .ok (.iconst 0, 1) := by decide +kernel
theorem d3_49 : decode prog_113_method_7_code 49 = .ok (.ireturn, 1) := by decide +kernel
theorem d3_50 : decode prog_113_method_7_code 50 = .ok (.iload_n 1, 1) := by decide +kernel
theorem d3_51 : decode prog_113_method_7_code 51 = .ok (.ifCond .eq 7, 3) := by decide +kernel
theorem d3_54 : decode prog_113_method_7_code 54 = .ok (.iconst 1, 1) := by decide +kernel
theorem d3_55 : decode prog_113_method_7_code 55 = .ok (.goto 4, 3) := by decide +kernel
theorem d3_58 : decode prog_113_method_7_code 58 = .ok (.iconst 0, 1) := by decide +kernel
theorem d3_59 : decode prog_113_method_7_code 59 = .ok (.ireturn, 1) := by decide +kernel
theorem d3_60 : decode prog_113_method_7_code 60 = .ok (.iload_n 1, 1) := by decide +kernel
theorem d3_61 : decode prog_113_method_7_code 61 = .ok (.ifCond .gt 7, 3) := by decide +kernel
theorem d3_64 : decode prog_113_method_7_code 64 = .ok (.iconst 1, 1) := by decide +kernel
theorem d3_65 : decode prog_113_method_7_code 65 = .ok (.goto 4, 3) := by decide +kernel
theorem d3_68 : decode prog_113_method_7_code 68 = .ok (.iconst 0, 1) := by decide +kernel
theorem d3_69 : decode prog_113_method_7_code 69 = .ok (.ireturn, 1) := by decide +kernel
theorem d3_70 : decode prog_113_method_7_code 70 = .ok (.iload_n 1, 1) := by decide +kernel
theorem d3_71 : decode prog_113_method_7_code 71 = .ok (.ifCond .ge 7, 3) := by decide +kernel
theorem d3_74 : decode prog_113_method_7_code 74 = .ok (.iconst 1, 1) := by decide +kernel
theorem d3_75 : decode prog_113_method_7_code 75 = .ok (.goto 4, 3) := by decide +kernel
theorem d3_78 : decode prog_113_method_7_code 78 = .ok (.iconst 0, 1) := by decide +kernel
theorem d3_79 : decode prog_113_method_7_code 79 = .ok (.ireturn, 1) := by decide +kernel
theorem d3_80 : decode prog_113_method_7_code 80 = .ok (.iload_n 1, 1) := by decide +kernel
theorem d3_81 : decode prog_113_method_7_code 81 = .ok (.ifCond .lt 7, 3) := by decide +kernel
theorem d3_84 : decode prog_113_method_7_code 84 = .ok (.iconst 1, 1) := by decide +kernel
theorem d3_85 : decode prog_113_method_7_code 85 = .ok (.goto 4, 3) := by decide +kernel
theorem d3_88 : decode prog_113_method_7_code 88 = .ok (.iconst 0, 1) := by decide +kernel
theorem d3_89 : decode prog_113_method_7_code 89 = .ok (.ireturn, 1) := by decide +kernel
theorem d3_90 : decode prog_113_method_7_code 90 = .ok (.iload_n 1, 1) := by decide +kernel
theorem d3_91 : decode prog_113_method_7_code 91 = .ok (.ifCond .le 7, 3) := by decide +kernel
theorem d3_94 : decode prog_113_method_7_code 94 = .ok (.iconst 1, 1) := by decide +kernel
theorem d3_95 : decode prog_113_method_7_code 95 = .ok (.goto 4, 3) := by decide +kernel
theorem d3_98 : decode prog_113_method_7_code 98 = .ok (.iconst 0, 1) := by decide +kernel
theorem d3_99 : decode prog_113_method_7_code 99 = .ok (.ireturn, 1) := by decide +kernel
theorem pn_3 : plainName "com/example/resultree/resultree/xpath/Comparison" = true := by first | (simp [plainName, overriddenIn]; done) | decide +kernel
theorem pd_3_0 : parseMethodDescriptor "()I" = some ⟨[], some .int⟩ := by decide +kernel
theorem ef_3 (m : MethodId) (a0r : Addr) (p0 : Int32) : entryFrame m #[(.ref a0r), (.int p0)] 2 = mkF m 0 #[.val (.ref a0r), .val (.int p0)] [] := by first | (simp [entryFrame, mkF, argsToLocals, Value.category]; done) | rfl
def Q3 (Z : State) (a0r : Addr) (p0 : Int32) (w0 : Int32) (h0 : Heap) (n0 : Nat) (v : Option Value) (h : Heap) (L : List Loc) : Prop := v = some (.int (own_hold w0 p0)) ∧ Fr n0 L ∧ h = h0
set_option maxRecDepth 65536 in
set_option maxHeartbeats 40000000 in
theorem rm3 (l : Launch) (Z : State) (a0 : Array Value) (hw : ∀ d ∈ tables_1, d.before a0 Z = true) (ws : List Jvm.Cond) (a0r : Addr) (p0 : Int32) (w0 : Int32) (h0 : Heap) (n0 : Nat) (Z0 : n0 ≤ h0.size) (hw0 : own_Ix w0) (E0 : Exa Z h0 a0r "com/example/resultree/resultree/xpath/Comparison") (F0 : Fld Z h0 a0r "java/lang/Enum" "ordinal" "I" (.int w0)) :
    MetFree l (⟨"com/example/resultree/resultree/xpath/Comparison", "holds", "(I)Z"⟩ : MethodName) (head1 (Jvm.Cond.code (⟨"com/example/resultree/resultree/xpath/Comparison", "holds", "(I)Z"⟩ : MethodName) prog_113_method_7_code 2 (some .boolean) :: ws) ({ frames := 1, cells := 0, slots := 0, locals := 12 } : Room)) (fun a U => a = #[(.ref a0r), (.int p0)] ∧ Z.Warmed39 U.vm ∧ U.heap = h0) (fun _ _ _ _ _ => True) (fun _ U o U' => ∃ v L, o = .returned v ∧ Q3 Z a0r p0 w0 h0 n0 v U'.heap L ∧ FrameEnd U o U' L ({ frames := 1, cells := 0, slots := 0, locals := 12 } : Room).cells ({ frames := 1, cells := 0, slots := 0, locals := 12 } : Room).slots) := by
  refine MetFree.of_bodySF (plainFor_of_name pn_3) hisR ?_
  intro p e s m args below meth c s₁ Bd hml0 hP hK
  obtain ⟨rfl, hZ, hh⟩ := hP
  have hx := Bd.exec
  have hby := Bd.bytes
  have hml : c.maxLocals = 2 := hml0
  have hown : s.vm.findClass "com/example/resultree/resultree/xpath/Comparison" = some m.cls := findClass_of_methodNamed Bd.named
  have X0 : Stand p l e ({ frames := 1, cells := 0, slots := 0, locals := 12 } : Room) s m #[(.ref a0r), (.int p0)] below meth c s₁ [] 0 0 := Stand.of_body Bd
  have e0 : s₁.heap = h0 := by rw [← hh, Bd.state]; rfl
  have N0 := Fr.nil n0
  show own_G p e below (own_P s (Q3 Z a0r p0 w0 h0 n0) 0 0) _
  refine own_via (A' := s₁.setTop (mkF m 0 #[.val (.ref a0r), .val (.int p0)] [])) (fun t k => castTop (ef_3 m a0r p0) k) ?_
  refine own_via (A' := s₁.setTop (mkF m 1 #[.val (.ref a0r), .val (.int p0)] [(.ref a0r)])) (fun target kt => ?_) ?_
  · show Steps p.tables e below (s₁.setTop (mkF m 0 #[.val (.ref a0r), .val (.int p0)] [])) _
    refine XS.aloadN X0.here hx rfl (hb hby d3_0) rfl rfl ?_
    exact kt
  obtain ⟨cq1, kq1, q1a, q1b, q1c⟩ := isOf hZ e0 E0
  obtain ⟨_, _, ⟨T1, L1, k1, n1⟩, -, X1, ⟨Lc1, hQ1, l1, y1, z1⟩, st1⟩ := X0.virtualBackUp hx (x := (⟨"com/example/resultree/resultree/xpath/Comparison", "ordinal", "()I"⟩ : MethodName)) (y := (⟨"java/lang/Enum", "ordinal", "()I"⟩ : MethodName)) hown (mvT hZ (hw _ (List.mem_of_getElem? (i := 19) rfl))) (mvT hZ (hw _ (List.mem_of_getElem? (i := 20) rfl))) (mvT hZ (hw _ (List.mem_of_getElem? (i := 21) rfl))) (by decide) (mvT hZ (hw _ (List.mem_of_getElem? (i := 23) rfl))) (mvT hZ (hw _ (List.mem_of_getElem? (i := 22) rfl))) (backOf (W := 0) (rm4 l Z a0 hw [] a0r w0 h0 n0 Z0 F0) hZ (hw _ (List.mem_of_getElem? (i := 25) rfl)) (hw _ (List.mem_of_getElem? (i := 24) rfl)) (by decide) (by decide)) q1a q1c (g := (mkF m 1 #[.val (.ref a0r), .val (.int p0)] [(.ref a0r)])) rfl (by rw [hml]; rfl) (Steps.refl _) (argsL := []) (rest := []) (lenOf pd_3_0 rfl) rfl (by show 2 * 0 + _ ≤ _; exact Nat.le_of_eq rfl) (hb hby d3_1) (fun _ _ => ⟨rfl, e0, (by decide : 0 + 0 ≤ _), (by decide : 0 + 0 ≤ _)⟩)
  dsimp only [Pt.U, Pt.locs, Pt.cells, Pt.slots] at X1 l1 y1 z1 st1 hQ1
  subst l1 y1 z1
  obtain ⟨rfl, N1q, e1⟩ := hQ1
  have N1 := Fr.app N0 N1q
  refine own_via (A' := T1.setTop (mkF m 4 #[.val (.ref a0r), .val (.int p0)] [(.int w0)])) (fun _ kt => st1.trans kt) ?_
  rcases hw0 with rfl | rfl | rfl | rfl | rfl | rfl
  · refine own_via (A' := T1.setTop (mkF m 40 #[.val (.ref a0r), .val (.int p0)] [])) (fun target kt => XS.tswIn X1.here hx rfl (pc0 := 4) (pc' := 40) rfl (hb hby d3_4) rfl (by decide) (o := 36) (by decide) (by decide) (by decide) kt) ?_
    refine own_via (A' := T1.setTop (mkF m 41 #[.val (.ref a0r), .val (.int p0)] [(.int p0)])) (fun target kt => ?_) ?_
    · show Steps p.tables e below (T1.setTop (mkF m 40 #[.val (.ref a0r), .val (.int p0)] [])) _
      refine XS.iloadN X1.here hx rfl (hb hby d3_40) rfl ?_
      exact kt
    by_cases hc41 : p0 = (0 : Int32)
    · refine own_via (A' := T1.setTop (mkF m 44 #[.val (.ref a0r), .val (.int p0)] [])) (fun target kt => XS.ifNo X1.here hx rfl (hb hby d3_41) rfl ((if0 _ _).trans (teq hc41).2) kt) ?_
      refine own_via (A' := T1.setTop (mkF m 49 #[.val (.ref a0r), .val (.int p0)] [(.int (1 : Int32))])) (fun target kt => ?_) ?_
      · show Steps p.tables e below (T1.setTop (mkF m 44 #[.val (.ref a0r), .val (.int p0)] [])) _
        refine XS.iconst X1.here hx rfl (hb hby d3_44) ?_
        show Steps p.tables e below (T1.setTop (mkF m 45 #[.val (.ref a0r), .val (.int p0)] [(.int (1 : Int32))])) _
        refine XS.goto X1.here hx rfl (pc0 := 45) (pc' := 49) rfl (hb hby d3_45) (by decide) (by decide) ?_
        exact kt
      exact own_retN X1 Bd.notSynchronized hx (t := .boolean) Bd.returns (by simp) (hb hby d3_49) (show Q3 Z a0r p0 (0 : Int32) h0 n0 _ _ _ from ⟨by rw [show own_hold (0 : Int32) p0 = 1 from by simp [own_hold, hc41]] <;> rfl, N1, e1⟩) (by decide) (by decide)
    · refine own_via (A' := T1.setTop (mkF m 48 #[.val (.ref a0r), .val (.int p0)] [])) (fun target kt => XS.ifYes X1.here hx rfl (pc0 := 41) (pc' := 48) rfl (hb hby d3_41) rfl ((if0 _ _).trans (feq hc41).2) (by decide) (by decide) kt) ?_
      refine own_via (A' := T1.setTop (mkF m 49 #[.val (.ref a0r), .val (.int p0)] [(.int (0 : Int32))])) (fun target kt => ?_) ?_
      · show Steps p.tables e below (T1.setTop (mkF m 48 #[.val (.ref a0r), .val (.int p0)] [])) _
        refine XS.iconst X1.here hx rfl (hb hby d3_48) ?_
        exact kt
      exact own_retN X1 Bd.notSynchronized hx (t := .boolean) Bd.returns (by simp) (hb hby d3_49) (show Q3 Z a0r p0 (0 : Int32) h0 n0 _ _ _ from ⟨by rw [show own_hold (0 : Int32) p0 = 0 from by simp [own_hold, hc41]] <;> rfl, N1, e1⟩) (by decide) (by decide)
  · refine own_via (A' := T1.setTop (mkF m 50 #[.val (.ref a0r), .val (.int p0)] [])) (fun target kt => XS.tswIn X1.here hx rfl (pc0 := 4) (pc' := 50) rfl (hb hby d3_4) rfl (by decide) (o := 46) (by decide) (by decide) (by decide) kt) ?_
    refine own_via (A' := T1.setTop (mkF m 51 #[.val (.ref a0r), .val (.int p0)] [(.int p0)])) (fun target kt => ?_) ?_
    · show Steps p.tables e below (T1.setTop (mkF m 50 #[.val (.ref a0r), .val (.int p0)] [])) _
      refine XS.iloadN X1.here hx rfl (hb hby d3_50) rfl ?_
      exact kt
    by_cases hc51 : p0 = (0 : Int32)
    · refine own_via (A' := T1.setTop (mkF m 58 #[.val (.ref a0r), .val (.int p0)] [])) (fun target kt => XS.ifYes X1.here hx rfl (pc0 := 51) (pc' := 58) rfl (hb hby d3_51) rfl ((if0 _ _).trans (teq hc51).1) (by decide) (by decide) kt) ?_
      refine own_via (A' := T1.setTop (mkF m 59 #[.val (.ref a0r), .val (.int p0)] [(.int (0 : Int32))])) (fun target kt => ?_) ?_
      · show Steps p.tables e below (T1.setTop (mkF m 58 #[.val (.ref a0r), .val (.int p0)] [])) _
        refine XS.iconst X1.here hx rfl (hb hby d3_58) ?_
        exact kt
      exact own_retN X1 Bd.notSynchronized hx (t := .boolean) Bd.returns (by simp) (hb hby d3_59) (show Q3 Z a0r p0 (1 : Int32) h0 n0 _ _ _ from ⟨by rw [show own_hold (1 : Int32) p0 = 0 from by simp [own_hold, hc51]] <;> rfl, N1, e1⟩) (by decide) (by decide)
    · refine own_via (A' := T1.setTop (mkF m 54 #[.val (.ref a0r), .val (.int p0)] [])) (fun target kt => XS.ifNo X1.here hx rfl (hb hby d3_51) rfl ((if0 _ _).trans (feq hc51).1) kt) ?_
      refine own_via (A' := T1.setTop (mkF m 59 #[.val (.ref a0r), .val (.int p0)] [(.int (1 : Int32))])) (fun target kt => ?_) ?_
      · show Steps p.tables e below (T1.setTop (mkF m 54 #[.val (.ref a0r), .val (.int p0)] [])) _
        refine XS.iconst X1.here hx rfl (hb hby d3_54) ?_
        show Steps p.tables e below (T1.setTop (mkF m 55 #[.val (.ref a0r), .val (.int p0)] [(.int (1 : Int32))])) _
        refine XS.goto X1.here hx rfl (pc0 := 55) (pc' := 59) rfl (hb hby d3_55) (by decide) (by decide) ?_
        exact kt
      exact own_retN X1 Bd.notSynchronized hx (t := .boolean) Bd.returns (by simp) (hb hby d3_59) (show Q3 Z a0r p0 (1 : Int32) h0 n0 _ _ _ from ⟨by rw [show own_hold (1 : Int32) p0 = 1 from by simp [own_hold, hc51]] <;> rfl, N1, e1⟩) (by decide) (by decide)
  · refine own_via (A' := T1.setTop (mkF m 60 #[.val (.ref a0r), .val (.int p0)] [])) (fun target kt => XS.tswIn X1.here hx rfl (pc0 := 4) (pc' := 60) rfl (hb hby d3_4) rfl (by decide) (o := 56) (by decide) (by decide) (by decide) kt) ?_
    refine own_via (A' := T1.setTop (mkF m 61 #[.val (.ref a0r), .val (.int p0)] [(.int p0)])) (fun target kt => ?_) ?_
    · show Steps p.tables e below (T1.setTop (mkF m 60 #[.val (.ref a0r), .val (.int p0)] [])) _
      refine XS.iloadN X1.here hx rfl (hb hby d3_60) rfl ?_
      exact kt
    by_cases hc61 : (0 : Int32) < p0
    · refine own_via (A' := T1.setTop (mkF m 68 #[.val (.ref a0r), .val (.int p0)] [])) (fun target kt => XS.ifYes X1.here hx rfl (pc0 := 61) (pc' := 68) rfl (hb hby d3_61) rfl ((if0 _ _).trans (tlt hc61).2.2.1) (by decide) (by decide) kt) ?_
      refine own_via (A' := T1.setTop (mkF m 69 #[.val (.ref a0r), .val (.int p0)] [(.int (0 : Int32))])) (fun target kt => ?_) ?_
      · show Steps p.tables e below (T1.setTop (mkF m 68 #[.val (.ref a0r), .val (.int p0)] [])) _
        refine XS.iconst X1.here hx rfl (hb hby d3_68) ?_
        exact kt
      exact own_retN X1 Bd.notSynchronized hx (t := .boolean) Bd.returns (by simp) (hb hby d3_69) (show Q3 Z a0r p0 (2 : Int32) h0 n0 _ _ _ from ⟨by rw [show own_hold (2 : Int32) p0 = 0 from by simp [own_hold, hc61]] <;> rfl, N1, e1⟩) (by decide) (by decide)
    · refine own_via (A' := T1.setTop (mkF m 64 #[.val (.ref a0r), .val (.int p0)] [])) (fun target kt => XS.ifNo X1.here hx rfl (hb hby d3_61) rfl ((if0 _ _).trans (flt hc61).2.2.1) kt) ?_
      refine own_via (A' := T1.setTop (mkF m 69 #[.val (.ref a0r), .val (.int p0)] [(.int (1 : Int32))])) (fun target kt => ?_) ?_
      · show Steps p.tables e below (T1.setTop (mkF m 64 #[.val (.ref a0r), .val (.int p0)] [])) _
        refine XS.iconst X1.here hx rfl (hb hby d3_64) ?_
        show Steps p.tables e below (T1.setTop (mkF m 65 #[.val (.ref a0r), .val (.int p0)] [(.int (1 : Int32))])) _
        refine XS.goto X1.here hx rfl (pc0 := 65) (pc' := 69) rfl (hb hby d3_65) (by decide) (by decide) ?_
        exact kt
      exact own_retN X1 Bd.notSynchronized hx (t := .boolean) Bd.returns (by simp) (hb hby d3_69) (show Q3 Z a0r p0 (2 : Int32) h0 n0 _ _ _ from ⟨by rw [show own_hold (2 : Int32) p0 = 1 from by simp [own_hold, hc61]] <;> rfl, N1, e1⟩) (by decide) (by decide)
  · refine own_via (A' := T1.setTop (mkF m 70 #[.val (.ref a0r), .val (.int p0)] [])) (fun target kt => XS.tswIn X1.here hx rfl (pc0 := 4) (pc' := 70) rfl (hb hby d3_4) rfl (by decide) (o := 66) (by decide) (by decide) (by decide) kt) ?_
    refine own_via (A' := T1.setTop (mkF m 71 #[.val (.ref a0r), .val (.int p0)] [(.int p0)])) (fun target kt => ?_) ?_
    · show Steps p.tables e below (T1.setTop (mkF m 70 #[.val (.ref a0r), .val (.int p0)] [])) _
      refine XS.iloadN X1.here hx rfl (hb hby d3_70) rfl ?_
      exact kt
    by_cases hc71 : p0 < (0 : Int32)
    · refine own_via (A' := T1.setTop (mkF m 74 #[.val (.ref a0r), .val (.int p0)] [])) (fun target kt => XS.ifNo X1.here hx rfl (hb hby d3_71) rfl ((if0 _ _).trans (tlt hc71).2.1) kt) ?_
      refine own_via (A' := T1.setTop (mkF m 79 #[.val (.ref a0r), .val (.int p0)] [(.int (1 : Int32))])) (fun target kt => ?_) ?_
      · show Steps p.tables e below (T1.setTop (mkF m 74 #[.val (.ref a0r), .val (.int p0)] [])) _
        refine XS.iconst X1.here hx rfl (hb hby d3_74) ?_
        show Steps p.tables e below (T1.setTop (mkF m 75 #[.val (.ref a0r), .val (.int p0)] [(.int (1 : Int32))])) _
        refine XS.goto X1.here hx rfl (pc0 := 75) (pc' := 79) rfl (hb hby d3_75) (by decide) (by decide) ?_
        exact kt
      exact own_retN X1 Bd.notSynchronized hx (t := .boolean) Bd.returns (by simp) (hb hby d3_79) (show Q3 Z a0r p0 (3 : Int32) h0 n0 _ _ _ from ⟨by rw [show own_hold (3 : Int32) p0 = 1 from by simp [own_hold, hc71]] <;> rfl, N1, e1⟩) (by decide) (by decide)
    · refine own_via (A' := T1.setTop (mkF m 78 #[.val (.ref a0r), .val (.int p0)] [])) (fun target kt => XS.ifYes X1.here hx rfl (pc0 := 71) (pc' := 78) rfl (hb hby d3_71) rfl ((if0 _ _).trans (flt hc71).2.1) (by decide) (by decide) kt) ?_
      refine own_via (A' := T1.setTop (mkF m 79 #[.val (.ref a0r), .val (.int p0)] [(.int (0 : Int32))])) (fun target kt => ?_) ?_
      · show Steps p.tables e below (T1.setTop (mkF m 78 #[.val (.ref a0r), .val (.int p0)] [])) _
        refine XS.iconst X1.here hx rfl (hb hby d3_78) ?_
        exact kt
      exact own_retN X1 Bd.notSynchronized hx (t := .boolean) Bd.returns (by simp) (hb hby d3_79) (show Q3 Z a0r p0 (3 : Int32) h0 n0 _ _ _ from ⟨by rw [show own_hold (3 : Int32) p0 = 0 from by simp [own_hold, hc71]] <;> rfl, N1, e1⟩) (by decide) (by decide)
  · refine own_via (A' := T1.setTop (mkF m 80 #[.val (.ref a0r), .val (.int p0)] [])) (fun target kt => XS.tswIn X1.here hx rfl (pc0 := 4) (pc' := 80) rfl (hb hby d3_4) rfl (by decide) (o := 76) (by decide) (by decide) (by decide) kt) ?_
    refine own_via (A' := T1.setTop (mkF m 81 #[.val (.ref a0r), .val (.int p0)] [(.int p0)])) (fun target kt => ?_) ?_
    · show Steps p.tables e below (T1.setTop (mkF m 80 #[.val (.ref a0r), .val (.int p0)] [])) _
      refine XS.iloadN X1.here hx rfl (hb hby d3_80) rfl ?_
      exact kt
    by_cases hc81 : p0 < (0 : Int32)
    · refine own_via (A' := T1.setTop (mkF m 88 #[.val (.ref a0r), .val (.int p0)] [])) (fun target kt => XS.ifYes X1.here hx rfl (pc0 := 81) (pc' := 88) rfl (hb hby d3_81) rfl ((if0 _ _).trans (tlt hc81).1) (by decide) (by decide) kt) ?_
      refine own_via (A' := T1.setTop (mkF m 89 #[.val (.ref a0r), .val (.int p0)] [(.int (0 : Int32))])) (fun target kt => ?_) ?_
      · show Steps p.tables e below (T1.setTop (mkF m 88 #[.val (.ref a0r), .val (.int p0)] [])) _
        refine XS.iconst X1.here hx rfl (hb hby d3_88) ?_
        exact kt
      exact own_retN X1 Bd.notSynchronized hx (t := .boolean) Bd.returns (by simp) (hb hby d3_89) (show Q3 Z a0r p0 (4 : Int32) h0 n0 _ _ _ from ⟨by rw [show own_hold (4 : Int32) p0 = 0 from by simp [own_hold, hc81]] <;> rfl, N1, e1⟩) (by decide) (by decide)
    · refine own_via (A' := T1.setTop (mkF m 84 #[.val (.ref a0r), .val (.int p0)] [])) (fun target kt => XS.ifNo X1.here hx rfl (hb hby d3_81) rfl ((if0 _ _).trans (flt hc81).1) kt) ?_
      refine own_via (A' := T1.setTop (mkF m 89 #[.val (.ref a0r), .val (.int p0)] [(.int (1 : Int32))])) (fun target kt => ?_) ?_
      · show Steps p.tables e below (T1.setTop (mkF m 84 #[.val (.ref a0r), .val (.int p0)] [])) _
        refine XS.iconst X1.here hx rfl (hb hby d3_84) ?_
        show Steps p.tables e below (T1.setTop (mkF m 85 #[.val (.ref a0r), .val (.int p0)] [(.int (1 : Int32))])) _
        refine XS.goto X1.here hx rfl (pc0 := 85) (pc' := 89) rfl (hb hby d3_85) (by decide) (by decide) ?_
        exact kt
      exact own_retN X1 Bd.notSynchronized hx (t := .boolean) Bd.returns (by simp) (hb hby d3_89) (show Q3 Z a0r p0 (4 : Int32) h0 n0 _ _ _ from ⟨by rw [show own_hold (4 : Int32) p0 = 1 from by simp [own_hold, hc81]] <;> rfl, N1, e1⟩) (by decide) (by decide)
  · refine own_via (A' := T1.setTop (mkF m 90 #[.val (.ref a0r), .val (.int p0)] [])) (fun target kt => XS.tswOut X1.here hx rfl (pc0 := 4) (pc' := 90) rfl (hb hby d3_4) rfl (by decide) (by decide) (by decide) kt) ?_
    refine own_via (A' := T1.setTop (mkF m 91 #[.val (.ref a0r), .val (.int p0)] [(.int p0)])) (fun target kt => ?_) ?_
    · show Steps p.tables e below (T1.setTop (mkF m 90 #[.val (.ref a0r), .val (.int p0)] [])) _
      refine XS.iloadN X1.here hx rfl (hb hby d3_90) rfl ?_
      exact kt
    by_cases hc91 : (0 : Int32) < p0
    · refine own_via (A' := T1.setTop (mkF m 94 #[.val (.ref a0r), .val (.int p0)] [])) (fun target kt => XS.ifNo X1.here hx rfl (hb hby d3_91) rfl ((if0 _ _).trans (tlt hc91).2.2.2) kt) ?_
      refine own_via (A' := T1.setTop (mkF m 99 #[.val (.ref a0r), .val (.int p0)] [(.int (1 : Int32))])) (fun target kt => ?_) ?_
      · show Steps p.tables e below (T1.setTop (mkF m 94 #[.val (.ref a0r), .val (.int p0)] [])) _
        refine XS.iconst X1.here hx rfl (hb hby d3_94) ?_
        show Steps p.tables e below (T1.setTop (mkF m 95 #[.val (.ref a0r), .val (.int p0)] [(.int (1 : Int32))])) _
        refine XS.goto X1.here hx rfl (pc0 := 95) (pc' := 99) rfl (hb hby d3_95) (by decide) (by decide) ?_
        exact kt
      exact own_retN X1 Bd.notSynchronized hx (t := .boolean) Bd.returns (by simp) (hb hby d3_99) (show Q3 Z a0r p0 (5 : Int32) h0 n0 _ _ _ from ⟨by rw [show own_hold (5 : Int32) p0 = 1 from by simp [own_hold, hc91]] <;> rfl, N1, e1⟩) (by decide) (by decide)
    · refine own_via (A' := T1.setTop (mkF m 98 #[.val (.ref a0r), .val (.int p0)] [])) (fun target kt => XS.ifYes X1.here hx rfl (pc0 := 91) (pc' := 98) rfl (hb hby d3_91) rfl ((if0 _ _).trans (flt hc91).2.2.2) (by decide) (by decide) kt) ?_
      refine own_via (A' := T1.setTop (mkF m 99 #[.val (.ref a0r), .val (.int p0)] [(.int (0 : Int32))])) (fun target kt => ?_) ?_
      · show Steps p.tables e below (T1.setTop (mkF m 98 #[.val (.ref a0r), .val (.int p0)] [])) _
        refine XS.iconst X1.here hx rfl (hb hby d3_98) ?_
        exact kt
      exact own_retN X1 Bd.notSynchronized hx (t := .boolean) Bd.returns (by simp) (hb hby d3_99) (show Q3 Z a0r p0 (5 : Int32) h0 n0 _ _ _ from ⟨by rw [show own_hold (5 : Int32) p0 = 0 from by simp [own_hold, hc91]] <;> rfl, N1, e1⟩) (by decide) (by decide)
theorem d5_0 : decode prog_113_method_4_code 0 = .ok (.aload_n 0, 1) := by decide +kernel
theorem d5_1 : decode prog_113_method_4_code 1 = .ok (.getfield 41, 3) := by decide +kernel
theorem d5_4 : decode prog_113_method_4_code 4 = .ok (.areturn, 1) := by decide +kernel
theorem pn_5 : plainName "com/example/resultree/resultree/xpath/Comparison" = true := by first | (simp [plainName, overriddenIn]; done) | decide +kernel
theorem ef_5 (m : MethodId) (a0r : Addr) : entryFrame m #[(.ref a0r)] 1 = mkF m 0 #[.val (.ref a0r)] [] := by first | (simp [entryFrame, mkF, argsToLocals, Value.category]; done) | rfl
def Q5 (Z : State) (a0r : Addr) (y0 : Addr) (h0 : Heap) (n0 : Nat) (v : Option Value) (h : Heap) (L : List Loc) : Prop := v = some (.ref y0) ∧ Fr n0 L ∧ h = h0
set_option maxRecDepth 65536 in
set_option maxHeartbeats 40000000 in
theorem rm5 (l : Launch) (Z : State) (a0 : Array Value) (hw : ∀ d ∈ tables_1, d.before a0 Z = true) (ws : List Jvm.Cond) (a0r : Addr) (y0 : Addr) (h0 : Heap) (n0 : Nat) (Z0 : n0 ≤ h0.size) (F0 : Fld Z h0 a0r "com/example/resultree/resultree/xpath/Comparison" "symbol" "Ljava/lang/String;" (.ref y0)) :
    MetFree l (⟨"com/example/resultree/resultree/xpath/Comparison", "symbol", "()Ljava/lang/String;"⟩ : MethodName) (head1 (Jvm.Cond.code (⟨"com/example/resultree/resultree/xpath/Comparison", "symbol", "()Ljava/lang/String;"⟩ : MethodName) prog_113_method_4_code 1 (some (.object "java/lang/String")) :: ws) ({ frames := 0, cells := 0, slots := 0, locals := 0 } : Room)) (fun a U => a = #[(.ref a0r)] ∧ Z.Warmed39 U.vm ∧ U.heap = h0) (fun _ _ _ _ _ => True) (fun _ U o U' => ∃ v L, o = .returned v ∧ Q5 Z a0r y0 h0 n0 v U'.heap L ∧ FrameEnd U o U' L ({ frames := 0, cells := 0, slots := 0, locals := 0 } : Room).cells ({ frames := 0, cells := 0, slots := 0, locals := 0 } : Room).slots) := by
  refine MetFree.of_bodySF (plainFor_of_name pn_5) hisR ?_
  intro p e s m args below meth c s₁ Bd hml0 hP hK
  obtain ⟨rfl, hZ, hh⟩ := hP
  have hx := Bd.exec
  have hby := Bd.bytes
  have hml : c.maxLocals = 1 := hml0
  have hown : s.vm.findClass "com/example/resultree/resultree/xpath/Comparison" = some m.cls := findClass_of_methodNamed Bd.named
  have X0 : Stand p l e ({ frames := 0, cells := 0, slots := 0, locals := 0 } : Room) s m #[(.ref a0r)] below meth c s₁ [] 0 0 := Stand.of_body Bd
  have e0 : s₁.heap = h0 := by rw [← hh, Bd.state]; rfl
  have N0 := Fr.nil n0
  show own_G p e below (own_P s (Q5 Z a0r y0 h0 n0) 0 0) _
  refine own_via (A' := s₁.setTop (mkF m 0 #[.val (.ref a0r)] [])) (fun t k => castTop (ef_5 m a0r) k) ?_
  refine own_via (A' := s₁.setTop (mkF m 1 #[.val (.ref a0r)] [(.ref a0r)])) (fun target kt => ?_) ?_
  · show Steps p.tables e below (s₁.setTop (mkF m 0 #[.val (.ref a0r)] [])) _
    refine XS.aloadN X0.here hx rfl (hb hby d5_0) rfl rfl ?_
    exact kt
  obtain ⟨T1, X1, e1, st1⟩ := getF X0 hx hZ hown (host := "") (Or.inl (hw _ (List.mem_of_getElem? (i := 33) rfl))) Via.refl e0 F0 (g := (mkF m 1 #[.val (.ref a0r)] [(.ref a0r)])) rfl rfl (hb hby d5_1)
  refine own_via (A' := T1.setTop (mkF m 4 #[.val (.ref a0r)] [(.ref y0)])) st1 ?_
  exact own_retA X1 Bd.notSynchronized hx Bd.returns rfl (hb hby d5_4) (show Q5 Z a0r y0 h0 n0 _ _ _ from ⟨rfl, N0, e1⟩) (by decide) (by decide)
theorem d6_0 : decode jdk_42_method_55_code 0 = .ok (.aload_n 0, 1) := by decide +kernel
theorem d6_1 : decode jdk_42_method_55_code 1 = .ok (.getfield 9, 3) := by decide +kernel
theorem d6_4 : decode jdk_42_method_55_code 4 = .ok (.arraylength, 1) := by decide +kernel
theorem d6_5 : decode jdk_42_method_55_code 5 = .ok (.ifCond .ne 7, 3) := by decide +kernel
theorem d6_12 : decode jdk_42_method_55_code 12 = .ok (.iconst 0, 1) := by decide +kernel
theorem d6_13 : decode jdk_42_method_55_code 13 = .ok (.ireturn, 1) := by decide +kernel
theorem pn_6 : plainName "java/lang/String" = true := by first | (simp [plainName, overriddenIn]; done) | decide +kernel
theorem ef_6 (m : MethodId) (a0r : Addr) : entryFrame m #[(.ref a0r)] 1 = mkF m 0 #[.val (.ref a0r)] [] := by first | (simp [entryFrame, mkF, argsToLocals, Value.category]; done) | rfl
def Q6 (Z : State) (a0r : Addr) (v0 : Addr) (cl0 : Cell) (z0 : Int32) (h0 : Heap) (n0 : Nat) (v : Option Value) (h : Heap) (L : List Loc) : Prop := v = some (.int (0 : Int32)) ∧ Fr n0 L ∧ h = h0
set_option maxRecDepth 65536 in
set_option maxHeartbeats 40000000 in
theorem rm6 (l : Launch) (Z : State) (a0 : Array Value) (hw : ∀ d ∈ tables_1, d.before a0 Z = true) (ws : List Jvm.Cond) (a0r : Addr) (v0 : Addr) (cl0 : Cell) (z0 : Int32) (h0 : Heap) (n0 : Nat) (Z0 : n0 ≤ h0.size) (F0 : Fld Z h0 a0r "java/lang/String" "value" "[B" (.ref v0)) (Ar0 : Arr Z h0 v0 cl0 .byte) (hz0 : cl0.slots.size.toInt32 = z0) (hz1 : ¬ z0 = 0) :
    MetFree l (⟨"java/lang/String", "isEmpty", "()Z"⟩ : MethodName) (head1 (Jvm.Cond.code (⟨"java/lang/String", "isEmpty", "()Z"⟩ : MethodName) jdk_42_method_55_code 1 (some .boolean) :: ws) ({ frames := 0, cells := 0, slots := 0, locals := 0 } : Room)) (fun a U => a = #[(.ref a0r)] ∧ Z.Warmed39 U.vm ∧ U.heap = h0) (fun _ _ _ _ _ => True) (fun _ U o U' => ∃ v L, o = .returned v ∧ Q6 Z a0r v0 cl0 z0 h0 n0 v U'.heap L ∧ FrameEnd U o U' L ({ frames := 0, cells := 0, slots := 0, locals := 0 } : Room).cells ({ frames := 0, cells := 0, slots := 0, locals := 0 } : Room).slots) := by
  refine MetFree.of_bodySF (plainFor_of_name pn_6) hisR ?_
  intro p e s m args below meth c s₁ Bd hml0 hP hK
  obtain ⟨rfl, hZ, hh⟩ := hP
  have hx := Bd.exec
  have hby := Bd.bytes
  have hml : c.maxLocals = 1 := hml0
  have hown : s.vm.findClass "java/lang/String" = some m.cls := findClass_of_methodNamed Bd.named
  have X0 : Stand p l e ({ frames := 0, cells := 0, slots := 0, locals := 0 } : Room) s m #[(.ref a0r)] below meth c s₁ [] 0 0 := Stand.of_body Bd
  have e0 : s₁.heap = h0 := by rw [← hh, Bd.state]; rfl
  have N0 := Fr.nil n0
  show own_G p e below (own_P s (Q6 Z a0r v0 cl0 z0 h0 n0) 0 0) _
  refine own_via (A' := s₁.setTop (mkF m 0 #[.val (.ref a0r)] [])) (fun t k => castTop (ef_6 m a0r) k) ?_
  refine own_via (A' := s₁.setTop (mkF m 1 #[.val (.ref a0r)] [(.ref a0r)])) (fun target kt => ?_) ?_
  · show Steps p.tables e below (s₁.setTop (mkF m 0 #[.val (.ref a0r)] [])) _
    refine XS.aloadN X0.here hx rfl (hb hby d6_0) rfl rfl ?_
    exact kt
  obtain ⟨T1, X1, e1, st1⟩ := getF X0 hx hZ hown (host := "") (Or.inl (hw _ (List.mem_of_getElem? (i := 41) rfl))) Via.refl e0 F0 (g := (mkF m 1 #[.val (.ref a0r)] [(.ref a0r)])) rfl rfl (hb hby d6_1)
  refine own_via (A' := T1.setTop (mkF m 4 #[.val (.ref a0r)] [(.ref v0)])) st1 ?_
  refine own_via (A' := T1.setTop (mkF m 5 #[.val (.ref a0r)] [(.int z0)])) (fun target kt => X1.arraylength hx (by rw [e1]; exact Ar0.1) (State.isArrayOf_alike hZ.alike Ar0.2.1) (g := (mkF m 4 #[.val (.ref a0r)] [(.ref v0)])) rfl rfl (hb hby d6_4) _ (by rw [hz0]; exact kt)) ?_
  refine own_via (A' := T1.setTop (mkF m 12 #[.val (.ref a0r)] [])) (fun target kt => XS.ifYes X1.here hx rfl (pc0 := 5) (pc' := 12) rfl (hb hby d6_5) rfl ((if0 _ _).trans (feq (hz1 : ¬ (z0 = (0 : Int32)))).2) (by decide) (by decide) kt) ?_
  refine own_via (A' := T1.setTop (mkF m 13 #[.val (.ref a0r)] [(.int (0 : Int32))])) (fun target kt => ?_) ?_
  · show Steps p.tables e below (T1.setTop (mkF m 12 #[.val (.ref a0r)] [])) _
    refine XS.iconst X1.here hx rfl (hb hby d6_12) ?_
    exact kt
  exact own_retN X1 Bd.notSynchronized hx (t := .boolean) Bd.returns (by simp) (hb hby d6_13) (show Q6 Z a0r v0 cl0 z0 h0 n0 _ _ _ from ⟨rfl, N0, e1⟩) (by decide) (by decide)
theorem d11_0 : decode jdk_41_method_11_code 0 = .ok (.iload_n 0, 1) := by decide +kernel
theorem d11_1 : decode jdk_41_method_11_code 1 = .ok (.ifCond .lt 8, 3) := by decide +kernel
theorem d11_4 : decode jdk_41_method_11_code 4 = .ok (.iload_n 0, 1) := by decide +kernel
theorem d11_5 : decode jdk_41_method_11_code 5 = .ok (.iload_n 1, 1) := by decide +kernel
theorem d11_6 : decode jdk_41_method_11_code 6 = .ok (.if_icmp .lt 10, 3) := by decide +kernel
theorem d11_16 : decode jdk_41_method_11_code 16 = .ok (.iload_n 0, 1) := by decide +kernel
theorem d11_17 : decode jdk_41_method_11_code 17 = .ok (.ireturn, 1) := by decide +kernel
theorem pn_11 : plainName "jdk/internal/util/Preconditions" = true := by first | (simp [plainName, overriddenIn]; done) | decide +kernel
theorem ef_11 (m : MethodId) (p0 : Int32) (p1 : Int32) (vf : Value) (hv_vf : vf.isRef = true) : entryFrame m #[(.int p0), (.int p1), vf] 3 = mkF m 0 #[.val (.int p0), .val (.int p1), .val vf] [] := by rcases ref_cases hv_vf with rfl | ⟨b_vf, rfl⟩ <;> first | (simp [entryFrame, mkF, argsToLocals, Value.category]; done) | rfl
def Q11 (Z : State) (p0 : Int32) (p1 : Int32) (vf : Value)  (h0 : Heap) (n0 : Nat) (v : Option Value) (h : Heap) (L : List Loc) : Prop := v = some (.int p0) ∧ Fr n0 L ∧ h = h0
set_option maxRecDepth 65536 in
set_option maxHeartbeats 40000000 in
theorem rm11 (l : Launch) (Z : State) (a0 : Array Value) (hw : ∀ d ∈ tables_1, d.before a0 Z = true) (ws : List Jvm.Cond) (p0 : Int32) (p1 : Int32) (vf : Value)  (h0 : Heap) (n0 : Nat) (Z0 : n0 ≤ h0.size) (hv_vf : vf.isRef = true) (hp0 : ¬ p0 < 0) (hp1 : p0 < p1) :
    MetFree l (⟨"jdk/internal/util/Preconditions", "checkIndex", "(IILjava/util/function/BiFunction;)I"⟩ : MethodName) (head1 (Jvm.Cond.code (⟨"jdk/internal/util/Preconditions", "checkIndex", "(IILjava/util/function/BiFunction;)I"⟩ : MethodName) jdk_41_method_11_code 3 (some .int) :: ws) ({ frames := 0, cells := 0, slots := 0, locals := 0 } : Room)) (fun a U => a = #[(.int p0), (.int p1), vf] ∧ Z.Warmed39 U.vm ∧ U.heap = h0) (fun _ _ _ _ _ => True) (fun _ U o U' => ∃ v L, o = .returned v ∧ Q11 Z p0 p1 vf h0 n0 v U'.heap L ∧ FrameEnd U o U' L ({ frames := 0, cells := 0, slots := 0, locals := 0 } : Room).cells ({ frames := 0, cells := 0, slots := 0, locals := 0 } : Room).slots) := by
  refine MetFree.of_bodySF (plainFor_of_name pn_11) hisR ?_
  intro p e s m args below meth c s₁ Bd hml0 hP hK
  obtain ⟨rfl, hZ, hh⟩ := hP
  have hx := Bd.exec
  have hby := Bd.bytes
  have hml : c.maxLocals = 3 := hml0
  have hown : s.vm.findClass "jdk/internal/util/Preconditions" = some m.cls := findClass_of_methodNamed Bd.named
  have X0 : Stand p l e ({ frames := 0, cells := 0, slots := 0, locals := 0 } : Room) s m #[(.int p0), (.int p1), vf] below meth c s₁ [] 0 0 := Stand.of_body Bd
  have e0 : s₁.heap = h0 := by rw [← hh, Bd.state]; rfl
  have N0 := Fr.nil n0
  show own_G p e below (own_P s (Q11 Z p0 p1 vf h0 n0) 0 0) _
  refine own_via (A' := s₁.setTop (mkF m 0 #[.val (.int p0), .val (.int p1), .val vf] [])) (fun t k => castTop (ef_11 m p0 p1 vf hv_vf) k) ?_
  refine own_via (A' := s₁.setTop (mkF m 1 #[.val (.int p0), .val (.int p1), .val vf] [(.int p0)])) (fun target kt => ?_) ?_
  · show Steps p.tables e below (s₁.setTop (mkF m 0 #[.val (.int p0), .val (.int p1), .val vf] [])) _
    refine XS.iloadN X0.here hx rfl (hb hby d11_0) rfl ?_
    exact kt
  refine own_via (A' := s₁.setTop (mkF m 4 #[.val (.int p0), .val (.int p1), .val vf] [])) (fun target kt => XS.ifNo X0.here hx rfl (hb hby d11_1) rfl ((if0 _ _).trans (flt (hp0 : ¬ (p0 < (0 : Int32)))).1) kt) ?_
  refine own_via (A' := s₁.setTop (mkF m 6 #[.val (.int p0), .val (.int p1), .val vf] [(.int p1), (.int p0)])) (fun target kt => ?_) ?_
  · show Steps p.tables e below (s₁.setTop (mkF m 4 #[.val (.int p0), .val (.int p1), .val vf] [])) _
    refine XS.iloadN X0.here hx rfl (hb hby d11_4) rfl ?_
    show Steps p.tables e below (s₁.setTop (mkF m 5 #[.val (.int p0), .val (.int p1), .val vf] [(.int p0)])) _
    refine XS.iloadN X0.here hx rfl (hb hby d11_5) rfl ?_
    exact kt
  refine own_via (A' := s₁.setTop (mkF m 16 #[.val (.int p0), .val (.int p1), .val vf] [])) (fun target kt => XS.icmpYes X0.here hx rfl (pc0 := 6) (pc' := 16) rfl (hb hby d11_6) rfl (tlt (hp1 : p0 < p1)).1 (by decide) (by decide) kt) ?_
  refine own_via (A' := s₁.setTop (mkF m 17 #[.val (.int p0), .val (.int p1), .val vf] [(.int p0)])) (fun target kt => ?_) ?_
  · show Steps p.tables e below (s₁.setTop (mkF m 16 #[.val (.int p0), .val (.int p1), .val vf] [])) _
    refine XS.iloadN X0.here hx rfl (hb hby d11_16) rfl ?_
    exact kt
  exact own_retI X0 Bd.notSynchronized hx Bd.returns (hb hby d11_17) (show Q11 Z p0 p1 vf h0 n0 _ _ _ from ⟨rfl, N0, e0⟩) (by decide) (by decide)
theorem d10_0 : decode jdk_42_method_155_code 0 = .ok (.iload_n 0, 1) := by decide +kernel
theorem d10_1 : decode jdk_42_method_155_code 1 = .ok (.iload_n 1, 1) := by decide +kernel
theorem d10_2 : decode jdk_42_method_155_code 2 = .ok (.getstatic 1053, 3) := by decide +kernel
theorem d10_5 : decode jdk_42_method_155_code 5 = .ok (.invokestatic 1059, 3) := by decide +kernel
theorem d10_8 : decode jdk_42_method_155_code 8 = .ok (.pop, 1) := by decide +kernel
theorem d10_9 : decode jdk_42_method_155_code 9 = .ok (.return_, 1) := by decide +kernel
theorem pn_10 : plainName "java/lang/String" = true := by first | (simp [plainName, overriddenIn]; done) | decide +kernel
theorem pd_10_0 : parseMethodDescriptor "(IILjava/util/function/BiFunction;)I" = some ⟨[.int, .int, (.object "java/util/function/BiFunction")], some .int⟩ := by decide +kernel
theorem ef_10 (m : MethodId) (p0 : Int32) (p1 : Int32) : entryFrame m #[(.int p0), (.int p1)] 2 = mkF m 0 #[.val (.int p0), .val (.int p1)] [] := by first | (simp [entryFrame, mkF, argsToLocals, Value.category]; done) | rfl
def Q10 (Z : State) (p0 : Int32) (p1 : Int32) (vf : Value) (h0 : Heap) (n0 : Nat) (v : Option Value) (h : Heap) (L : List Loc) : Prop := v = none ∧ Fr n0 L ∧ h = h0
set_option maxRecDepth 65536 in
set_option maxHeartbeats 40000000 in
theorem rm10 (l : Launch) (Z : State) (a0 : Array Value) (hw : ∀ d ∈ tables_1, d.before a0 Z = true) (ws : List Jvm.Cond) (p0 : Int32) (p1 : Int32) (vf : Value) (h0 : Heap) (n0 : Nat) (Z0 : n0 ≤ h0.size) (S_FM : Sta Z h0 "jdk/internal/util/Preconditions" "SIOOBE_FORMATTER" "Ljava/util/function/BiFunction;" vf) (hv_vf : vf.isRef = true) (hp0 : ¬ p0 < 0) (hp1 : p0 < p1) :
    MetFree l (⟨"java/lang/String", "checkIndex", "(II)V"⟩ : MethodName) (head1 (Jvm.Cond.code (⟨"java/lang/String", "checkIndex", "(II)V"⟩ : MethodName) jdk_42_method_155_code 2 none :: ws) ({ frames := 1, cells := 0, slots := 0, locals := 14 } : Room)) (fun a U => a = #[(.int p0), (.int p1)] ∧ Z.Warmed39 U.vm ∧ U.heap = h0) (fun _ _ _ _ _ => True) (fun _ U o U' => ∃ v L, o = .returned v ∧ Q10 Z p0 p1 vf h0 n0 v U'.heap L ∧ FrameEnd U o U' L ({ frames := 1, cells := 0, slots := 0, locals := 14 } : Room).cells ({ frames := 1, cells := 0, slots := 0, locals := 14 } : Room).slots) := by
  refine MetFree.of_bodySF (plainFor_of_name pn_10) hisR ?_
  intro p e s m args below meth c s₁ Bd hml0 hP hK
  obtain ⟨rfl, hZ, hh⟩ := hP
  have hx := Bd.exec
  have hby := Bd.bytes
  have hml : c.maxLocals = 2 := hml0
  have hown : s.vm.findClass "java/lang/String" = some m.cls := findClass_of_methodNamed Bd.named
  have X0 : Stand p l e ({ frames := 1, cells := 0, slots := 0, locals := 14 } : Room) s m #[(.int p0), (.int p1)] below meth c s₁ [] 0 0 := Stand.of_body Bd
  have e0 : s₁.heap = h0 := by rw [← hh, Bd.state]; rfl
  have N0 := Fr.nil n0
  show own_G p e below (own_P s (Q10 Z p0 p1 vf h0 n0) 0 0) _
  refine own_via (A' := s₁.setTop (mkF m 0 #[.val (.int p0), .val (.int p1)] [])) (fun t k => castTop (ef_10 m p0 p1) k) ?_
  refine own_via (A' := s₁.setTop (mkF m 2 #[.val (.int p0), .val (.int p1)] [(.int p1), (.int p0)])) (fun target kt => ?_) ?_
  · show Steps p.tables e below (s₁.setTop (mkF m 0 #[.val (.int p0), .val (.int p1)] [])) _
    refine XS.iloadN X0.here hx rfl (hb hby d10_0) rfl ?_
    show Steps p.tables e below (s₁.setTop (mkF m 1 #[.val (.int p0), .val (.int p1)] [(.int p0)])) _
    refine XS.iloadN X0.here hx rfl (hb hby d10_1) rfl ?_
    exact kt
  obtain ⟨T1, X1, e1, st1⟩ := getS2 X0 hx hZ hown (host := "") (Or.inl (hw _ (List.mem_of_getElem? (i := 63) rfl))) Via.refl e0 S_FM (g := (mkF m 2 #[.val (.int p0), .val (.int p1)] [(.int p1), (.int p0)])) rfl (hb hby d10_2)
  refine own_via (A' := T1.setTop (mkF m 5 #[.val (.int p0), .val (.int p1)] [vf, (.int p1), (.int p0)])) st1 ?_
  obtain ⟨_, _, ⟨T2, L2, k2, n2⟩, -, X2, ⟨Lc2, hQ2, l2, y2, z2⟩, st2⟩ := Jvm.LawKit.callS X1 hx (y := (⟨"jdk/internal/util/Preconditions", "checkIndex", "(IILjava/util/function/BiFunction;)I"⟩ : MethodName)) hown (mvT hZ (hw _ (List.mem_of_getElem? (i := 65) rfl))) (mvT hZ (hw _ (List.mem_of_getElem? (i := 66) rfl))) (mvT hZ (hw _ (List.mem_of_getElem? (i := 64) rfl))) (mvT hZ (hw _ (List.mem_of_getElem? (i := 67) rfl))) (by decide) (backOf (W := 0) (rm11 l Z a0 hw [] p0 p1 vf  h0 n0 Z0 hv_vf hp0 hp1) hZ (hw _ (List.mem_of_getElem? (i := 67) rfl)) (hw _ (List.mem_of_getElem? (i := 64) rfl)) (by decide) (by decide)) (g := (mkF m 5 #[.val (.int p0), .val (.int p1)] [vf, (.int p1), (.int p0)])) rfl (by rw [hml]; rfl) (argsL := [(.int p0), (.int p1), vf]) (rest := []) (lenOf pd_10_0 rfl) rfl (by show 2 * 0 + _ ≤ _; exact Nat.le_of_eq rfl) (hb hby d10_5) (fun _ _ => ⟨rfl, e1, (by decide : 0 + 0 ≤ _), (by decide : 0 + 0 ≤ _)⟩)
  dsimp only [Pt.U, Pt.locs, Pt.cells, Pt.slots] at X2 l2 y2 z2 st2 hQ2
  subst l2 y2 z2
  obtain ⟨rfl, N2q, e2⟩ := hQ2
  have N2 := Fr.app N0 N2q
  refine own_via (A' := T2.setTop (mkF m 8 #[.val (.int p0), .val (.int p1)] [(.int p0)])) st2 ?_
  refine own_via (A' := T2.setTop (mkF m 9 #[.val (.int p0), .val (.int p1)] [])) (fun target kt => ?_) ?_
  · show Steps p.tables e below (T2.setTop (mkF m 8 #[.val (.int p0), .val (.int p1)] [(.int p0)])) _
    refine XS.pop X2.here hx rfl (hb hby d10_8) rfl rfl ?_
    exact kt
  exact own_retV X2 Bd.notSynchronized hx Bd.returns (hb hby d10_9) (show Q10 Z p0 p1 vf h0 n0 _ _ _ from ⟨rfl, N2, e2⟩) (by decide) (by decide)
theorem d9_0 : decode jdk_43_method_2_code 0 = .ok (.iload_n 1, 1) := by decide +kernel
theorem d9_1 : decode jdk_43_method_2_code 1 = .ok (.aload_n 0, 1) := by decide +kernel
theorem d9_2 : decode jdk_43_method_2_code 2 = .ok (.arraylength, 1) := by decide +kernel
theorem d9_3 : decode jdk_43_method_2_code 3 = .ok (.invokestatic 9, 3) := by decide +kernel
theorem d9_6 : decode jdk_43_method_2_code 6 = .ok (.aload_n 0, 1) := by decide +kernel
theorem d9_7 : decode jdk_43_method_2_code 7 = .ok (.iload_n 1, 1) := by decide +kernel
theorem d9_8 : decode jdk_43_method_2_code 8 = .ok (.baload, 1) := by decide +kernel
theorem d9_9 : decode jdk_43_method_2_code 9 = .ok (.sipush 255, 3) := by decide +kernel
theorem d9_12 : decode jdk_43_method_2_code 12 = .ok (.iand, 1) := by decide +kernel
theorem d9_13 : decode jdk_43_method_2_code 13 = .ok (.i2c, 1) := by decide +kernel
theorem d9_14 : decode jdk_43_method_2_code 14 = .ok (.ireturn, 1) := by decide +kernel
theorem pn_9 : plainName "java/lang/StringLatin1" = true := by first | (simp [plainName, overriddenIn]; done) | decide +kernel
theorem pd_9_0 : parseMethodDescriptor "(II)V" = some ⟨[.int, .int], none⟩ := by decide +kernel
theorem ef_9 (m : MethodId) (a0r : Addr) (p0 : Int32) : entryFrame m #[(.ref a0r), (.int p0)] 2 = mkF m 0 #[.val (.ref a0r), .val (.int p0)] [] := by first | (simp [entryFrame, mkF, argsToLocals, Value.category]; done) | rfl
def Q9 (Z : State) (a0r : Addr) (p0 : Int32) (cl0 : Cell) (z0 w0 : Int32) (vf : Value) (h0 : Heap) (n0 : Nat) (v : Option Value) (h : Heap) (L : List Loc) : Prop := v = some (.int (own_lc w0)) ∧ Fr n0 L ∧ h = h0
set_option maxRecDepth 65536 in
set_option maxHeartbeats 40000000 in
theorem rm9 (l : Launch) (Z : State) (a0 : Array Value) (hw : ∀ d ∈ tables_1, d.before a0 Z = true) (ws : List Jvm.Cond) (a0r : Addr) (p0 : Int32) (cl0 : Cell) (z0 w0 : Int32) (vf : Value) (h0 : Heap) (n0 : Nat) (Z0 : n0 ≤ h0.size) (Ar0 : Arr Z h0 a0r cl0 .byte) (hz0 : cl0.slots.size.toInt32 = z0) (hp0 : ¬ p0 < 0) (hp1 : p0 < z0) (hin0 : ¬ (p0 < 0 ∨ cl0.slots.size ≤ p0.toNatClampNeg)) (hat0 : cl0.slots[p0.toNatClampNeg]? = some (.int w0)) (S_FM : Sta Z h0 "jdk/internal/util/Preconditions" "SIOOBE_FORMATTER" "Ljava/util/function/BiFunction;" vf) (hv_vf : vf.isRef = true) :
    MetFree l (⟨"java/lang/StringLatin1", "charAt", "([BI)C"⟩ : MethodName) (head1 (Jvm.Cond.code (⟨"java/lang/StringLatin1", "charAt", "([BI)C"⟩ : MethodName) jdk_43_method_2_code 2 (some .char) :: ws) ({ frames := 2, cells := 0, slots := 0, locals := 27 } : Room)) (fun a U => a = #[(.ref a0r), (.int p0)] ∧ Z.Warmed39 U.vm ∧ U.heap = h0) (fun _ _ _ _ _ => True) (fun _ U o U' => ∃ v L, o = .returned v ∧ Q9 Z a0r p0 cl0 z0 w0 vf h0 n0 v U'.heap L ∧ FrameEnd U o U' L ({ frames := 2, cells := 0, slots := 0, locals := 27 } : Room).cells ({ frames := 2, cells := 0, slots := 0, locals := 27 } : Room).slots) := by
  refine MetFree.of_bodySF (plainFor_of_name pn_9) hisR ?_
  intro p e s m args below meth c s₁ Bd hml0 hP hK
  obtain ⟨rfl, hZ, hh⟩ := hP
  have hx := Bd.exec
  have hby := Bd.bytes
  have hml : c.maxLocals = 2 := hml0
  have hown : s.vm.findClass "java/lang/StringLatin1" = some m.cls := findClass_of_methodNamed Bd.named
  have X0 : Stand p l e ({ frames := 2, cells := 0, slots := 0, locals := 27 } : Room) s m #[(.ref a0r), (.int p0)] below meth c s₁ [] 0 0 := Stand.of_body Bd
  have e0 : s₁.heap = h0 := by rw [← hh, Bd.state]; rfl
  have N0 := Fr.nil n0
  show own_G p e below (own_P s (Q9 Z a0r p0 cl0 z0 w0 vf h0 n0) 0 0) _
  refine own_via (A' := s₁.setTop (mkF m 0 #[.val (.ref a0r), .val (.int p0)] [])) (fun t k => castTop (ef_9 m a0r p0) k) ?_
  refine own_via (A' := s₁.setTop (mkF m 2 #[.val (.ref a0r), .val (.int p0)] [(.ref a0r), (.int p0)])) (fun target kt => ?_) ?_
  · show Steps p.tables e below (s₁.setTop (mkF m 0 #[.val (.ref a0r), .val (.int p0)] [])) _
    refine XS.iloadN X0.here hx rfl (hb hby d9_0) rfl ?_
    show Steps p.tables e below (s₁.setTop (mkF m 1 #[.val (.ref a0r), .val (.int p0)] [(.int p0)])) _
    refine XS.aloadN X0.here hx rfl (hb hby d9_1) rfl rfl ?_
    exact kt
  refine own_via (A' := s₁.setTop (mkF m 3 #[.val (.ref a0r), .val (.int p0)] [(.int z0), (.int p0)])) (fun target kt => X0.arraylength hx (by rw [e0]; exact Ar0.1) (State.isArrayOf_alike hZ.alike Ar0.2.1) (g := (mkF m 2 #[.val (.ref a0r), .val (.int p0)] [(.ref a0r), (.int p0)])) rfl rfl (hb hby d9_2) _ (by rw [hz0]; exact kt)) ?_
  obtain ⟨_, _, ⟨T1, L1, k1, n1⟩, -, X1, ⟨Lc1, hQ1, l1, y1, z1⟩, st1⟩ := Jvm.LawKit.callS X0 hx (y := (⟨"java/lang/String", "checkIndex", "(II)V"⟩ : MethodName)) hown (mvT hZ (hw _ (List.mem_of_getElem? (i := 60) rfl))) (mvT hZ (hw _ (List.mem_of_getElem? (i := 61) rfl))) (mvT hZ (hw _ (List.mem_of_getElem? (i := 39) rfl))) (mvT hZ (hw _ (List.mem_of_getElem? (i := 62) rfl))) (by decide) (backOf (W := 0) (rm10 l Z a0 hw [] p0 z0 vf h0 n0 Z0 S_FM hv_vf hp0 hp1) hZ (hw _ (List.mem_of_getElem? (i := 62) rfl)) (hw _ (List.mem_of_getElem? (i := 39) rfl)) (by decide) (by decide)) (g := (mkF m 3 #[.val (.ref a0r), .val (.int p0)] [(.int z0), (.int p0)])) rfl (by rw [hml]; rfl) (argsL := [(.int p0), (.int z0)]) (rest := []) (lenOf pd_9_0 rfl) rfl (by show 2 * 0 + _ ≤ _; exact Nat.le_of_eq rfl) (hb hby d9_3) (fun _ _ => ⟨rfl, e0, (by decide : 0 + 0 ≤ _), (by decide : 0 + 0 ≤ _)⟩)
  dsimp only [Pt.U, Pt.locs, Pt.cells, Pt.slots] at X1 l1 y1 z1 st1 hQ1
  subst l1 y1 z1
  obtain ⟨rfl, N1q, e1⟩ := hQ1
  have N1 := Fr.app N0 N1q
  refine own_via (A' := T1.setTop (mkF m 6 #[.val (.ref a0r), .val (.int p0)] [])) st1 ?_
  refine own_via (A' := T1.setTop (mkF m 8 #[.val (.ref a0r), .val (.int p0)] [(.int p0), (.ref a0r)])) (fun target kt => ?_) ?_
  · show Steps p.tables e below (T1.setTop (mkF m 6 #[.val (.ref a0r), .val (.int p0)] [])) _
    refine XS.aloadN X1.here hx rfl (hb hby d9_6) rfl rfl ?_
    show Steps p.tables e below (T1.setTop (mkF m 7 #[.val (.ref a0r), .val (.int p0)] [(.ref a0r)])) _
    refine XS.iloadN X1.here hx rfl (hb hby d9_7) rfl ?_
    exact kt
  refine own_via (A' := T1.setTop (mkF m 9 #[.val (.ref a0r), .val (.int p0)] [(.int w0)])) (fun target kt => X1.baloadBytes hx (j := p0) (v := (.int w0)) (by rw [e1]; exact Ar0.1) (State.isArrayOf_alike hZ.alike Ar0.2.1) Ar0.2.2 hin0 hat0 (g := (mkF m 8 #[.val (.ref a0r), .val (.int p0)] [(.int p0), (.ref a0r)])) rfl rfl (hb hby d9_8) _ kt) ?_
  refine own_via (A' := T1.setTop (mkF m 14 #[.val (.ref a0r), .val (.int p0)] [(.int ((w0 &&& (255 : Int32)).toUInt32.toUInt16.toUInt32.toInt32))])) (fun target kt => ?_) ?_
  · show Steps p.tables e below (T1.setTop (mkF m 9 #[.val (.ref a0r), .val (.int p0)] [(.int w0)])) _
    refine XS.sipush X1.here hx rfl (hb hby d9_9) ?_
    show Steps p.tables e below (T1.setTop (mkF m 12 #[.val (.ref a0r), .val (.int p0)] [(.int (255 : Int32)), (.int w0)])) _
    refine XS.iand X1.here hx rfl (hb hby d9_12) rfl ?_
    show Steps p.tables e below (T1.setTop (mkF m 13 #[.val (.ref a0r), .val (.int p0)] [(.int (w0 &&& (255 : Int32)))])) _
    refine XS.i2c X1.here hx rfl (hb hby d9_13) rfl ?_
    exact kt
  exact own_retN X1 Bd.notSynchronized hx (t := .char) Bd.returns (by simp) (hb hby d9_14) (show Q9 Z a0r p0 cl0 z0 w0 vf h0 n0 _ _ _ from ⟨rfl, N1, e1⟩) (by decide) (by decide)
theorem d8_0 : decode jdk_42_method_154_code 0 = .ok (.getstatic 38, 3) := by decide +kernel
theorem d8_3 : decode jdk_42_method_154_code 3 = .ok (.ifCond .eq 14, 3) := by decide +kernel
theorem d8_6 : decode jdk_42_method_154_code 6 = .ok (.aload_n 0, 1) := by decide +kernel
theorem d8_7 : decode jdk_42_method_154_code 7 = .ok (.getfield 15, 3) := by decide +kernel
theorem d8_10 : decode jdk_42_method_154_code 10 = .ok (.ifCond .ne 7, 3) := by decide +kernel
theorem d8_13 : decode jdk_42_method_154_code 13 = .ok (.iconst 1, 1) := by decide +kernel
theorem d8_14 : decode jdk_42_method_154_code 14 = .ok (.goto 4, 3) := by decide +kernel
theorem d8_18 : decode jdk_42_method_154_code 18 = .ok (.ireturn, 1) := by decide +kernel
theorem pn_8 : plainName "java/lang/String" = true := by first | (simp [plainName, overriddenIn]; done) | decide +kernel
theorem ef_8 (m : MethodId) (a0r : Addr) : entryFrame m #[(.ref a0r)] 1 = mkF m 0 #[.val (.ref a0r)] [] := by first | (simp [entryFrame, mkF, argsToLocals, Value.category]; done) | rfl
def Q8 (Z : State) (a0r : Addr) (wcs : Int32) (h0 : Heap) (n0 : Nat) (v : Option Value) (h : Heap) (L : List Loc) : Prop := v = some (.int (1 : Int32)) ∧ Fr n0 L ∧ h = h0
set_option maxRecDepth 65536 in
set_option maxHeartbeats 40000000 in
theorem rm8 (l : Launch) (Z : State) (a0 : Array Value) (hw : ∀ d ∈ tables_1, d.before a0 Z = true) (ws : List Jvm.Cond) (a0r : Addr) (wcs : Int32) (h0 : Heap) (n0 : Nat) (Z0 : n0 ≤ h0.size) (F0 : Fld Z h0 a0r "java/lang/String" "coder" "B" (.int (0 : Int32))) (S_CS : Sta Z h0 "java/lang/String" "COMPACT_STRINGS" "Z" (.int wcs)) (hcs : ¬ wcs = 0) :
    MetFree l (⟨"java/lang/String", "isLatin1", "()Z"⟩ : MethodName) (head1 (Jvm.Cond.code (⟨"java/lang/String", "isLatin1", "()Z"⟩ : MethodName) jdk_42_method_154_code 1 (some .boolean) :: ws) ({ frames := 0, cells := 0, slots := 0, locals := 0 } : Room)) (fun a U => a = #[(.ref a0r)] ∧ Z.Warmed39 U.vm ∧ U.heap = h0) (fun _ _ _ _ _ => True) (fun _ U o U' => ∃ v L, o = .returned v ∧ Q8 Z a0r wcs h0 n0 v U'.heap L ∧ FrameEnd U o U' L ({ frames := 0, cells := 0, slots := 0, locals := 0 } : Room).cells ({ frames := 0, cells := 0, slots := 0, locals := 0 } : Room).slots) := by
  refine MetFree.of_bodySF (plainFor_of_name pn_8) hisR ?_
  intro p e s m args below meth c s₁ Bd hml0 hP hK
  obtain ⟨rfl, hZ, hh⟩ := hP
  have hx := Bd.exec
  have hby := Bd.bytes
  have hml : c.maxLocals = 1 := hml0
  have hown : s.vm.findClass "java/lang/String" = some m.cls := findClass_of_methodNamed Bd.named
  have X0 : Stand p l e ({ frames := 0, cells := 0, slots := 0, locals := 0 } : Room) s m #[(.ref a0r)] below meth c s₁ [] 0 0 := Stand.of_body Bd
  have e0 : s₁.heap = h0 := by rw [← hh, Bd.state]; rfl
  have N0 := Fr.nil n0
  show own_G p e below (own_P s (Q8 Z a0r wcs h0 n0) 0 0) _
  refine own_via (A' := s₁.setTop (mkF m 0 #[.val (.ref a0r)] [])) (fun t k => castTop (ef_8 m a0r) k) ?_
  obtain ⟨T1, X1, e1, st1⟩ := getS2 X0 hx hZ hown (host := "") (Or.inl (hw _ (List.mem_of_getElem? (i := 53) rfl))) Via.refl e0 S_CS (g := (mkF m 0 #[.val (.ref a0r)] [])) rfl (hb hby d8_0)
  refine own_via (A' := T1.setTop (mkF m 3 #[.val (.ref a0r)] [(.int wcs)])) st1 ?_
  refine own_via (A' := T1.setTop (mkF m 6 #[.val (.ref a0r)] [])) (fun target kt => XS.ifNo X1.here hx rfl (hb hby d8_3) rfl ((if0 _ _).trans (feq (hcs : ¬ (wcs = (0 : Int32)))).1) kt) ?_
  refine own_via (A' := T1.setTop (mkF m 7 #[.val (.ref a0r)] [(.ref a0r)])) (fun target kt => ?_) ?_
  · show Steps p.tables e below (T1.setTop (mkF m 6 #[.val (.ref a0r)] [])) _
    refine XS.aloadN X1.here hx rfl (hb hby d8_6) rfl rfl ?_
    exact kt
  obtain ⟨T2, X2, e2, st2⟩ := getF X1 hx hZ hown (host := "") (Or.inl (hw _ (List.mem_of_getElem? (i := 54) rfl))) Via.refl e1 F0 (g := (mkF m 7 #[.val (.ref a0r)] [(.ref a0r)])) rfl rfl (hb hby d8_7)
  refine own_via (A' := T2.setTop (mkF m 10 #[.val (.ref a0r)] [(.int (0 : Int32))])) st2 ?_
  refine own_via (A' := T2.setTop (mkF m 13 #[.val (.ref a0r)] [])) (fun target kt => XS.ifNo X2.here hx rfl (hb hby d8_10) rfl ((if0 _ _).trans (teq ((by decide) : (0 : Int32) = (0 : Int32))).2) kt) ?_
  refine own_via (A' := T2.setTop (mkF m 18 #[.val (.ref a0r)] [(.int (1 : Int32))])) (fun target kt => ?_) ?_
  · show Steps p.tables e below (T2.setTop (mkF m 13 #[.val (.ref a0r)] [])) _
    refine XS.iconst X2.here hx rfl (hb hby d8_13) ?_
    show Steps p.tables e below (T2.setTop (mkF m 14 #[.val (.ref a0r)] [(.int (1 : Int32))])) _
    refine XS.goto X2.here hx rfl (pc0 := 14) (pc' := 18) rfl (hb hby d8_14) (by decide) (by decide) ?_
    exact kt
  exact own_retN X2 Bd.notSynchronized hx (t := .boolean) Bd.returns (by simp) (hb hby d8_18) (show Q8 Z a0r wcs h0 n0 _ _ _ from ⟨rfl, N0, e2⟩) (by decide) (by decide)
theorem d7_0 : decode jdk_42_method_56_code 0 = .ok (.aload_n 0, 1) := by decide +kernel
theorem d7_1 : decode jdk_42_method_56_code 1 = .ok (.invokevirtual 492, 3) := by decide +kernel
theorem d7_4 : decode jdk_42_method_56_code 4 = .ok (.ifCond .eq 12, 3) := by decide +kernel
theorem d7_7 : decode jdk_42_method_56_code 7 = .ok (.aload_n 0, 1) := by decide +kernel
theorem d7_8 : decode jdk_42_method_56_code 8 = .ok (.getfield 9, 3) := by decide +kernel
theorem d7_11 : decode jdk_42_method_56_code 11 = .ok (.iload_n 1, 1) := by decide +kernel
theorem d7_12 : decode jdk_42_method_56_code 12 = .ok (.invokestatic 495, 3) := by decide +kernel
theorem d7_15 : decode jdk_42_method_56_code 15 = .ok (.ireturn, 1) := by decide +kernel
theorem pn_7 : plainName "java/lang/String" = true := by first | (simp [plainName, overriddenIn]; done) | decide +kernel
theorem pd_7_0 : parseMethodDescriptor "()Z" = some ⟨[], some .boolean⟩ := by decide +kernel
theorem pd_7_1 : parseMethodDescriptor "([BI)C" = some ⟨[(.array .byte), .int], some .char⟩ := by decide +kernel
theorem ef_7 (m : MethodId) (a0r : Addr) (p0 : Int32) : entryFrame m #[(.ref a0r), (.int p0)] 2 = mkF m 0 #[.val (.ref a0r), .val (.int p0)] [] := by first | (simp [entryFrame, mkF, argsToLocals, Value.category]; done) | rfl
def Q7 (Z : State) (a0r : Addr) (p0 : Int32) (v0 : Addr) (cl0 : Cell) (z0 w0 : Int32) (vf : Value) (wcs : Int32) (h0 : Heap) (n0 : Nat) (v : Option Value) (h : Heap) (L : List Loc) : Prop := v = some (.int (nar .char (own_lc w0))) ∧ Fr n0 L ∧ h = h0
set_option maxRecDepth 65536 in
set_option maxHeartbeats 40000000 in
theorem rm7 (l : Launch) (Z : State) (a0 : Array Value) (hw : ∀ d ∈ tables_1, d.before a0 Z = true) (ws : List Jvm.Cond) (a0r : Addr) (p0 : Int32) (v0 : Addr) (cl0 : Cell) (z0 w0 : Int32) (vf : Value) (wcs : Int32) (h0 : Heap) (n0 : Nat) (Z0 : n0 ≤ h0.size) (E0 : Exa Z h0 a0r "java/lang/String") (F1 : Fld Z h0 a0r "java/lang/String" "value" "[B" (.ref v0)) (F0 : Fld Z h0 a0r "java/lang/String" "coder" "B" (.int (0 : Int32))) (Ar0 : Arr Z h0 v0 cl0 .byte) (hz0 : cl0.slots.size.toInt32 = z0) (hp0 : ¬ p0 < 0) (hp1 : p0 < z0) (hin0 : ¬ (p0 < 0 ∨ cl0.slots.size ≤ p0.toNatClampNeg)) (hat0 : cl0.slots[p0.toNatClampNeg]? = some (.int w0)) (S_FM : Sta Z h0 "jdk/internal/util/Preconditions" "SIOOBE_FORMATTER" "Ljava/util/function/BiFunction;" vf) (hv_vf : vf.isRef = true) (S_CS : Sta Z h0 "java/lang/String" "COMPACT_STRINGS" "Z" (.int wcs)) (hcs : ¬ wcs = 0) :
    MetFree l (⟨"java/lang/String", "charAt", "(I)C"⟩ : MethodName) (head1 (Jvm.Cond.code (⟨"java/lang/String", "charAt", "(I)C"⟩ : MethodName) jdk_42_method_56_code 2 (some .char) :: ws) ({ frames := 3, cells := 0, slots := 0, locals := 40 } : Room)) (fun a U => a = #[(.ref a0r), (.int p0)] ∧ Z.Warmed39 U.vm ∧ U.heap = h0) (fun _ _ _ _ _ => True) (fun _ U o U' => ∃ v L, o = .returned v ∧ Q7 Z a0r p0 v0 cl0 z0 w0 vf wcs h0 n0 v U'.heap L ∧ FrameEnd U o U' L ({ frames := 3, cells := 0, slots := 0, locals := 40 } : Room).cells ({ frames := 3, cells := 0, slots := 0, locals := 40 } : Room).slots) := by
  refine MetFree.of_bodySF (plainFor_of_name pn_7) hisR ?_
  intro p e s m args below meth c s₁ Bd hml0 hP hK
  obtain ⟨rfl, hZ, hh⟩ := hP
  have hx := Bd.exec
  have hby := Bd.bytes
  have hml : c.maxLocals = 2 := hml0
  have hown : s.vm.findClass "java/lang/String" = some m.cls := findClass_of_methodNamed Bd.named
  have X0 : Stand p l e ({ frames := 3, cells := 0, slots := 0, locals := 40 } : Room) s m #[(.ref a0r), (.int p0)] below meth c s₁ [] 0 0 := Stand.of_body Bd
  have e0 : s₁.heap = h0 := by rw [← hh, Bd.state]; rfl
  have N0 := Fr.nil n0
  show own_G p e below (own_P s (Q7 Z a0r p0 v0 cl0 z0 w0 vf wcs h0 n0) 0 0) _
  refine own_via (A' := s₁.setTop (mkF m 0 #[.val (.ref a0r), .val (.int p0)] [])) (fun t k => castTop (ef_7 m a0r p0) k) ?_
  refine own_via (A' := s₁.setTop (mkF m 1 #[.val (.ref a0r), .val (.int p0)] [(.ref a0r)])) (fun target kt => ?_) ?_
  · show Steps p.tables e below (s₁.setTop (mkF m 0 #[.val (.ref a0r), .val (.int p0)] [])) _
    refine XS.aloadN X0.here hx rfl (hb hby d7_0) rfl rfl ?_
    exact kt
  obtain ⟨cq1, kq1, q1a, q1b, q1c⟩ := isOf hZ e0 E0
  obtain ⟨_, _, ⟨T1, L1, k1, n1⟩, -, X1, ⟨Lc1, hQ1, l1, y1, z1⟩, st1⟩ := X0.virtualBack hx (y := (⟨"java/lang/String", "isLatin1", "()Z"⟩ : MethodName)) (z := (⟨"java/lang/String", "isLatin1", "()Z"⟩ : MethodName)) hown (mvT hZ (hw _ (List.mem_of_getElem? (i := 48) rfl))) (mvT hZ (hw _ (List.mem_of_getElem? (i := 49) rfl))) (notFace_of_selects (args := #[]) (mvT hZ (hw _ (List.mem_of_getElem? (i := 51) rfl)))) (mvT hZ (hw _ (List.mem_of_getElem? (i := 51) rfl))) (mvT hZ (hw _ (List.mem_of_getElem? (i := 50) rfl))) (by decide) (backOf (W := 0) (rm8 l Z a0 hw [] a0r wcs h0 n0 Z0 F0 S_CS hcs) hZ (hw _ (List.mem_of_getElem? (i := 52) rfl)) (hw _ (List.mem_of_getElem? (i := 39) rfl)) (by decide) (by decide)) q1a q1c (g := (mkF m 1 #[.val (.ref a0r), .val (.int p0)] [(.ref a0r)])) rfl (by rw [hml]; rfl) (Steps.refl _) (argsL := []) (rest := []) (lenOf pd_7_0 rfl) rfl (by show 2 * 0 + _ ≤ _; exact Nat.le_of_eq rfl) (hb hby d7_1) (fun _ _ => ⟨rfl, e0, (by decide : 0 + 0 ≤ _), (by decide : 0 + 0 ≤ _)⟩)
  dsimp only [Pt.U, Pt.locs, Pt.cells, Pt.slots] at X1 l1 y1 z1 st1 hQ1
  subst l1 y1 z1
  obtain ⟨rfl, N1q, e1⟩ := hQ1
  have N1 := Fr.app N0 N1q
  refine own_via (A' := T1.setTop (mkF m 4 #[.val (.ref a0r), .val (.int p0)] [(.int (1 : Int32))])) (fun _ kt => st1.trans kt) ?_
  refine own_via (A' := T1.setTop (mkF m 7 #[.val (.ref a0r), .val (.int p0)] [])) (fun target kt => XS.ifNo X1.here hx rfl (hb hby d7_4) rfl ((if0 _ _).trans (feq ((by decide) : ¬ ((1 : Int32) = (0 : Int32)))).1) kt) ?_
  refine own_via (A' := T1.setTop (mkF m 8 #[.val (.ref a0r), .val (.int p0)] [(.ref a0r)])) (fun target kt => ?_) ?_
  · show Steps p.tables e below (T1.setTop (mkF m 7 #[.val (.ref a0r), .val (.int p0)] [])) _
    refine XS.aloadN X1.here hx rfl (hb hby d7_7) rfl rfl ?_
    exact kt
  obtain ⟨T2, X2, e2, st2⟩ := getF X1 hx hZ hown (host := "") (Or.inl (hw _ (List.mem_of_getElem? (i := 41) rfl))) Via.refl e1 F1 (g := (mkF m 8 #[.val (.ref a0r), .val (.int p0)] [(.ref a0r)])) rfl rfl (hb hby d7_8)
  refine own_via (A' := T2.setTop (mkF m 11 #[.val (.ref a0r), .val (.int p0)] [(.ref v0)])) st2 ?_
  refine own_via (A' := T2.setTop (mkF m 12 #[.val (.ref a0r), .val (.int p0)] [(.int p0), (.ref v0)])) (fun target kt => ?_) ?_
  · show Steps p.tables e below (T2.setTop (mkF m 11 #[.val (.ref a0r), .val (.int p0)] [(.ref v0)])) _
    refine XS.iloadN X2.here hx rfl (hb hby d7_11) rfl ?_
    exact kt
  obtain ⟨_, _, ⟨T3, L3, k3, n3⟩, -, X3, ⟨Lc3, hQ3, l3, y3, z3⟩, st3⟩ := Jvm.LawKit.callS X2 hx (y := (⟨"java/lang/StringLatin1", "charAt", "([BI)C"⟩ : MethodName)) hown (mvT hZ (hw _ (List.mem_of_getElem? (i := 56) rfl))) (mvT hZ (hw _ (List.mem_of_getElem? (i := 57) rfl))) (mvT hZ (hw _ (List.mem_of_getElem? (i := 58) rfl))) (mvT hZ (hw _ (List.mem_of_getElem? (i := 59) rfl))) (by decide) (backOf (W := 0) (rm9 l Z a0 hw [] v0 p0 cl0 z0 w0 vf h0 n0 Z0 Ar0 hz0 hp0 hp1 hin0 hat0 S_FM hv_vf) hZ (hw _ (List.mem_of_getElem? (i := 59) rfl)) (hw _ (List.mem_of_getElem? (i := 58) rfl)) (by decide) (by decide)) (g := (mkF m 12 #[.val (.ref a0r), .val (.int p0)] [(.int p0), (.ref v0)])) rfl (by rw [hml]; rfl) (argsL := [(.ref v0), (.int p0)]) (rest := []) (lenOf pd_7_1 rfl) rfl (by show 2 * 0 + _ ≤ _; exact Nat.le_of_eq rfl) (hb hby d7_12) (fun _ _ => ⟨rfl, e2, (by decide : 0 + 0 ≤ _), (by decide : 0 + 0 ≤ _)⟩)
  dsimp only [Pt.U, Pt.locs, Pt.cells, Pt.slots] at X3 l3 y3 z3 st3 hQ3
  subst l3 y3 z3
  obtain ⟨rfl, N3q, e3⟩ := hQ3
  have N3 := Fr.app N1 N3q
  refine own_via (A' := T3.setTop (mkF m 15 #[.val (.ref a0r), .val (.int p0)] [(.int (own_lc w0))])) st3 ?_
  exact own_retN X3 Bd.notSynchronized hx (t := .char) Bd.returns (by simp) (hb hby d7_15) (show Q7 Z a0r p0 v0 cl0 z0 w0 vf wcs h0 n0 _ _ _ from ⟨rfl, N3, e3⟩) (by decide) (by decide)
theorem pn_0 : plainName "com/example/resultree/resultree/xpath/ComparisonIsOrderingPinLaw" = true := by first | (simp [plainName, overriddenIn]; done) | decide +kernel
theorem pd_0_0 : parseMethodDescriptor "(I)Lcom/example/resultree/resultree/xpath/Comparison;" = some ⟨[.int], some (.object "com/example/resultree/resultree/xpath/Comparison")⟩ := by decide +kernel
theorem pd_0_1 : parseMethodDescriptor "()Z" = some ⟨[], some .boolean⟩ := by decide +kernel
theorem pd_0_2 : parseMethodDescriptor "(I)Z" = some ⟨[.int], some .boolean⟩ := by decide +kernel
theorem pd_0_3 : parseMethodDescriptor "()Ljava/lang/String;" = some ⟨[], some (.object "java/lang/String")⟩ := by decide +kernel
theorem pd_0_4 : parseMethodDescriptor "(I)C" = some ⟨[.int], some .char⟩ := by decide +kernel
theorem ef_0 (m : MethodId) (p0 : Int32) : entryFrame m #[(.int p0)] maxLocals = mkF m 0 #[.val (.int p0), .unset, .unset, .unset, .unset, .unset, .unset, .unset] [] := by first | (simp [entryFrame, mkF, argsToLocals, Value.category, maxLocals]; done) | rfl
def Q0 (Z : State) (p0 : Int32) (a_EQUAL a_NOT_EQUAL a_LESS_OR_EQUAL a_LESS a_GREATER_OR_EQUAL a_GREATER : Addr) (vf : Value) (wcs : Int32) (h0 : Heap) (n0 : Nat) (v : Option Value) (h : Heap) (L : List Loc) : Prop := v = some (.int 1) ∧ Fr n0 L
set_option maxRecDepth 65536 in
set_option maxHeartbeats 40000000 in
theorem rm0 (l : Launch) (Z : State) (a0 : Array Value) (hw : ∀ d ∈ tables_1, d.before a0 Z = true) (ws : List Jvm.Cond) (p0 : Int32) (a_EQUAL a_NOT_EQUAL a_LESS_OR_EQUAL a_LESS a_GREATER_OR_EQUAL a_GREATER : Addr) (vf : Value) (wcs : Int32) (h0 : Heap) (n0 : Nat) (Z0 : n0 ≤ h0.size) (S_EQUAL : Sta Z h0 "com/example/resultree/resultree/xpath/Comparison" "EQUAL" "Lcom/example/resultree/resultree/xpath/Comparison;" (.ref a_EQUAL)) (S_NOT_EQUAL : Sta Z h0 "com/example/resultree/resultree/xpath/Comparison" "NOT_EQUAL" "Lcom/example/resultree/resultree/xpath/Comparison;" (.ref a_NOT_EQUAL)) (S_LESS_OR_EQUAL : Sta Z h0 "com/example/resultree/resultree/xpath/Comparison" "LESS_OR_EQUAL" "Lcom/example/resultree/resultree/xpath/Comparison;" (.ref a_LESS_OR_EQUAL)) (S_LESS : Sta Z h0 "com/example/resultree/resultree/xpath/Comparison" "LESS" "Lcom/example/resultree/resultree/xpath/Comparison;" (.ref a_LESS)) (S_GREATER_OR_EQUAL : Sta Z h0 "com/example/resultree/resultree/xpath/Comparison" "GREATER_OR_EQUAL" "Lcom/example/resultree/resultree/xpath/Comparison;" (.ref a_GREATER_OR_EQUAL)) (S_GREATER : Sta Z h0 "com/example/resultree/resultree/xpath/Comparison" "GREATER" "Lcom/example/resultree/resultree/xpath/Comparison;" (.ref a_GREATER)) (S_FM : Sta Z h0 "jdk/internal/util/Preconditions" "SIOOBE_FORMATTER" "Ljava/util/function/BiFunction;" vf) (hv_vf : vf.isRef = true) (S_CS : Sta Z h0 "java/lang/String" "COMPACT_STRINGS" "Z" (.int wcs)) (hcs : ¬ wcs = 0) (K_EQUAL : own_K Z h0 a_EQUAL (0 : Int32) (61 : Int32)) (K_NOT_EQUAL : own_K Z h0 a_NOT_EQUAL (1 : Int32) (33 : Int32)) (K_LESS_OR_EQUAL : own_K Z h0 a_LESS_OR_EQUAL (2 : Int32) (60 : Int32)) (K_LESS : own_K Z h0 a_LESS (3 : Int32) (60 : Int32)) (K_GREATER_OR_EQUAL : own_K Z h0 a_GREATER_OR_EQUAL (4 : Int32) (62 : Int32)) (K_GREATER : own_K Z h0 a_GREATER (5 : Int32) (62 : Int32)) :
    MetFree l x (head1 (Jvm.Cond.code x code maxLocals ret :: ws) room_1) (fun a U => a = #[(.int p0)] ∧ Z.Warmed39 U.vm ∧ U.heap = h0) (fun _ _ _ _ _ => True) (fun _ U o U' => ∃ v L, o = .returned v ∧ Q0 Z p0 a_EQUAL a_NOT_EQUAL a_LESS_OR_EQUAL a_LESS a_GREATER_OR_EQUAL a_GREATER vf wcs h0 n0 v U'.heap L ∧ FrameEnd U o U' L 0 0) := by
  refine MetFree.of_bodySF (plainFor_of_name pn_0) hisR ?_
  intro p e s m args below meth c s₁ Bd hml0 hP hK
  obtain ⟨rfl, hZ, hh⟩ := hP
  have hx := Bd.exec
  have hby := Bd.bytes
  have hml : c.maxLocals = 8 := hml0
  have hown : s.vm.findClass "com/example/resultree/resultree/xpath/ComparisonIsOrderingPinLaw" = some m.cls := findClass_of_methodNamed Bd.named
  have X0 : Stand p l e room_1 s m #[(.int p0)] below meth c s₁ [] 0 0 := Stand.of_body Bd
  have e0 : s₁.heap = h0 := by rw [← hh, Bd.state]; rfl
  have N0 := Fr.nil n0
  show own_G p e below (own_P s (Q0 Z p0 a_EQUAL a_NOT_EQUAL a_LESS_OR_EQUAL a_LESS a_GREATER_OR_EQUAL a_GREATER vf wcs h0 n0) 0 0) _
  refine own_via (A' := s₁.setTop (mkF m 0 #[.val (.int p0), .unset, .unset, .unset, .unset, .unset, .unset, .unset] [])) (fun t k => castTop (ef_0 m p0) k) ?_
  refine own_via (A' := s₁.setTop (mkF m 8 #[.val (.int p0), .val (.int ((p0 &&& (2147483647 : Int32)) % (6 : Int32))), .unset, .unset, .unset, .unset, .unset, .unset] [])) (fun target kt => ?_) ?_
  · show Steps p.tables e below (s₁.setTop (mkF m 0 #[.val (.int p0), .unset, .unset, .unset, .unset, .unset, .unset, .unset] [])) _
    refine XS.iloadN X0.here hx rfl (hb hby at_0) rfl ?_
    show Steps p.tables e below (s₁.setTop (mkF m 1 #[.val (.int p0), .unset, .unset, .unset, .unset, .unset, .unset, .unset] [(.int p0)])) _
    refine X0.ldcInt hx hown (mvT hZ (hw _ (List.mem_of_getElem? (i := 0) rfl))) (g := (mkF m 1 #[.val (.int p0), .unset, .unset, .unset, .unset, .unset, .unset, .unset] [(.int p0)])) rfl (hb hby at_1) _ ?_
    show Steps p.tables e below (s₁.setTop (mkF m 3 #[.val (.int p0), .unset, .unset, .unset, .unset, .unset, .unset, .unset] [(.int (2147483647 : Int32)), (.int p0)])) _
    refine XS.iand X0.here hx rfl (hb hby at_3) rfl ?_
    show Steps p.tables e below (s₁.setTop (mkF m 4 #[.val (.int p0), .unset, .unset, .unset, .unset, .unset, .unset, .unset] [(.int (p0 &&& (2147483647 : Int32)))])) _
    refine XS.bipush X0.here hx rfl (hb hby at_4) ?_
    show Steps p.tables e below (s₁.setTop (mkF m 6 #[.val (.int p0), .unset, .unset, .unset, .unset, .unset, .unset, .unset] [(.int (6 : Int32)), (.int (p0 &&& (2147483647 : Int32)))])) _
    refine iremM X0 hx rfl (hb hby at_6) rfl (by decide) ?_
    show Steps p.tables e below (s₁.setTop (mkF m 7 #[.val (.int p0), .unset, .unset, .unset, .unset, .unset, .unset, .unset] [(.int ((p0 &&& (2147483647 : Int32)) % (6 : Int32)))])) _
    refine XS.istoreN X0.here hx rfl (hb hby at_7) rfl (l' := #[.val (.int p0), .val (.int ((p0 &&& (2147483647 : Int32)) % (6 : Int32))), .unset, .unset, .unset, .unset, .unset, .unset]) rfl ?_
    exact kt
  have hi := own_idx p0
  generalize ((p0 &&& (2147483647 : Int32)) % (6 : Int32)) = i at hi ⊢
  rcases hi with rfl | rfl | rfl | rfl | rfl | rfl
  · have K_0 := K_EQUAL
    obtain ⟨E_0, F_o, y_0, v_0, cl_0, z_0, F_s, E_s, F_v, F_c, Ar_0, hz_0, hz_1, hz_2, hin_0, hat_0⟩ := K_0
    refine own_via (A' := s₁.setTop (mkF m 9 #[.val (.int p0), .val (.int (0 : Int32)), .unset, .unset, .unset, .unset, .unset, .unset] [(.int (0 : Int32))])) (fun target kt => ?_) ?_
    · show Steps p.tables e below (s₁.setTop (mkF m 8 #[.val (.int p0), .val (.int (0 : Int32)), .unset, .unset, .unset, .unset, .unset, .unset] [])) _
      refine XS.iloadN X0.here hx rfl (hb hby at_8) rfl ?_
      exact kt
    obtain ⟨_, _, ⟨T1, L1, k1, n1⟩, -, X1, ⟨Lc1, hQ1, l1, y1, z1⟩, st1⟩ := Jvm.LawKit.callS X0 hx (y := (⟨"com/example/resultree/resultree/xpath/ComparisonIsOrderingPinLaw", "pick", "(I)Lcom/example/resultree/resultree/xpath/Comparison;"⟩ : MethodName)) hown (mvT hZ (hw _ (List.mem_of_getElem? (i := 1) rfl))) (mvT hZ (hw _ (List.mem_of_getElem? (i := 2) rfl))) (mvT hZ (hw _ (List.mem_of_getElem? (i := 3) rfl))) (mvT hZ (hw _ (List.mem_of_getElem? (i := 4) rfl))) (by decide) (backOf (W := 0) (rm1 l Z a0 hw [] (0 : Int32) a_EQUAL a_NOT_EQUAL a_LESS_OR_EQUAL a_LESS a_GREATER_OR_EQUAL a_GREATER h0 n0 Z0 S_EQUAL S_NOT_EQUAL S_LESS_OR_EQUAL S_LESS S_GREATER_OR_EQUAL S_GREATER) hZ (hw _ (List.mem_of_getElem? (i := 4) rfl)) (hw _ (List.mem_of_getElem? (i := 3) rfl)) (by decide) (by decide)) (g := (mkF m 9 #[.val (.int p0), .val (.int (0 : Int32)), .unset, .unset, .unset, .unset, .unset, .unset] [(.int (0 : Int32))])) rfl (by rw [hml]; rfl) (argsL := [(.int (0 : Int32))]) (rest := []) (lenOf pd_0_0 rfl) rfl (by show 2 * 0 + _ ≤ _; exact Nat.le_of_eq rfl) (hb hby at_9) (fun _ _ => ⟨rfl, e0, (by decide : 0 + 0 ≤ _), (by decide : 0 + 0 ≤ _)⟩)
    dsimp only [Pt.U, Pt.locs, Pt.cells, Pt.slots] at X1 l1 y1 z1 st1 hQ1
    subst l1 y1 z1
    obtain ⟨hv1, N1q, e1⟩ := hQ1
    rw [show own_pick (0 : Int32) a_EQUAL a_NOT_EQUAL a_LESS_OR_EQUAL a_LESS a_GREATER_OR_EQUAL a_GREATER = a_EQUAL from by simp [own_pick]] at hv1
    subst hv1
    have N1 := Fr.app N0 N1q
    refine own_via (A' := T1.setTop (mkF m 12 #[.val (.int p0), .val (.int (0 : Int32)), .unset, .unset, .unset, .unset, .unset, .unset] [(.ref a_EQUAL)])) st1 ?_
    refine own_via (A' := T1.setTop (mkF m 14 #[.val (.int p0), .val (.int (0 : Int32)), .val (.ref a_EQUAL), .unset, .unset, .unset, .unset, .unset] [(.ref a_EQUAL)])) (fun target kt => ?_) ?_
    · show Steps p.tables e below (T1.setTop (mkF m 12 #[.val (.int p0), .val (.int (0 : Int32)), .unset, .unset, .unset, .unset, .unset, .unset] [(.ref a_EQUAL)])) _
      refine XS.astoreN X1.here hx rfl (hb hby at_12) rfl rfl (l' := #[.val (.int p0), .val (.int (0 : Int32)), .val (.ref a_EQUAL), .unset, .unset, .unset, .unset, .unset]) rfl ?_
      show Steps p.tables e below (T1.setTop (mkF m 13 #[.val (.int p0), .val (.int (0 : Int32)), .val (.ref a_EQUAL), .unset, .unset, .unset, .unset, .unset] [])) _
      refine XS.aloadN X1.here hx rfl (hb hby at_13) rfl rfl ?_
      exact kt
    obtain ⟨cq2, kq2, q2a, q2b, q2c⟩ := isOf hZ e1 E_0
    obtain ⟨_, _, ⟨T2, L2, k2, n2⟩, -, X2, ⟨Lc2, hQ2, l2, y2, z2⟩, st2⟩ := X1.virtualBack hx (y := (⟨"com/example/resultree/resultree/xpath/Comparison", "isOrdering", "()Z"⟩ : MethodName)) (z := (⟨"com/example/resultree/resultree/xpath/Comparison", "isOrdering", "()Z"⟩ : MethodName)) hown (mvT hZ (hw _ (List.mem_of_getElem? (i := 8) rfl))) (mvT hZ (hw _ (List.mem_of_getElem? (i := 9) rfl))) (notFace_of_selects (args := #[]) (mvT hZ (hw _ (List.mem_of_getElem? (i := 11) rfl)))) (mvT hZ (hw _ (List.mem_of_getElem? (i := 11) rfl))) (mvT hZ (hw _ (List.mem_of_getElem? (i := 10) rfl))) (by decide) (backOf (W := 0) (rm2 l Z a0 hw [] a_EQUAL a_EQUAL a_NOT_EQUAL h0 n0 Z0 S_EQUAL S_NOT_EQUAL) hZ (hw _ (List.mem_of_getElem? (i := 12) rfl)) (hw _ (List.mem_of_getElem? (i := 6) rfl)) (by decide) (by decide)) q2a q2c (g := (mkF m 14 #[.val (.int p0), .val (.int (0 : Int32)), .val (.ref a_EQUAL), .unset, .unset, .unset, .unset, .unset] [(.ref a_EQUAL)])) rfl (by rw [hml]; rfl) (Steps.refl _) (argsL := []) (rest := []) (lenOf pd_0_1 rfl) rfl (by show 2 * 0 + _ ≤ _; exact Nat.le_of_eq rfl) (hb hby at_14) (fun _ _ => ⟨rfl, e1, (by decide : 0 + 0 ≤ _), (by decide : 0 + 0 ≤ _)⟩)
    dsimp only [Pt.U, Pt.locs, Pt.cells, Pt.slots] at X2 l2 y2 z2 st2 hQ2
    subst l2 y2 z2
    obtain ⟨hv2, N2q, e2⟩ := hQ2
    rw [show own_isord a_EQUAL a_EQUAL a_NOT_EQUAL = (0 : Int32) from by simp [own_isord]] at hv2
    subst hv2
    have N2 := Fr.app N1 N2q
    refine own_via (A' := T2.setTop (mkF m 17 #[.val (.int p0), .val (.int (0 : Int32)), .val (.ref a_EQUAL), .unset, .unset, .unset, .unset, .unset] [(.int (0 : Int32))])) (fun _ kt => st2.trans kt) ?_
    refine own_via (A' := T2.setTop (mkF m 20 #[.val (.int p0), .val (.int (0 : Int32)), .val (.ref a_EQUAL), .val (.int (0 : Int32)), .unset, .unset, .unset, .unset] [(.int (1 : Int32)), (.ref a_EQUAL)])) (fun target kt => ?_) ?_
    · show Steps p.tables e below (T2.setTop (mkF m 17 #[.val (.int p0), .val (.int (0 : Int32)), .val (.ref a_EQUAL), .unset, .unset, .unset, .unset, .unset] [(.int (0 : Int32))])) _
      refine XS.istoreN X2.here hx rfl (hb hby at_17) rfl (l' := #[.val (.int p0), .val (.int (0 : Int32)), .val (.ref a_EQUAL), .val (.int (0 : Int32)), .unset, .unset, .unset, .unset]) rfl ?_
      show Steps p.tables e below (T2.setTop (mkF m 18 #[.val (.int p0), .val (.int (0 : Int32)), .val (.ref a_EQUAL), .val (.int (0 : Int32)), .unset, .unset, .unset, .unset] [])) _
      refine XS.aloadN X2.here hx rfl (hb hby at_18) rfl rfl ?_
      show Steps p.tables e below (T2.setTop (mkF m 19 #[.val (.int p0), .val (.int (0 : Int32)), .val (.ref a_EQUAL), .val (.int (0 : Int32)), .unset, .unset, .unset, .unset] [(.ref a_EQUAL)])) _
      refine XS.iconst X2.here hx rfl (hb hby at_19) ?_
      exact kt
    obtain ⟨cq3, kq3, q3a, q3b, q3c⟩ := isOf hZ e2 E_0
    obtain ⟨_, _, ⟨T3, L3, k3, n3⟩, -, X3, ⟨Lc3, hQ3, l3, y3, z3⟩, st3⟩ := X2.virtualBack hx (y := (⟨"com/example/resultree/resultree/xpath/Comparison", "holds", "(I)Z"⟩ : MethodName)) (z := (⟨"com/example/resultree/resultree/xpath/Comparison", "holds", "(I)Z"⟩ : MethodName)) hown (mvT hZ (hw _ (List.mem_of_getElem? (i := 14) rfl))) (mvT hZ (hw _ (List.mem_of_getElem? (i := 15) rfl))) (notFace_of_selects (args := #[]) (mvT hZ (hw _ (List.mem_of_getElem? (i := 17) rfl)))) (mvT hZ (hw _ (List.mem_of_getElem? (i := 17) rfl))) (mvT hZ (hw _ (List.mem_of_getElem? (i := 16) rfl))) (by decide) (backOf (W := 0) (rm3 l Z a0 hw [] a_EQUAL (1 : Int32) (0 : Int32) h0 n0 Z0 (Or.inl rfl) E_0 F_o) hZ (hw _ (List.mem_of_getElem? (i := 18) rfl)) (hw _ (List.mem_of_getElem? (i := 6) rfl)) (by decide) (by decide)) q3a q3c (g := (mkF m 20 #[.val (.int p0), .val (.int (0 : Int32)), .val (.ref a_EQUAL), .val (.int (0 : Int32)), .unset, .unset, .unset, .unset] [(.int (1 : Int32)), (.ref a_EQUAL)])) rfl (by rw [hml]; rfl) (Steps.refl _) (argsL := [(.int (1 : Int32))]) (rest := []) (lenOf pd_0_2 rfl) rfl (by show 2 * 0 + _ ≤ _; exact Nat.le_of_eq rfl) (hb hby at_20) (fun _ _ => ⟨rfl, e2, (by decide : 0 + 0 ≤ _), (by decide : 0 + 0 ≤ _)⟩)
    dsimp only [Pt.U, Pt.locs, Pt.cells, Pt.slots] at X3 l3 y3 z3 st3 hQ3
    subst l3 y3 z3
    obtain ⟨hv3, N3q, e3⟩ := hQ3
    rw [show own_hold (0 : Int32) (1 : Int32) = (0 : Int32) from by decide] at hv3
    subst hv3
    have N3 := Fr.app N2 N3q
    refine own_via (A' := T3.setTop (mkF m 23 #[.val (.int p0), .val (.int (0 : Int32)), .val (.ref a_EQUAL), .val (.int (0 : Int32)), .unset, .unset, .unset, .unset] [(.int (0 : Int32))])) (fun _ kt => st3.trans kt) ?_
    refine own_via (A' := T3.setTop (mkF m 25 #[.val (.int p0), .val (.int (0 : Int32)), .val (.ref a_EQUAL), .val (.int (0 : Int32)), .unset, .unset, .unset, .unset] [(.int (-1 : Int32)), (.ref a_EQUAL), (.int (0 : Int32))])) (fun target kt => ?_) ?_
    · show Steps p.tables e below (T3.setTop (mkF m 23 #[.val (.int p0), .val (.int (0 : Int32)), .val (.ref a_EQUAL), .val (.int (0 : Int32)), .unset, .unset, .unset, .unset] [(.int (0 : Int32))])) _
      refine XS.aloadN X3.here hx rfl (hb hby at_23) rfl rfl ?_
      show Steps p.tables e below (T3.setTop (mkF m 24 #[.val (.int p0), .val (.int (0 : Int32)), .val (.ref a_EQUAL), .val (.int (0 : Int32)), .unset, .unset, .unset, .unset] [(.ref a_EQUAL), (.int (0 : Int32))])) _
      refine XS.iconst X3.here hx rfl (hb hby at_24) ?_
      exact kt
    obtain ⟨cq4, kq4, q4a, q4b, q4c⟩ := isOf hZ e3 E_0
    obtain ⟨_, _, ⟨T4, L4, k4, n4⟩, -, X4, ⟨Lc4, hQ4, l4, y4, z4⟩, st4⟩ := X3.virtualBack hx (y := (⟨"com/example/resultree/resultree/xpath/Comparison", "holds", "(I)Z"⟩ : MethodName)) (z := (⟨"com/example/resultree/resultree/xpath/Comparison", "holds", "(I)Z"⟩ : MethodName)) hown (mvT hZ (hw _ (List.mem_of_getElem? (i := 14) rfl))) (mvT hZ (hw _ (List.mem_of_getElem? (i := 15) rfl))) (notFace_of_selects (args := #[]) (mvT hZ (hw _ (List.mem_of_getElem? (i := 17) rfl)))) (mvT hZ (hw _ (List.mem_of_getElem? (i := 17) rfl))) (mvT hZ (hw _ (List.mem_of_getElem? (i := 16) rfl))) (by decide) (backOf (W := 1) (rm3 l Z a0 hw [] a_EQUAL (-1 : Int32) (0 : Int32) h0 n0 Z0 (Or.inl rfl) E_0 F_o) hZ (hw _ (List.mem_of_getElem? (i := 18) rfl)) (hw _ (List.mem_of_getElem? (i := 6) rfl)) (by decide) (by decide)) q4a q4c (g := (mkF m 25 #[.val (.int p0), .val (.int (0 : Int32)), .val (.ref a_EQUAL), .val (.int (0 : Int32)), .unset, .unset, .unset, .unset] [(.int (-1 : Int32)), (.ref a_EQUAL), (.int (0 : Int32))])) rfl (by rw [hml]; rfl) (Steps.refl _) (argsL := [(.int (-1 : Int32))]) (rest := [(.int (0 : Int32))]) (lenOf pd_0_2 rfl) rfl (by show 2 * 0 + _ ≤ _; exact Nat.le_of_eq rfl) (hb hby at_25) (fun _ _ => ⟨rfl, e3, (by decide : 0 + 0 ≤ _), (by decide : 0 + 0 ≤ _)⟩)
    dsimp only [Pt.U, Pt.locs, Pt.cells, Pt.slots] at X4 l4 y4 z4 st4 hQ4
    subst l4 y4 z4
    obtain ⟨hv4, N4q, e4⟩ := hQ4
    rw [show own_hold (0 : Int32) (-1 : Int32) = (0 : Int32) from by decide] at hv4
    subst hv4
    have N4 := Fr.app N3 N4q
    refine own_via (A' := T4.setTop (mkF m 28 #[.val (.int p0), .val (.int (0 : Int32)), .val (.ref a_EQUAL), .val (.int (0 : Int32)), .unset, .unset, .unset, .unset] [(.int (0 : Int32)), (.int (0 : Int32))])) (fun _ kt => st4.trans kt) ?_
    refine own_via (A' := T4.setTop (mkF m 35 #[.val (.int p0), .val (.int (0 : Int32)), .val (.ref a_EQUAL), .val (.int (0 : Int32)), .unset, .unset, .unset, .unset] [])) (fun target kt => XS.icmpYes X4.here hx rfl (pc0 := 28) (pc' := 35) rfl (hb hby at_28) rfl (teq ((by decide) : (0 : Int32) = (0 : Int32))).1 (by decide) (by decide) kt) ?_
    refine own_via (A' := T4.setTop (mkF m 39 #[.val (.int p0), .val (.int (0 : Int32)), .val (.ref a_EQUAL), .val (.int (0 : Int32)), .val (.int (0 : Int32)), .unset, .unset, .unset] [(.ref a_EQUAL)])) (fun target kt => ?_) ?_
    · show Steps p.tables e below (T4.setTop (mkF m 35 #[.val (.int p0), .val (.int (0 : Int32)), .val (.ref a_EQUAL), .val (.int (0 : Int32)), .unset, .unset, .unset, .unset] [])) _
      refine XS.iconst X4.here hx rfl (hb hby at_35) ?_
      show Steps p.tables e below (T4.setTop (mkF m 36 #[.val (.int p0), .val (.int (0 : Int32)), .val (.ref a_EQUAL), .val (.int (0 : Int32)), .unset, .unset, .unset, .unset] [(.int (0 : Int32))])) _
      refine XS.istore X4.here hx rfl (hb hby at_36) rfl (l' := #[.val (.int p0), .val (.int (0 : Int32)), .val (.ref a_EQUAL), .val (.int (0 : Int32)), .val (.int (0 : Int32)), .unset, .unset, .unset]) rfl ?_
      show Steps p.tables e below (T4.setTop (mkF m 38 #[.val (.int p0), .val (.int (0 : Int32)), .val (.ref a_EQUAL), .val (.int (0 : Int32)), .val (.int (0 : Int32)), .unset, .unset, .unset] [])) _
      refine XS.aloadN X4.here hx rfl (hb hby at_38) rfl rfl ?_
      exact kt
    obtain ⟨cq5, kq5, q5a, q5b, q5c⟩ := isOf hZ e4 E_0
    obtain ⟨_, _, ⟨T5, L5, k5, n5⟩, -, X5, ⟨Lc5, hQ5, l5, y5, z5⟩, st5⟩ := X4.virtualBack hx (y := (⟨"com/example/resultree/resultree/xpath/Comparison", "symbol", "()Ljava/lang/String;"⟩ : MethodName)) (z := (⟨"com/example/resultree/resultree/xpath/Comparison", "symbol", "()Ljava/lang/String;"⟩ : MethodName)) hown (mvT hZ (hw _ (List.mem_of_getElem? (i := 28) rfl))) (mvT hZ (hw _ (List.mem_of_getElem? (i := 29) rfl))) (notFace_of_selects (args := #[]) (mvT hZ (hw _ (List.mem_of_getElem? (i := 31) rfl)))) (mvT hZ (hw _ (List.mem_of_getElem? (i := 31) rfl))) (mvT hZ (hw _ (List.mem_of_getElem? (i := 30) rfl))) (by decide) (backOf (W := 0) (rm5 l Z a0 hw [] a_EQUAL y_0 h0 n0 Z0 F_s) hZ (hw _ (List.mem_of_getElem? (i := 32) rfl)) (hw _ (List.mem_of_getElem? (i := 6) rfl)) (by decide) (by decide)) q5a q5c (g := (mkF m 39 #[.val (.int p0), .val (.int (0 : Int32)), .val (.ref a_EQUAL), .val (.int (0 : Int32)), .val (.int (0 : Int32)), .unset, .unset, .unset] [(.ref a_EQUAL)])) rfl (by rw [hml]; rfl) (Steps.refl _) (argsL := []) (rest := []) (lenOf pd_0_3 rfl) rfl (by show 2 * 0 + _ ≤ _; exact Nat.le_of_eq rfl) (hb hby at_39) (fun _ _ => ⟨rfl, e4, (by decide : 0 + 0 ≤ _), (by decide : 0 + 0 ≤ _)⟩)
    dsimp only [Pt.U, Pt.locs, Pt.cells, Pt.slots] at X5 l5 y5 z5 st5 hQ5
    subst l5 y5 z5
    obtain ⟨rfl, N5q, e5⟩ := hQ5
    have N5 := Fr.app N4 N5q
    refine own_via (A' := T5.setTop (mkF m 42 #[.val (.int p0), .val (.int (0 : Int32)), .val (.ref a_EQUAL), .val (.int (0 : Int32)), .val (.int (0 : Int32)), .unset, .unset, .unset] [(.ref y_0)])) (fun _ kt => st5.trans kt) ?_
    refine own_via (A' := T5.setTop (mkF m 46 #[.val (.int p0), .val (.int (0 : Int32)), .val (.ref a_EQUAL), .val (.int (0 : Int32)), .val (.int (0 : Int32)), .val (.ref y_0), .unset, .unset] [(.ref y_0)])) (fun target kt => ?_) ?_
    · show Steps p.tables e below (T5.setTop (mkF m 42 #[.val (.int p0), .val (.int (0 : Int32)), .val (.ref a_EQUAL), .val (.int (0 : Int32)), .val (.int (0 : Int32)), .unset, .unset, .unset] [(.ref y_0)])) _
      refine XS.astore X5.here hx rfl (hb hby at_42) rfl rfl (l' := #[.val (.int p0), .val (.int (0 : Int32)), .val (.ref a_EQUAL), .val (.int (0 : Int32)), .val (.int (0 : Int32)), .val (.ref y_0), .unset, .unset]) rfl ?_
      show Steps p.tables e below (T5.setTop (mkF m 44 #[.val (.int p0), .val (.int (0 : Int32)), .val (.ref a_EQUAL), .val (.int (0 : Int32)), .val (.int (0 : Int32)), .val (.ref y_0), .unset, .unset] [])) _
      refine XS.aload X5.here hx rfl (hb hby at_44) rfl rfl ?_
      exact kt
    obtain ⟨cq6, kq6, q6a, q6b, q6c⟩ := isOf hZ e5 E_s
    obtain ⟨_, _, ⟨T6, L6, k6, n6⟩, -, X6, ⟨Lc6, hQ6, l6, y6, z6⟩, st6⟩ := X5.virtualBack hx (y := (⟨"java/lang/String", "isEmpty", "()Z"⟩ : MethodName)) (z := (⟨"java/lang/String", "isEmpty", "()Z"⟩ : MethodName)) hown (mvT hZ (hw _ (List.mem_of_getElem? (i := 35) rfl))) (mvT hZ (hw _ (List.mem_of_getElem? (i := 36) rfl))) (notFace_of_selects (args := #[]) (mvT hZ (hw _ (List.mem_of_getElem? (i := 38) rfl)))) (mvT hZ (hw _ (List.mem_of_getElem? (i := 38) rfl))) (mvT hZ (hw _ (List.mem_of_getElem? (i := 37) rfl))) (by decide) (backOf (W := 0) (rm6 l Z a0 hw [] y_0 v_0 cl_0 z_0 h0 n0 Z0 F_v Ar_0 hz_0 hz_1) hZ (hw _ (List.mem_of_getElem? (i := 40) rfl)) (hw _ (List.mem_of_getElem? (i := 39) rfl)) (by decide) (by decide)) q6a q6c (g := (mkF m 46 #[.val (.int p0), .val (.int (0 : Int32)), .val (.ref a_EQUAL), .val (.int (0 : Int32)), .val (.int (0 : Int32)), .val (.ref y_0), .unset, .unset] [(.ref y_0)])) rfl (by rw [hml]; rfl) (Steps.refl _) (argsL := []) (rest := []) (lenOf pd_0_1 rfl) rfl (by show 2 * 0 + _ ≤ _; exact Nat.le_of_eq rfl) (hb hby at_46) (fun _ _ => ⟨rfl, e5, (by decide : 0 + 0 ≤ _), (by decide : 0 + 0 ≤ _)⟩)
    dsimp only [Pt.U, Pt.locs, Pt.cells, Pt.slots] at X6 l6 y6 z6 st6 hQ6
    subst l6 y6 z6
    obtain ⟨rfl, N6q, e6⟩ := hQ6
    have N6 := Fr.app N5 N6q
    refine own_via (A' := T6.setTop (mkF m 49 #[.val (.int p0), .val (.int (0 : Int32)), .val (.ref a_EQUAL), .val (.int (0 : Int32)), .val (.int (0 : Int32)), .val (.ref y_0), .unset, .unset] [(.int (0 : Int32))])) (fun _ kt => st6.trans kt) ?_
    refine own_via (A' := T6.setTop (mkF m 52 #[.val (.int p0), .val (.int (0 : Int32)), .val (.ref a_EQUAL), .val (.int (0 : Int32)), .val (.int (0 : Int32)), .val (.ref y_0), .unset, .unset] [])) (fun target kt => XS.ifNo X6.here hx rfl (hb hby at_49) rfl ((if0 _ _).trans (teq ((by decide) : (0 : Int32) = (0 : Int32))).2) kt) ?_
    refine own_via (A' := T6.setTop (mkF m 55 #[.val (.int p0), .val (.int (0 : Int32)), .val (.ref a_EQUAL), .val (.int (0 : Int32)), .val (.int (0 : Int32)), .val (.ref y_0), .unset, .unset] [(.int (0 : Int32)), (.ref y_0)])) (fun target kt => ?_) ?_
    · show Steps p.tables e below (T6.setTop (mkF m 52 #[.val (.int p0), .val (.int (0 : Int32)), .val (.ref a_EQUAL), .val (.int (0 : Int32)), .val (.int (0 : Int32)), .val (.ref y_0), .unset, .unset] [])) _
      refine XS.aload X6.here hx rfl (hb hby at_52) rfl rfl ?_
      show Steps p.tables e below (T6.setTop (mkF m 54 #[.val (.int p0), .val (.int (0 : Int32)), .val (.ref a_EQUAL), .val (.int (0 : Int32)), .val (.int (0 : Int32)), .val (.ref y_0), .unset, .unset] [(.ref y_0)])) _
      refine XS.iconst X6.here hx rfl (hb hby at_54) ?_
      exact kt
    obtain ⟨cq7, kq7, q7a, q7b, q7c⟩ := isOf hZ e6 E_s
    obtain ⟨_, _, ⟨T7, L7, k7, n7⟩, -, X7, ⟨Lc7, hQ7, l7, y7, z7⟩, st7⟩ := X6.virtualBack hx (y := (⟨"java/lang/String", "charAt", "(I)C"⟩ : MethodName)) (z := (⟨"java/lang/String", "charAt", "(I)C"⟩ : MethodName)) hown (mvT hZ (hw _ (List.mem_of_getElem? (i := 43) rfl))) (mvT hZ (hw _ (List.mem_of_getElem? (i := 44) rfl))) (notFace_of_selects (args := #[]) (mvT hZ (hw _ (List.mem_of_getElem? (i := 46) rfl)))) (mvT hZ (hw _ (List.mem_of_getElem? (i := 46) rfl))) (mvT hZ (hw _ (List.mem_of_getElem? (i := 45) rfl))) (by decide) (backOf (W := 0) (rm7 l Z a0 hw [] y_0 (0 : Int32) v_0 cl_0 z_0 (61 : Int32) vf wcs h0 n0 Z0 E_s F_v F_c Ar_0 hz_0 (by decide) hz_2 hin_0 hat_0 S_FM hv_vf S_CS hcs) hZ (hw _ (List.mem_of_getElem? (i := 47) rfl)) (hw _ (List.mem_of_getElem? (i := 39) rfl)) (by decide) (by decide)) q7a q7c (g := (mkF m 55 #[.val (.int p0), .val (.int (0 : Int32)), .val (.ref a_EQUAL), .val (.int (0 : Int32)), .val (.int (0 : Int32)), .val (.ref y_0), .unset, .unset] [(.int (0 : Int32)), (.ref y_0)])) rfl (by rw [hml]; rfl) (Steps.refl _) (argsL := [(.int (0 : Int32))]) (rest := []) (lenOf pd_0_4 rfl) rfl (by show 2 * 0 + _ ≤ _; exact Nat.le_of_eq rfl) (hb hby at_55) (fun _ _ => ⟨rfl, e6, (by decide : 0 + 0 ≤ _), (by decide : 0 + 0 ≤ _)⟩)
    dsimp only [Pt.U, Pt.locs, Pt.cells, Pt.slots] at X7 l7 y7 z7 st7 hQ7
    subst l7 y7 z7
    obtain ⟨hv7, N7q, e7⟩ := hQ7
    rw [show nar .char (own_lc (61 : Int32)) = (61 : Int32) from by decide] at hv7
    subst hv7
    have N7 := Fr.app N6 N7q
    refine own_via (A' := T7.setTop (mkF m 58 #[.val (.int p0), .val (.int (0 : Int32)), .val (.ref a_EQUAL), .val (.int (0 : Int32)), .val (.int (0 : Int32)), .val (.ref y_0), .unset, .unset] [(.int (61 : Int32))])) (fun _ kt => st7.trans kt) ?_
    refine own_via (A' := T7.setTop (mkF m 60 #[.val (.int p0), .val (.int (0 : Int32)), .val (.ref a_EQUAL), .val (.int (0 : Int32)), .val (.int (0 : Int32)), .val (.ref y_0), .unset, .unset] [(.int (60 : Int32)), (.int (61 : Int32))])) (fun target kt => ?_) ?_
    · show Steps p.tables e below (T7.setTop (mkF m 58 #[.val (.int p0), .val (.int (0 : Int32)), .val (.ref a_EQUAL), .val (.int (0 : Int32)), .val (.int (0 : Int32)), .val (.ref y_0), .unset, .unset] [(.int (61 : Int32))])) _
      refine XS.bipush X7.here hx rfl (hb hby at_58) ?_
      exact kt
    refine own_via (A' := T7.setTop (mkF m 63 #[.val (.int p0), .val (.int (0 : Int32)), .val (.ref a_EQUAL), .val (.int (0 : Int32)), .val (.int (0 : Int32)), .val (.ref y_0), .unset, .unset] [])) (fun target kt => XS.icmpNo X7.here hx rfl (hb hby at_60) rfl (feq ((by decide) : ¬ ((61 : Int32) = (60 : Int32)))).1 kt) ?_
    refine own_via (A' := T7.setTop (mkF m 66 #[.val (.int p0), .val (.int (0 : Int32)), .val (.ref a_EQUAL), .val (.int (0 : Int32)), .val (.int (0 : Int32)), .val (.ref y_0), .unset, .unset] [(.int (0 : Int32)), (.ref y_0)])) (fun target kt => ?_) ?_
    · show Steps p.tables e below (T7.setTop (mkF m 63 #[.val (.int p0), .val (.int (0 : Int32)), .val (.ref a_EQUAL), .val (.int (0 : Int32)), .val (.int (0 : Int32)), .val (.ref y_0), .unset, .unset] [])) _
      refine XS.aload X7.here hx rfl (hb hby at_63) rfl rfl ?_
      show Steps p.tables e below (T7.setTop (mkF m 65 #[.val (.int p0), .val (.int (0 : Int32)), .val (.ref a_EQUAL), .val (.int (0 : Int32)), .val (.int (0 : Int32)), .val (.ref y_0), .unset, .unset] [(.ref y_0)])) _
      refine XS.iconst X7.here hx rfl (hb hby at_65) ?_
      exact kt
    obtain ⟨cq8, kq8, q8a, q8b, q8c⟩ := isOf hZ e7 E_s
    obtain ⟨_, _, ⟨T8, L8, k8, n8⟩, -, X8, ⟨Lc8, hQ8, l8, y8, z8⟩, st8⟩ := X7.virtualBack hx (y := (⟨"java/lang/String", "charAt", "(I)C"⟩ : MethodName)) (z := (⟨"java/lang/String", "charAt", "(I)C"⟩ : MethodName)) hown (mvT hZ (hw _ (List.mem_of_getElem? (i := 43) rfl))) (mvT hZ (hw _ (List.mem_of_getElem? (i := 44) rfl))) (notFace_of_selects (args := #[]) (mvT hZ (hw _ (List.mem_of_getElem? (i := 46) rfl)))) (mvT hZ (hw _ (List.mem_of_getElem? (i := 46) rfl))) (mvT hZ (hw _ (List.mem_of_getElem? (i := 45) rfl))) (by decide) (backOf (W := 0) (rm7 l Z a0 hw [] y_0 (0 : Int32) v_0 cl_0 z_0 (61 : Int32) vf wcs h0 n0 Z0 E_s F_v F_c Ar_0 hz_0 (by decide) hz_2 hin_0 hat_0 S_FM hv_vf S_CS hcs) hZ (hw _ (List.mem_of_getElem? (i := 47) rfl)) (hw _ (List.mem_of_getElem? (i := 39) rfl)) (by decide) (by decide)) q8a q8c (g := (mkF m 66 #[.val (.int p0), .val (.int (0 : Int32)), .val (.ref a_EQUAL), .val (.int (0 : Int32)), .val (.int (0 : Int32)), .val (.ref y_0), .unset, .unset] [(.int (0 : Int32)), (.ref y_0)])) rfl (by rw [hml]; rfl) (Steps.refl _) (argsL := [(.int (0 : Int32))]) (rest := []) (lenOf pd_0_4 rfl) rfl (by show 2 * 0 + _ ≤ _; exact Nat.le_of_eq rfl) (hb hby at_66) (fun _ _ => ⟨rfl, e7, (by decide : 0 + 0 ≤ _), (by decide : 0 + 0 ≤ _)⟩)
    dsimp only [Pt.U, Pt.locs, Pt.cells, Pt.slots] at X8 l8 y8 z8 st8 hQ8
    subst l8 y8 z8
    obtain ⟨hv8, N8q, e8⟩ := hQ8
    rw [show nar .char (own_lc (61 : Int32)) = (61 : Int32) from by decide] at hv8
    subst hv8
    have N8 := Fr.app N7 N8q
    refine own_via (A' := T8.setTop (mkF m 69 #[.val (.int p0), .val (.int (0 : Int32)), .val (.ref a_EQUAL), .val (.int (0 : Int32)), .val (.int (0 : Int32)), .val (.ref y_0), .unset, .unset] [(.int (61 : Int32))])) (fun _ kt => st8.trans kt) ?_
    refine own_via (A' := T8.setTop (mkF m 71 #[.val (.int p0), .val (.int (0 : Int32)), .val (.ref a_EQUAL), .val (.int (0 : Int32)), .val (.int (0 : Int32)), .val (.ref y_0), .unset, .unset] [(.int (62 : Int32)), (.int (61 : Int32))])) (fun target kt => ?_) ?_
    · show Steps p.tables e below (T8.setTop (mkF m 69 #[.val (.int p0), .val (.int (0 : Int32)), .val (.ref a_EQUAL), .val (.int (0 : Int32)), .val (.int (0 : Int32)), .val (.ref y_0), .unset, .unset] [(.int (61 : Int32))])) _
      refine XS.bipush X8.here hx rfl (hb hby at_69) ?_
      exact kt
    refine own_via (A' := T8.setTop (mkF m 78 #[.val (.int p0), .val (.int (0 : Int32)), .val (.ref a_EQUAL), .val (.int (0 : Int32)), .val (.int (0 : Int32)), .val (.ref y_0), .unset, .unset] [])) (fun target kt => XS.icmpYes X8.here hx rfl (pc0 := 71) (pc' := 78) rfl (hb hby at_71) rfl (feq ((by decide) : ¬ ((61 : Int32) = (62 : Int32)))).2 (by decide) (by decide) kt) ?_
    refine own_via (A' := T8.setTop (mkF m 83 #[.val (.int p0), .val (.int (0 : Int32)), .val (.ref a_EQUAL), .val (.int (0 : Int32)), .val (.int (0 : Int32)), .val (.ref y_0), .val (.int (0 : Int32)), .unset] [(.int (2 : Int32)), (.int (0 : Int32))])) (fun target kt => ?_) ?_
    · show Steps p.tables e below (T8.setTop (mkF m 78 #[.val (.int p0), .val (.int (0 : Int32)), .val (.ref a_EQUAL), .val (.int (0 : Int32)), .val (.int (0 : Int32)), .val (.ref y_0), .unset, .unset] [])) _
      refine XS.iconst X8.here hx rfl (hb hby at_78) ?_
      show Steps p.tables e below (T8.setTop (mkF m 79 #[.val (.int p0), .val (.int (0 : Int32)), .val (.ref a_EQUAL), .val (.int (0 : Int32)), .val (.int (0 : Int32)), .val (.ref y_0), .unset, .unset] [(.int (0 : Int32))])) _
      refine XS.istore X8.here hx rfl (hb hby at_79) rfl (l' := #[.val (.int p0), .val (.int (0 : Int32)), .val (.ref a_EQUAL), .val (.int (0 : Int32)), .val (.int (0 : Int32)), .val (.ref y_0), .val (.int (0 : Int32)), .unset]) rfl ?_
      show Steps p.tables e below (T8.setTop (mkF m 81 #[.val (.int p0), .val (.int (0 : Int32)), .val (.ref a_EQUAL), .val (.int (0 : Int32)), .val (.int (0 : Int32)), .val (.ref y_0), .val (.int (0 : Int32)), .unset] [])) _
      refine XS.iloadN X8.here hx rfl (hb hby at_81) rfl ?_
      show Steps p.tables e below (T8.setTop (mkF m 82 #[.val (.int p0), .val (.int (0 : Int32)), .val (.ref a_EQUAL), .val (.int (0 : Int32)), .val (.int (0 : Int32)), .val (.ref y_0), .val (.int (0 : Int32)), .unset] [(.int (0 : Int32))])) _
      refine XS.iconst X8.here hx rfl (hb hby at_82) ?_
      exact kt
    refine own_via (A' := T8.setTop (mkF m 90 #[.val (.int p0), .val (.int (0 : Int32)), .val (.ref a_EQUAL), .val (.int (0 : Int32)), .val (.int (0 : Int32)), .val (.ref y_0), .val (.int (0 : Int32)), .unset] [])) (fun target kt => XS.icmpYes X8.here hx rfl (pc0 := 83) (pc' := 90) rfl (hb hby at_83) rfl (tlt ((by decide) : (0 : Int32) < (2 : Int32))).1 (by decide) (by decide) kt) ?_
    refine own_via (A' := T8.setTop (mkF m 96 #[.val (.int p0), .val (.int (0 : Int32)), .val (.ref a_EQUAL), .val (.int (0 : Int32)), .val (.int (0 : Int32)), .val (.ref y_0), .val (.int (0 : Int32)), .val (.int (0 : Int32))] [(.int (0 : Int32)), (.int (0 : Int32))])) (fun target kt => ?_) ?_
    · show Steps p.tables e below (T8.setTop (mkF m 90 #[.val (.int p0), .val (.int (0 : Int32)), .val (.ref a_EQUAL), .val (.int (0 : Int32)), .val (.int (0 : Int32)), .val (.ref y_0), .val (.int (0 : Int32)), .unset] [])) _
      refine XS.iconst X8.here hx rfl (hb hby at_90) ?_
      show Steps p.tables e below (T8.setTop (mkF m 91 #[.val (.int p0), .val (.int (0 : Int32)), .val (.ref a_EQUAL), .val (.int (0 : Int32)), .val (.int (0 : Int32)), .val (.ref y_0), .val (.int (0 : Int32)), .unset] [(.int (0 : Int32))])) _
      refine XS.istore X8.here hx rfl (hb hby at_91) rfl (l' := #[.val (.int p0), .val (.int (0 : Int32)), .val (.ref a_EQUAL), .val (.int (0 : Int32)), .val (.int (0 : Int32)), .val (.ref y_0), .val (.int (0 : Int32)), .val (.int (0 : Int32))]) rfl ?_
      show Steps p.tables e below (T8.setTop (mkF m 93 #[.val (.int p0), .val (.int (0 : Int32)), .val (.ref a_EQUAL), .val (.int (0 : Int32)), .val (.int (0 : Int32)), .val (.ref y_0), .val (.int (0 : Int32)), .val (.int (0 : Int32))] [])) _
      refine XS.iloadN X8.here hx rfl (hb hby at_93) rfl ?_
      show Steps p.tables e below (T8.setTop (mkF m 94 #[.val (.int p0), .val (.int (0 : Int32)), .val (.ref a_EQUAL), .val (.int (0 : Int32)), .val (.int (0 : Int32)), .val (.ref y_0), .val (.int (0 : Int32)), .val (.int (0 : Int32))] [(.int (0 : Int32))])) _
      refine XS.iload X8.here hx rfl (hb hby at_94) rfl ?_
      exact kt
    refine own_via (A' := T8.setTop (mkF m 99 #[.val (.int p0), .val (.int (0 : Int32)), .val (.ref a_EQUAL), .val (.int (0 : Int32)), .val (.int (0 : Int32)), .val (.ref y_0), .val (.int (0 : Int32)), .val (.int (0 : Int32))] [])) (fun target kt => XS.icmpNo X8.here hx rfl (hb hby at_96) rfl (teq ((by decide) : (0 : Int32) = (0 : Int32))).2 kt) ?_
    refine own_via (A' := T8.setTop (mkF m 102 #[.val (.int p0), .val (.int (0 : Int32)), .val (.ref a_EQUAL), .val (.int (0 : Int32)), .val (.int (0 : Int32)), .val (.ref y_0), .val (.int (0 : Int32)), .val (.int (0 : Int32))] [(.int (0 : Int32)), (.int (0 : Int32))])) (fun target kt => ?_) ?_
    · show Steps p.tables e below (T8.setTop (mkF m 99 #[.val (.int p0), .val (.int (0 : Int32)), .val (.ref a_EQUAL), .val (.int (0 : Int32)), .val (.int (0 : Int32)), .val (.ref y_0), .val (.int (0 : Int32)), .val (.int (0 : Int32))] [])) _
      refine XS.iloadN X8.here hx rfl (hb hby at_99) rfl ?_
      show Steps p.tables e below (T8.setTop (mkF m 100 #[.val (.int p0), .val (.int (0 : Int32)), .val (.ref a_EQUAL), .val (.int (0 : Int32)), .val (.int (0 : Int32)), .val (.ref y_0), .val (.int (0 : Int32)), .val (.int (0 : Int32))] [(.int (0 : Int32))])) _
      refine XS.iload X8.here hx rfl (hb hby at_100) rfl ?_
      exact kt
    refine own_via (A' := T8.setTop (mkF m 105 #[.val (.int p0), .val (.int (0 : Int32)), .val (.ref a_EQUAL), .val (.int (0 : Int32)), .val (.int (0 : Int32)), .val (.ref y_0), .val (.int (0 : Int32)), .val (.int (0 : Int32))] [])) (fun target kt => XS.icmpNo X8.here hx rfl (hb hby at_102) rfl (teq ((by decide) : (0 : Int32) = (0 : Int32))).2 kt) ?_
    refine own_via (A' := T8.setTop (mkF m 108 #[.val (.int p0), .val (.int (0 : Int32)), .val (.ref a_EQUAL), .val (.int (0 : Int32)), .val (.int (0 : Int32)), .val (.ref y_0), .val (.int (0 : Int32)), .val (.int (0 : Int32))] [(.int (0 : Int32)), (.int (0 : Int32))])) (fun target kt => ?_) ?_
    · show Steps p.tables e below (T8.setTop (mkF m 105 #[.val (.int p0), .val (.int (0 : Int32)), .val (.ref a_EQUAL), .val (.int (0 : Int32)), .val (.int (0 : Int32)), .val (.ref y_0), .val (.int (0 : Int32)), .val (.int (0 : Int32))] [])) _
      refine XS.iloadN X8.here hx rfl (hb hby at_105) rfl ?_
      show Steps p.tables e below (T8.setTop (mkF m 106 #[.val (.int p0), .val (.int (0 : Int32)), .val (.ref a_EQUAL), .val (.int (0 : Int32)), .val (.int (0 : Int32)), .val (.ref y_0), .val (.int (0 : Int32)), .val (.int (0 : Int32))] [(.int (0 : Int32))])) _
      refine XS.iload X8.here hx rfl (hb hby at_106) rfl ?_
      exact kt
    refine own_via (A' := T8.setTop (mkF m 111 #[.val (.int p0), .val (.int (0 : Int32)), .val (.ref a_EQUAL), .val (.int (0 : Int32)), .val (.int (0 : Int32)), .val (.ref y_0), .val (.int (0 : Int32)), .val (.int (0 : Int32))] [])) (fun target kt => XS.icmpNo X8.here hx rfl (hb hby at_108) rfl (teq ((by decide) : (0 : Int32) = (0 : Int32))).2 kt) ?_
    refine own_via (A' := T8.setTop (mkF m 116 #[.val (.int p0), .val (.int (0 : Int32)), .val (.ref a_EQUAL), .val (.int (0 : Int32)), .val (.int (0 : Int32)), .val (.ref y_0), .val (.int (0 : Int32)), .val (.int (0 : Int32))] [(.int (1 : Int32))])) (fun target kt => ?_) ?_
    · show Steps p.tables e below (T8.setTop (mkF m 111 #[.val (.int p0), .val (.int (0 : Int32)), .val (.ref a_EQUAL), .val (.int (0 : Int32)), .val (.int (0 : Int32)), .val (.ref y_0), .val (.int (0 : Int32)), .val (.int (0 : Int32))] [])) _
      refine XS.iconst X8.here hx rfl (hb hby at_111) ?_
      show Steps p.tables e below (T8.setTop (mkF m 112 #[.val (.int p0), .val (.int (0 : Int32)), .val (.ref a_EQUAL), .val (.int (0 : Int32)), .val (.int (0 : Int32)), .val (.ref y_0), .val (.int (0 : Int32)), .val (.int (0 : Int32))] [(.int (1 : Int32))])) _
      refine XS.goto X8.here hx rfl (pc0 := 112) (pc' := 116) rfl (hb hby at_112) (by decide) (by decide) ?_
      exact kt
    exact own_retN X8 Bd.notSynchronized hx (t := .boolean) Bd.returns (by simp) (hb hby at_116) (show Q0 Z p0 a_EQUAL a_NOT_EQUAL a_LESS_OR_EQUAL a_LESS a_GREATER_OR_EQUAL a_GREATER vf wcs h0 n0 _ _ _ from ⟨rfl, N8⟩) (by decide) (by decide)
  · have K_0 := K_NOT_EQUAL
    obtain ⟨E_0, F_o, y_0, v_0, cl_0, z_0, F_s, E_s, F_v, F_c, Ar_0, hz_0, hz_1, hz_2, hin_0, hat_0⟩ := K_0
    refine own_via (A' := s₁.setTop (mkF m 9 #[.val (.int p0), .val (.int (1 : Int32)), .unset, .unset, .unset, .unset, .unset, .unset] [(.int (1 : Int32))])) (fun target kt => ?_) ?_
    · show Steps p.tables e below (s₁.setTop (mkF m 8 #[.val (.int p0), .val (.int (1 : Int32)), .unset, .unset, .unset, .unset, .unset, .unset] [])) _
      refine XS.iloadN X0.here hx rfl (hb hby at_8) rfl ?_
      exact kt
    obtain ⟨_, _, ⟨T9, L9, k9, n9⟩, -, X9, ⟨Lc9, hQ9, l9, y9, z9⟩, st9⟩ := Jvm.LawKit.callS X0 hx (y := (⟨"com/example/resultree/resultree/xpath/ComparisonIsOrderingPinLaw", "pick", "(I)Lcom/example/resultree/resultree/xpath/Comparison;"⟩ : MethodName)) hown (mvT hZ (hw _ (List.mem_of_getElem? (i := 1) rfl))) (mvT hZ (hw _ (List.mem_of_getElem? (i := 2) rfl))) (mvT hZ (hw _ (List.mem_of_getElem? (i := 3) rfl))) (mvT hZ (hw _ (List.mem_of_getElem? (i := 4) rfl))) (by decide) (backOf (W := 0) (rm1 l Z a0 hw [] (1 : Int32) a_EQUAL a_NOT_EQUAL a_LESS_OR_EQUAL a_LESS a_GREATER_OR_EQUAL a_GREATER h0 n0 Z0 S_EQUAL S_NOT_EQUAL S_LESS_OR_EQUAL S_LESS S_GREATER_OR_EQUAL S_GREATER) hZ (hw _ (List.mem_of_getElem? (i := 4) rfl)) (hw _ (List.mem_of_getElem? (i := 3) rfl)) (by decide) (by decide)) (g := (mkF m 9 #[.val (.int p0), .val (.int (1 : Int32)), .unset, .unset, .unset, .unset, .unset, .unset] [(.int (1 : Int32))])) rfl (by rw [hml]; rfl) (argsL := [(.int (1 : Int32))]) (rest := []) (lenOf pd_0_0 rfl) rfl (by show 2 * 0 + _ ≤ _; exact Nat.le_of_eq rfl) (hb hby at_9) (fun _ _ => ⟨rfl, e0, (by decide : 0 + 0 ≤ _), (by decide : 0 + 0 ≤ _)⟩)
    dsimp only [Pt.U, Pt.locs, Pt.cells, Pt.slots] at X9 l9 y9 z9 st9 hQ9
    subst l9 y9 z9
    obtain ⟨hv9, N9q, e9⟩ := hQ9
    rw [show own_pick (1 : Int32) a_EQUAL a_NOT_EQUAL a_LESS_OR_EQUAL a_LESS a_GREATER_OR_EQUAL a_GREATER = a_NOT_EQUAL from by simp [own_pick]] at hv9
    subst hv9
    have N9 := Fr.app N0 N9q
    refine own_via (A' := T9.setTop (mkF m 12 #[.val (.int p0), .val (.int (1 : Int32)), .unset, .unset, .unset, .unset, .unset, .unset] [(.ref a_NOT_EQUAL)])) st9 ?_
    refine own_via (A' := T9.setTop (mkF m 14 #[.val (.int p0), .val (.int (1 : Int32)), .val (.ref a_NOT_EQUAL), .unset, .unset, .unset, .unset, .unset] [(.ref a_NOT_EQUAL)])) (fun target kt => ?_) ?_
    · show Steps p.tables e below (T9.setTop (mkF m 12 #[.val (.int p0), .val (.int (1 : Int32)), .unset, .unset, .unset, .unset, .unset, .unset] [(.ref a_NOT_EQUAL)])) _
      refine XS.astoreN X9.here hx rfl (hb hby at_12) rfl rfl (l' := #[.val (.int p0), .val (.int (1 : Int32)), .val (.ref a_NOT_EQUAL), .unset, .unset, .unset, .unset, .unset]) rfl ?_
      show Steps p.tables e below (T9.setTop (mkF m 13 #[.val (.int p0), .val (.int (1 : Int32)), .val (.ref a_NOT_EQUAL), .unset, .unset, .unset, .unset, .unset] [])) _
      refine XS.aloadN X9.here hx rfl (hb hby at_13) rfl rfl ?_
      exact kt
    obtain ⟨cq10, kq10, q10a, q10b, q10c⟩ := isOf hZ e9 E_0
    obtain ⟨_, _, ⟨T10, L10, k10, n10⟩, -, X10, ⟨Lc10, hQ10, l10, y10, z10⟩, st10⟩ := X9.virtualBack hx (y := (⟨"com/example/resultree/resultree/xpath/Comparison", "isOrdering", "()Z"⟩ : MethodName)) (z := (⟨"com/example/resultree/resultree/xpath/Comparison", "isOrdering", "()Z"⟩ : MethodName)) hown (mvT hZ (hw _ (List.mem_of_getElem? (i := 8) rfl))) (mvT hZ (hw _ (List.mem_of_getElem? (i := 9) rfl))) (notFace_of_selects (args := #[]) (mvT hZ (hw _ (List.mem_of_getElem? (i := 11) rfl)))) (mvT hZ (hw _ (List.mem_of_getElem? (i := 11) rfl))) (mvT hZ (hw _ (List.mem_of_getElem? (i := 10) rfl))) (by decide) (backOf (W := 0) (rm2 l Z a0 hw [] a_NOT_EQUAL a_EQUAL a_NOT_EQUAL h0 n0 Z0 S_EQUAL S_NOT_EQUAL) hZ (hw _ (List.mem_of_getElem? (i := 12) rfl)) (hw _ (List.mem_of_getElem? (i := 6) rfl)) (by decide) (by decide)) q10a q10c (g := (mkF m 14 #[.val (.int p0), .val (.int (1 : Int32)), .val (.ref a_NOT_EQUAL), .unset, .unset, .unset, .unset, .unset] [(.ref a_NOT_EQUAL)])) rfl (by rw [hml]; rfl) (Steps.refl _) (argsL := []) (rest := []) (lenOf pd_0_1 rfl) rfl (by show 2 * 0 + _ ≤ _; exact Nat.le_of_eq rfl) (hb hby at_14) (fun _ _ => ⟨rfl, e9, (by decide : 0 + 0 ≤ _), (by decide : 0 + 0 ≤ _)⟩)
    dsimp only [Pt.U, Pt.locs, Pt.cells, Pt.slots] at X10 l10 y10 z10 st10 hQ10
    subst l10 y10 z10
    obtain ⟨hv10, N10q, e10⟩ := hQ10
    rw [show own_isord a_NOT_EQUAL a_EQUAL a_NOT_EQUAL = (0 : Int32) from by simp [own_isord]] at hv10
    subst hv10
    have N10 := Fr.app N9 N10q
    refine own_via (A' := T10.setTop (mkF m 17 #[.val (.int p0), .val (.int (1 : Int32)), .val (.ref a_NOT_EQUAL), .unset, .unset, .unset, .unset, .unset] [(.int (0 : Int32))])) (fun _ kt => st10.trans kt) ?_
    refine own_via (A' := T10.setTop (mkF m 20 #[.val (.int p0), .val (.int (1 : Int32)), .val (.ref a_NOT_EQUAL), .val (.int (0 : Int32)), .unset, .unset, .unset, .unset] [(.int (1 : Int32)), (.ref a_NOT_EQUAL)])) (fun target kt => ?_) ?_
    · show Steps p.tables e below (T10.setTop (mkF m 17 #[.val (.int p0), .val (.int (1 : Int32)), .val (.ref a_NOT_EQUAL), .unset, .unset, .unset, .unset, .unset] [(.int (0 : Int32))])) _
      refine XS.istoreN X10.here hx rfl (hb hby at_17) rfl (l' := #[.val (.int p0), .val (.int (1 : Int32)), .val (.ref a_NOT_EQUAL), .val (.int (0 : Int32)), .unset, .unset, .unset, .unset]) rfl ?_
      show Steps p.tables e below (T10.setTop (mkF m 18 #[.val (.int p0), .val (.int (1 : Int32)), .val (.ref a_NOT_EQUAL), .val (.int (0 : Int32)), .unset, .unset, .unset, .unset] [])) _
      refine XS.aloadN X10.here hx rfl (hb hby at_18) rfl rfl ?_
      show Steps p.tables e below (T10.setTop (mkF m 19 #[.val (.int p0), .val (.int (1 : Int32)), .val (.ref a_NOT_EQUAL), .val (.int (0 : Int32)), .unset, .unset, .unset, .unset] [(.ref a_NOT_EQUAL)])) _
      refine XS.iconst X10.here hx rfl (hb hby at_19) ?_
      exact kt
    obtain ⟨cq11, kq11, q11a, q11b, q11c⟩ := isOf hZ e10 E_0
    obtain ⟨_, _, ⟨T11, L11, k11, n11⟩, -, X11, ⟨Lc11, hQ11, l11, y11, z11⟩, st11⟩ := X10.virtualBack hx (y := (⟨"com/example/resultree/resultree/xpath/Comparison", "holds", "(I)Z"⟩ : MethodName)) (z := (⟨"com/example/resultree/resultree/xpath/Comparison", "holds", "(I)Z"⟩ : MethodName)) hown (mvT hZ (hw _ (List.mem_of_getElem? (i := 14) rfl))) (mvT hZ (hw _ (List.mem_of_getElem? (i := 15) rfl))) (notFace_of_selects (args := #[]) (mvT hZ (hw _ (List.mem_of_getElem? (i := 17) rfl)))) (mvT hZ (hw _ (List.mem_of_getElem? (i := 17) rfl))) (mvT hZ (hw _ (List.mem_of_getElem? (i := 16) rfl))) (by decide) (backOf (W := 0) (rm3 l Z a0 hw [] a_NOT_EQUAL (1 : Int32) (1 : Int32) h0 n0 Z0 (Or.inr (Or.inl rfl)) E_0 F_o) hZ (hw _ (List.mem_of_getElem? (i := 18) rfl)) (hw _ (List.mem_of_getElem? (i := 6) rfl)) (by decide) (by decide)) q11a q11c (g := (mkF m 20 #[.val (.int p0), .val (.int (1 : Int32)), .val (.ref a_NOT_EQUAL), .val (.int (0 : Int32)), .unset, .unset, .unset, .unset] [(.int (1 : Int32)), (.ref a_NOT_EQUAL)])) rfl (by rw [hml]; rfl) (Steps.refl _) (argsL := [(.int (1 : Int32))]) (rest := []) (lenOf pd_0_2 rfl) rfl (by show 2 * 0 + _ ≤ _; exact Nat.le_of_eq rfl) (hb hby at_20) (fun _ _ => ⟨rfl, e10, (by decide : 0 + 0 ≤ _), (by decide : 0 + 0 ≤ _)⟩)
    dsimp only [Pt.U, Pt.locs, Pt.cells, Pt.slots] at X11 l11 y11 z11 st11 hQ11
    subst l11 y11 z11
    obtain ⟨hv11, N11q, e11⟩ := hQ11
    rw [show own_hold (1 : Int32) (1 : Int32) = (1 : Int32) from by decide] at hv11
    subst hv11
    have N11 := Fr.app N10 N11q
    refine own_via (A' := T11.setTop (mkF m 23 #[.val (.int p0), .val (.int (1 : Int32)), .val (.ref a_NOT_EQUAL), .val (.int (0 : Int32)), .unset, .unset, .unset, .unset] [(.int (1 : Int32))])) (fun _ kt => st11.trans kt) ?_
    refine own_via (A' := T11.setTop (mkF m 25 #[.val (.int p0), .val (.int (1 : Int32)), .val (.ref a_NOT_EQUAL), .val (.int (0 : Int32)), .unset, .unset, .unset, .unset] [(.int (-1 : Int32)), (.ref a_NOT_EQUAL), (.int (1 : Int32))])) (fun target kt => ?_) ?_
    · show Steps p.tables e below (T11.setTop (mkF m 23 #[.val (.int p0), .val (.int (1 : Int32)), .val (.ref a_NOT_EQUAL), .val (.int (0 : Int32)), .unset, .unset, .unset, .unset] [(.int (1 : Int32))])) _
      refine XS.aloadN X11.here hx rfl (hb hby at_23) rfl rfl ?_
      show Steps p.tables e below (T11.setTop (mkF m 24 #[.val (.int p0), .val (.int (1 : Int32)), .val (.ref a_NOT_EQUAL), .val (.int (0 : Int32)), .unset, .unset, .unset, .unset] [(.ref a_NOT_EQUAL), (.int (1 : Int32))])) _
      refine XS.iconst X11.here hx rfl (hb hby at_24) ?_
      exact kt
    obtain ⟨cq12, kq12, q12a, q12b, q12c⟩ := isOf hZ e11 E_0
    obtain ⟨_, _, ⟨T12, L12, k12, n12⟩, -, X12, ⟨Lc12, hQ12, l12, y12, z12⟩, st12⟩ := X11.virtualBack hx (y := (⟨"com/example/resultree/resultree/xpath/Comparison", "holds", "(I)Z"⟩ : MethodName)) (z := (⟨"com/example/resultree/resultree/xpath/Comparison", "holds", "(I)Z"⟩ : MethodName)) hown (mvT hZ (hw _ (List.mem_of_getElem? (i := 14) rfl))) (mvT hZ (hw _ (List.mem_of_getElem? (i := 15) rfl))) (notFace_of_selects (args := #[]) (mvT hZ (hw _ (List.mem_of_getElem? (i := 17) rfl)))) (mvT hZ (hw _ (List.mem_of_getElem? (i := 17) rfl))) (mvT hZ (hw _ (List.mem_of_getElem? (i := 16) rfl))) (by decide) (backOf (W := 1) (rm3 l Z a0 hw [] a_NOT_EQUAL (-1 : Int32) (1 : Int32) h0 n0 Z0 (Or.inr (Or.inl rfl)) E_0 F_o) hZ (hw _ (List.mem_of_getElem? (i := 18) rfl)) (hw _ (List.mem_of_getElem? (i := 6) rfl)) (by decide) (by decide)) q12a q12c (g := (mkF m 25 #[.val (.int p0), .val (.int (1 : Int32)), .val (.ref a_NOT_EQUAL), .val (.int (0 : Int32)), .unset, .unset, .unset, .unset] [(.int (-1 : Int32)), (.ref a_NOT_EQUAL), (.int (1 : Int32))])) rfl (by rw [hml]; rfl) (Steps.refl _) (argsL := [(.int (-1 : Int32))]) (rest := [(.int (1 : Int32))]) (lenOf pd_0_2 rfl) rfl (by show 2 * 0 + _ ≤ _; exact Nat.le_of_eq rfl) (hb hby at_25) (fun _ _ => ⟨rfl, e11, (by decide : 0 + 0 ≤ _), (by decide : 0 + 0 ≤ _)⟩)
    dsimp only [Pt.U, Pt.locs, Pt.cells, Pt.slots] at X12 l12 y12 z12 st12 hQ12
    subst l12 y12 z12
    obtain ⟨hv12, N12q, e12⟩ := hQ12
    rw [show own_hold (1 : Int32) (-1 : Int32) = (1 : Int32) from by decide] at hv12
    subst hv12
    have N12 := Fr.app N11 N12q
    refine own_via (A' := T12.setTop (mkF m 28 #[.val (.int p0), .val (.int (1 : Int32)), .val (.ref a_NOT_EQUAL), .val (.int (0 : Int32)), .unset, .unset, .unset, .unset] [(.int (1 : Int32)), (.int (1 : Int32))])) (fun _ kt => st12.trans kt) ?_
    refine own_via (A' := T12.setTop (mkF m 35 #[.val (.int p0), .val (.int (1 : Int32)), .val (.ref a_NOT_EQUAL), .val (.int (0 : Int32)), .unset, .unset, .unset, .unset] [])) (fun target kt => XS.icmpYes X12.here hx rfl (pc0 := 28) (pc' := 35) rfl (hb hby at_28) rfl (teq ((by decide) : (1 : Int32) = (1 : Int32))).1 (by decide) (by decide) kt) ?_
    refine own_via (A' := T12.setTop (mkF m 39 #[.val (.int p0), .val (.int (1 : Int32)), .val (.ref a_NOT_EQUAL), .val (.int (0 : Int32)), .val (.int (0 : Int32)), .unset, .unset, .unset] [(.ref a_NOT_EQUAL)])) (fun target kt => ?_) ?_
    · show Steps p.tables e below (T12.setTop (mkF m 35 #[.val (.int p0), .val (.int (1 : Int32)), .val (.ref a_NOT_EQUAL), .val (.int (0 : Int32)), .unset, .unset, .unset, .unset] [])) _
      refine XS.iconst X12.here hx rfl (hb hby at_35) ?_
      show Steps p.tables e below (T12.setTop (mkF m 36 #[.val (.int p0), .val (.int (1 : Int32)), .val (.ref a_NOT_EQUAL), .val (.int (0 : Int32)), .unset, .unset, .unset, .unset] [(.int (0 : Int32))])) _
      refine XS.istore X12.here hx rfl (hb hby at_36) rfl (l' := #[.val (.int p0), .val (.int (1 : Int32)), .val (.ref a_NOT_EQUAL), .val (.int (0 : Int32)), .val (.int (0 : Int32)), .unset, .unset, .unset]) rfl ?_
      show Steps p.tables e below (T12.setTop (mkF m 38 #[.val (.int p0), .val (.int (1 : Int32)), .val (.ref a_NOT_EQUAL), .val (.int (0 : Int32)), .val (.int (0 : Int32)), .unset, .unset, .unset] [])) _
      refine XS.aloadN X12.here hx rfl (hb hby at_38) rfl rfl ?_
      exact kt
    obtain ⟨cq13, kq13, q13a, q13b, q13c⟩ := isOf hZ e12 E_0
    obtain ⟨_, _, ⟨T13, L13, k13, n13⟩, -, X13, ⟨Lc13, hQ13, l13, y13, z13⟩, st13⟩ := X12.virtualBack hx (y := (⟨"com/example/resultree/resultree/xpath/Comparison", "symbol", "()Ljava/lang/String;"⟩ : MethodName)) (z := (⟨"com/example/resultree/resultree/xpath/Comparison", "symbol", "()Ljava/lang/String;"⟩ : MethodName)) hown (mvT hZ (hw _ (List.mem_of_getElem? (i := 28) rfl))) (mvT hZ (hw _ (List.mem_of_getElem? (i := 29) rfl))) (notFace_of_selects (args := #[]) (mvT hZ (hw _ (List.mem_of_getElem? (i := 31) rfl)))) (mvT hZ (hw _ (List.mem_of_getElem? (i := 31) rfl))) (mvT hZ (hw _ (List.mem_of_getElem? (i := 30) rfl))) (by decide) (backOf (W := 0) (rm5 l Z a0 hw [] a_NOT_EQUAL y_0 h0 n0 Z0 F_s) hZ (hw _ (List.mem_of_getElem? (i := 32) rfl)) (hw _ (List.mem_of_getElem? (i := 6) rfl)) (by decide) (by decide)) q13a q13c (g := (mkF m 39 #[.val (.int p0), .val (.int (1 : Int32)), .val (.ref a_NOT_EQUAL), .val (.int (0 : Int32)), .val (.int (0 : Int32)), .unset, .unset, .unset] [(.ref a_NOT_EQUAL)])) rfl (by rw [hml]; rfl) (Steps.refl _) (argsL := []) (rest := []) (lenOf pd_0_3 rfl) rfl (by show 2 * 0 + _ ≤ _; exact Nat.le_of_eq rfl) (hb hby at_39) (fun _ _ => ⟨rfl, e12, (by decide : 0 + 0 ≤ _), (by decide : 0 + 0 ≤ _)⟩)
    dsimp only [Pt.U, Pt.locs, Pt.cells, Pt.slots] at X13 l13 y13 z13 st13 hQ13
    subst l13 y13 z13
    obtain ⟨rfl, N13q, e13⟩ := hQ13
    have N13 := Fr.app N12 N13q
    refine own_via (A' := T13.setTop (mkF m 42 #[.val (.int p0), .val (.int (1 : Int32)), .val (.ref a_NOT_EQUAL), .val (.int (0 : Int32)), .val (.int (0 : Int32)), .unset, .unset, .unset] [(.ref y_0)])) (fun _ kt => st13.trans kt) ?_
    refine own_via (A' := T13.setTop (mkF m 46 #[.val (.int p0), .val (.int (1 : Int32)), .val (.ref a_NOT_EQUAL), .val (.int (0 : Int32)), .val (.int (0 : Int32)), .val (.ref y_0), .unset, .unset] [(.ref y_0)])) (fun target kt => ?_) ?_
    · show Steps p.tables e below (T13.setTop (mkF m 42 #[.val (.int p0), .val (.int (1 : Int32)), .val (.ref a_NOT_EQUAL), .val (.int (0 : Int32)), .val (.int (0 : Int32)), .unset, .unset, .unset] [(.ref y_0)])) _
      refine XS.astore X13.here hx rfl (hb hby at_42) rfl rfl (l' := #[.val (.int p0), .val (.int (1 : Int32)), .val (.ref a_NOT_EQUAL), .val (.int (0 : Int32)), .val (.int (0 : Int32)), .val (.ref y_0), .unset, .unset]) rfl ?_
      show Steps p.tables e below (T13.setTop (mkF m 44 #[.val (.int p0), .val (.int (1 : Int32)), .val (.ref a_NOT_EQUAL), .val (.int (0 : Int32)), .val (.int (0 : Int32)), .val (.ref y_0), .unset, .unset] [])) _
      refine XS.aload X13.here hx rfl (hb hby at_44) rfl rfl ?_
      exact kt
    obtain ⟨cq14, kq14, q14a, q14b, q14c⟩ := isOf hZ e13 E_s
    obtain ⟨_, _, ⟨T14, L14, k14, n14⟩, -, X14, ⟨Lc14, hQ14, l14, y14, z14⟩, st14⟩ := X13.virtualBack hx (y := (⟨"java/lang/String", "isEmpty", "()Z"⟩ : MethodName)) (z := (⟨"java/lang/String", "isEmpty", "()Z"⟩ : MethodName)) hown (mvT hZ (hw _ (List.mem_of_getElem? (i := 35) rfl))) (mvT hZ (hw _ (List.mem_of_getElem? (i := 36) rfl))) (notFace_of_selects (args := #[]) (mvT hZ (hw _ (List.mem_of_getElem? (i := 38) rfl)))) (mvT hZ (hw _ (List.mem_of_getElem? (i := 38) rfl))) (mvT hZ (hw _ (List.mem_of_getElem? (i := 37) rfl))) (by decide) (backOf (W := 0) (rm6 l Z a0 hw [] y_0 v_0 cl_0 z_0 h0 n0 Z0 F_v Ar_0 hz_0 hz_1) hZ (hw _ (List.mem_of_getElem? (i := 40) rfl)) (hw _ (List.mem_of_getElem? (i := 39) rfl)) (by decide) (by decide)) q14a q14c (g := (mkF m 46 #[.val (.int p0), .val (.int (1 : Int32)), .val (.ref a_NOT_EQUAL), .val (.int (0 : Int32)), .val (.int (0 : Int32)), .val (.ref y_0), .unset, .unset] [(.ref y_0)])) rfl (by rw [hml]; rfl) (Steps.refl _) (argsL := []) (rest := []) (lenOf pd_0_1 rfl) rfl (by show 2 * 0 + _ ≤ _; exact Nat.le_of_eq rfl) (hb hby at_46) (fun _ _ => ⟨rfl, e13, (by decide : 0 + 0 ≤ _), (by decide : 0 + 0 ≤ _)⟩)
    dsimp only [Pt.U, Pt.locs, Pt.cells, Pt.slots] at X14 l14 y14 z14 st14 hQ14
    subst l14 y14 z14
    obtain ⟨rfl, N14q, e14⟩ := hQ14
    have N14 := Fr.app N13 N14q
    refine own_via (A' := T14.setTop (mkF m 49 #[.val (.int p0), .val (.int (1 : Int32)), .val (.ref a_NOT_EQUAL), .val (.int (0 : Int32)), .val (.int (0 : Int32)), .val (.ref y_0), .unset, .unset] [(.int (0 : Int32))])) (fun _ kt => st14.trans kt) ?_
    refine own_via (A' := T14.setTop (mkF m 52 #[.val (.int p0), .val (.int (1 : Int32)), .val (.ref a_NOT_EQUAL), .val (.int (0 : Int32)), .val (.int (0 : Int32)), .val (.ref y_0), .unset, .unset] [])) (fun target kt => XS.ifNo X14.here hx rfl (hb hby at_49) rfl ((if0 _ _).trans (teq ((by decide) : (0 : Int32) = (0 : Int32))).2) kt) ?_
    refine own_via (A' := T14.setTop (mkF m 55 #[.val (.int p0), .val (.int (1 : Int32)), .val (.ref a_NOT_EQUAL), .val (.int (0 : Int32)), .val (.int (0 : Int32)), .val (.ref y_0), .unset, .unset] [(.int (0 : Int32)), (.ref y_0)])) (fun target kt => ?_) ?_
    · show Steps p.tables e below (T14.setTop (mkF m 52 #[.val (.int p0), .val (.int (1 : Int32)), .val (.ref a_NOT_EQUAL), .val (.int (0 : Int32)), .val (.int (0 : Int32)), .val (.ref y_0), .unset, .unset] [])) _
      refine XS.aload X14.here hx rfl (hb hby at_52) rfl rfl ?_
      show Steps p.tables e below (T14.setTop (mkF m 54 #[.val (.int p0), .val (.int (1 : Int32)), .val (.ref a_NOT_EQUAL), .val (.int (0 : Int32)), .val (.int (0 : Int32)), .val (.ref y_0), .unset, .unset] [(.ref y_0)])) _
      refine XS.iconst X14.here hx rfl (hb hby at_54) ?_
      exact kt
    obtain ⟨cq15, kq15, q15a, q15b, q15c⟩ := isOf hZ e14 E_s
    obtain ⟨_, _, ⟨T15, L15, k15, n15⟩, -, X15, ⟨Lc15, hQ15, l15, y15, z15⟩, st15⟩ := X14.virtualBack hx (y := (⟨"java/lang/String", "charAt", "(I)C"⟩ : MethodName)) (z := (⟨"java/lang/String", "charAt", "(I)C"⟩ : MethodName)) hown (mvT hZ (hw _ (List.mem_of_getElem? (i := 43) rfl))) (mvT hZ (hw _ (List.mem_of_getElem? (i := 44) rfl))) (notFace_of_selects (args := #[]) (mvT hZ (hw _ (List.mem_of_getElem? (i := 46) rfl)))) (mvT hZ (hw _ (List.mem_of_getElem? (i := 46) rfl))) (mvT hZ (hw _ (List.mem_of_getElem? (i := 45) rfl))) (by decide) (backOf (W := 0) (rm7 l Z a0 hw [] y_0 (0 : Int32) v_0 cl_0 z_0 (33 : Int32) vf wcs h0 n0 Z0 E_s F_v F_c Ar_0 hz_0 (by decide) hz_2 hin_0 hat_0 S_FM hv_vf S_CS hcs) hZ (hw _ (List.mem_of_getElem? (i := 47) rfl)) (hw _ (List.mem_of_getElem? (i := 39) rfl)) (by decide) (by decide)) q15a q15c (g := (mkF m 55 #[.val (.int p0), .val (.int (1 : Int32)), .val (.ref a_NOT_EQUAL), .val (.int (0 : Int32)), .val (.int (0 : Int32)), .val (.ref y_0), .unset, .unset] [(.int (0 : Int32)), (.ref y_0)])) rfl (by rw [hml]; rfl) (Steps.refl _) (argsL := [(.int (0 : Int32))]) (rest := []) (lenOf pd_0_4 rfl) rfl (by show 2 * 0 + _ ≤ _; exact Nat.le_of_eq rfl) (hb hby at_55) (fun _ _ => ⟨rfl, e14, (by decide : 0 + 0 ≤ _), (by decide : 0 + 0 ≤ _)⟩)
    dsimp only [Pt.U, Pt.locs, Pt.cells, Pt.slots] at X15 l15 y15 z15 st15 hQ15
    subst l15 y15 z15
    obtain ⟨hv15, N15q, e15⟩ := hQ15
    rw [show nar .char (own_lc (33 : Int32)) = (33 : Int32) from by decide] at hv15
    subst hv15
    have N15 := Fr.app N14 N15q
    refine own_via (A' := T15.setTop (mkF m 58 #[.val (.int p0), .val (.int (1 : Int32)), .val (.ref a_NOT_EQUAL), .val (.int (0 : Int32)), .val (.int (0 : Int32)), .val (.ref y_0), .unset, .unset] [(.int (33 : Int32))])) (fun _ kt => st15.trans kt) ?_
    refine own_via (A' := T15.setTop (mkF m 60 #[.val (.int p0), .val (.int (1 : Int32)), .val (.ref a_NOT_EQUAL), .val (.int (0 : Int32)), .val (.int (0 : Int32)), .val (.ref y_0), .unset, .unset] [(.int (60 : Int32)), (.int (33 : Int32))])) (fun target kt => ?_) ?_
    · show Steps p.tables e below (T15.setTop (mkF m 58 #[.val (.int p0), .val (.int (1 : Int32)), .val (.ref a_NOT_EQUAL), .val (.int (0 : Int32)), .val (.int (0 : Int32)), .val (.ref y_0), .unset, .unset] [(.int (33 : Int32))])) _
      refine XS.bipush X15.here hx rfl (hb hby at_58) ?_
      exact kt
    refine own_via (A' := T15.setTop (mkF m 63 #[.val (.int p0), .val (.int (1 : Int32)), .val (.ref a_NOT_EQUAL), .val (.int (0 : Int32)), .val (.int (0 : Int32)), .val (.ref y_0), .unset, .unset] [])) (fun target kt => XS.icmpNo X15.here hx rfl (hb hby at_60) rfl (feq ((by decide) : ¬ ((33 : Int32) = (60 : Int32)))).1 kt) ?_
    refine own_via (A' := T15.setTop (mkF m 66 #[.val (.int p0), .val (.int (1 : Int32)), .val (.ref a_NOT_EQUAL), .val (.int (0 : Int32)), .val (.int (0 : Int32)), .val (.ref y_0), .unset, .unset] [(.int (0 : Int32)), (.ref y_0)])) (fun target kt => ?_) ?_
    · show Steps p.tables e below (T15.setTop (mkF m 63 #[.val (.int p0), .val (.int (1 : Int32)), .val (.ref a_NOT_EQUAL), .val (.int (0 : Int32)), .val (.int (0 : Int32)), .val (.ref y_0), .unset, .unset] [])) _
      refine XS.aload X15.here hx rfl (hb hby at_63) rfl rfl ?_
      show Steps p.tables e below (T15.setTop (mkF m 65 #[.val (.int p0), .val (.int (1 : Int32)), .val (.ref a_NOT_EQUAL), .val (.int (0 : Int32)), .val (.int (0 : Int32)), .val (.ref y_0), .unset, .unset] [(.ref y_0)])) _
      refine XS.iconst X15.here hx rfl (hb hby at_65) ?_
      exact kt
    obtain ⟨cq16, kq16, q16a, q16b, q16c⟩ := isOf hZ e15 E_s
    obtain ⟨_, _, ⟨T16, L16, k16, n16⟩, -, X16, ⟨Lc16, hQ16, l16, y16, z16⟩, st16⟩ := X15.virtualBack hx (y := (⟨"java/lang/String", "charAt", "(I)C"⟩ : MethodName)) (z := (⟨"java/lang/String", "charAt", "(I)C"⟩ : MethodName)) hown (mvT hZ (hw _ (List.mem_of_getElem? (i := 43) rfl))) (mvT hZ (hw _ (List.mem_of_getElem? (i := 44) rfl))) (notFace_of_selects (args := #[]) (mvT hZ (hw _ (List.mem_of_getElem? (i := 46) rfl)))) (mvT hZ (hw _ (List.mem_of_getElem? (i := 46) rfl))) (mvT hZ (hw _ (List.mem_of_getElem? (i := 45) rfl))) (by decide) (backOf (W := 0) (rm7 l Z a0 hw [] y_0 (0 : Int32) v_0 cl_0 z_0 (33 : Int32) vf wcs h0 n0 Z0 E_s F_v F_c Ar_0 hz_0 (by decide) hz_2 hin_0 hat_0 S_FM hv_vf S_CS hcs) hZ (hw _ (List.mem_of_getElem? (i := 47) rfl)) (hw _ (List.mem_of_getElem? (i := 39) rfl)) (by decide) (by decide)) q16a q16c (g := (mkF m 66 #[.val (.int p0), .val (.int (1 : Int32)), .val (.ref a_NOT_EQUAL), .val (.int (0 : Int32)), .val (.int (0 : Int32)), .val (.ref y_0), .unset, .unset] [(.int (0 : Int32)), (.ref y_0)])) rfl (by rw [hml]; rfl) (Steps.refl _) (argsL := [(.int (0 : Int32))]) (rest := []) (lenOf pd_0_4 rfl) rfl (by show 2 * 0 + _ ≤ _; exact Nat.le_of_eq rfl) (hb hby at_66) (fun _ _ => ⟨rfl, e15, (by decide : 0 + 0 ≤ _), (by decide : 0 + 0 ≤ _)⟩)
    dsimp only [Pt.U, Pt.locs, Pt.cells, Pt.slots] at X16 l16 y16 z16 st16 hQ16
    subst l16 y16 z16
    obtain ⟨hv16, N16q, e16⟩ := hQ16
    rw [show nar .char (own_lc (33 : Int32)) = (33 : Int32) from by decide] at hv16
    subst hv16
    have N16 := Fr.app N15 N16q
    refine own_via (A' := T16.setTop (mkF m 69 #[.val (.int p0), .val (.int (1 : Int32)), .val (.ref a_NOT_EQUAL), .val (.int (0 : Int32)), .val (.int (0 : Int32)), .val (.ref y_0), .unset, .unset] [(.int (33 : Int32))])) (fun _ kt => st16.trans kt) ?_
    refine own_via (A' := T16.setTop (mkF m 71 #[.val (.int p0), .val (.int (1 : Int32)), .val (.ref a_NOT_EQUAL), .val (.int (0 : Int32)), .val (.int (0 : Int32)), .val (.ref y_0), .unset, .unset] [(.int (62 : Int32)), (.int (33 : Int32))])) (fun target kt => ?_) ?_
    · show Steps p.tables e below (T16.setTop (mkF m 69 #[.val (.int p0), .val (.int (1 : Int32)), .val (.ref a_NOT_EQUAL), .val (.int (0 : Int32)), .val (.int (0 : Int32)), .val (.ref y_0), .unset, .unset] [(.int (33 : Int32))])) _
      refine XS.bipush X16.here hx rfl (hb hby at_69) ?_
      exact kt
    refine own_via (A' := T16.setTop (mkF m 78 #[.val (.int p0), .val (.int (1 : Int32)), .val (.ref a_NOT_EQUAL), .val (.int (0 : Int32)), .val (.int (0 : Int32)), .val (.ref y_0), .unset, .unset] [])) (fun target kt => XS.icmpYes X16.here hx rfl (pc0 := 71) (pc' := 78) rfl (hb hby at_71) rfl (feq ((by decide) : ¬ ((33 : Int32) = (62 : Int32)))).2 (by decide) (by decide) kt) ?_
    refine own_via (A' := T16.setTop (mkF m 83 #[.val (.int p0), .val (.int (1 : Int32)), .val (.ref a_NOT_EQUAL), .val (.int (0 : Int32)), .val (.int (0 : Int32)), .val (.ref y_0), .val (.int (0 : Int32)), .unset] [(.int (2 : Int32)), (.int (1 : Int32))])) (fun target kt => ?_) ?_
    · show Steps p.tables e below (T16.setTop (mkF m 78 #[.val (.int p0), .val (.int (1 : Int32)), .val (.ref a_NOT_EQUAL), .val (.int (0 : Int32)), .val (.int (0 : Int32)), .val (.ref y_0), .unset, .unset] [])) _
      refine XS.iconst X16.here hx rfl (hb hby at_78) ?_
      show Steps p.tables e below (T16.setTop (mkF m 79 #[.val (.int p0), .val (.int (1 : Int32)), .val (.ref a_NOT_EQUAL), .val (.int (0 : Int32)), .val (.int (0 : Int32)), .val (.ref y_0), .unset, .unset] [(.int (0 : Int32))])) _
      refine XS.istore X16.here hx rfl (hb hby at_79) rfl (l' := #[.val (.int p0), .val (.int (1 : Int32)), .val (.ref a_NOT_EQUAL), .val (.int (0 : Int32)), .val (.int (0 : Int32)), .val (.ref y_0), .val (.int (0 : Int32)), .unset]) rfl ?_
      show Steps p.tables e below (T16.setTop (mkF m 81 #[.val (.int p0), .val (.int (1 : Int32)), .val (.ref a_NOT_EQUAL), .val (.int (0 : Int32)), .val (.int (0 : Int32)), .val (.ref y_0), .val (.int (0 : Int32)), .unset] [])) _
      refine XS.iloadN X16.here hx rfl (hb hby at_81) rfl ?_
      show Steps p.tables e below (T16.setTop (mkF m 82 #[.val (.int p0), .val (.int (1 : Int32)), .val (.ref a_NOT_EQUAL), .val (.int (0 : Int32)), .val (.int (0 : Int32)), .val (.ref y_0), .val (.int (0 : Int32)), .unset] [(.int (1 : Int32))])) _
      refine XS.iconst X16.here hx rfl (hb hby at_82) ?_
      exact kt
    refine own_via (A' := T16.setTop (mkF m 90 #[.val (.int p0), .val (.int (1 : Int32)), .val (.ref a_NOT_EQUAL), .val (.int (0 : Int32)), .val (.int (0 : Int32)), .val (.ref y_0), .val (.int (0 : Int32)), .unset] [])) (fun target kt => XS.icmpYes X16.here hx rfl (pc0 := 83) (pc' := 90) rfl (hb hby at_83) rfl (tlt ((by decide) : (1 : Int32) < (2 : Int32))).1 (by decide) (by decide) kt) ?_
    refine own_via (A' := T16.setTop (mkF m 96 #[.val (.int p0), .val (.int (1 : Int32)), .val (.ref a_NOT_EQUAL), .val (.int (0 : Int32)), .val (.int (0 : Int32)), .val (.ref y_0), .val (.int (0 : Int32)), .val (.int (0 : Int32))] [(.int (0 : Int32)), (.int (0 : Int32))])) (fun target kt => ?_) ?_
    · show Steps p.tables e below (T16.setTop (mkF m 90 #[.val (.int p0), .val (.int (1 : Int32)), .val (.ref a_NOT_EQUAL), .val (.int (0 : Int32)), .val (.int (0 : Int32)), .val (.ref y_0), .val (.int (0 : Int32)), .unset] [])) _
      refine XS.iconst X16.here hx rfl (hb hby at_90) ?_
      show Steps p.tables e below (T16.setTop (mkF m 91 #[.val (.int p0), .val (.int (1 : Int32)), .val (.ref a_NOT_EQUAL), .val (.int (0 : Int32)), .val (.int (0 : Int32)), .val (.ref y_0), .val (.int (0 : Int32)), .unset] [(.int (0 : Int32))])) _
      refine XS.istore X16.here hx rfl (hb hby at_91) rfl (l' := #[.val (.int p0), .val (.int (1 : Int32)), .val (.ref a_NOT_EQUAL), .val (.int (0 : Int32)), .val (.int (0 : Int32)), .val (.ref y_0), .val (.int (0 : Int32)), .val (.int (0 : Int32))]) rfl ?_
      show Steps p.tables e below (T16.setTop (mkF m 93 #[.val (.int p0), .val (.int (1 : Int32)), .val (.ref a_NOT_EQUAL), .val (.int (0 : Int32)), .val (.int (0 : Int32)), .val (.ref y_0), .val (.int (0 : Int32)), .val (.int (0 : Int32))] [])) _
      refine XS.iloadN X16.here hx rfl (hb hby at_93) rfl ?_
      show Steps p.tables e below (T16.setTop (mkF m 94 #[.val (.int p0), .val (.int (1 : Int32)), .val (.ref a_NOT_EQUAL), .val (.int (0 : Int32)), .val (.int (0 : Int32)), .val (.ref y_0), .val (.int (0 : Int32)), .val (.int (0 : Int32))] [(.int (0 : Int32))])) _
      refine XS.iload X16.here hx rfl (hb hby at_94) rfl ?_
      exact kt
    refine own_via (A' := T16.setTop (mkF m 99 #[.val (.int p0), .val (.int (1 : Int32)), .val (.ref a_NOT_EQUAL), .val (.int (0 : Int32)), .val (.int (0 : Int32)), .val (.ref y_0), .val (.int (0 : Int32)), .val (.int (0 : Int32))] [])) (fun target kt => XS.icmpNo X16.here hx rfl (hb hby at_96) rfl (teq ((by decide) : (0 : Int32) = (0 : Int32))).2 kt) ?_
    refine own_via (A' := T16.setTop (mkF m 102 #[.val (.int p0), .val (.int (1 : Int32)), .val (.ref a_NOT_EQUAL), .val (.int (0 : Int32)), .val (.int (0 : Int32)), .val (.ref y_0), .val (.int (0 : Int32)), .val (.int (0 : Int32))] [(.int (0 : Int32)), (.int (0 : Int32))])) (fun target kt => ?_) ?_
    · show Steps p.tables e below (T16.setTop (mkF m 99 #[.val (.int p0), .val (.int (1 : Int32)), .val (.ref a_NOT_EQUAL), .val (.int (0 : Int32)), .val (.int (0 : Int32)), .val (.ref y_0), .val (.int (0 : Int32)), .val (.int (0 : Int32))] [])) _
      refine XS.iloadN X16.here hx rfl (hb hby at_99) rfl ?_
      show Steps p.tables e below (T16.setTop (mkF m 100 #[.val (.int p0), .val (.int (1 : Int32)), .val (.ref a_NOT_EQUAL), .val (.int (0 : Int32)), .val (.int (0 : Int32)), .val (.ref y_0), .val (.int (0 : Int32)), .val (.int (0 : Int32))] [(.int (0 : Int32))])) _
      refine XS.iload X16.here hx rfl (hb hby at_100) rfl ?_
      exact kt
    refine own_via (A' := T16.setTop (mkF m 105 #[.val (.int p0), .val (.int (1 : Int32)), .val (.ref a_NOT_EQUAL), .val (.int (0 : Int32)), .val (.int (0 : Int32)), .val (.ref y_0), .val (.int (0 : Int32)), .val (.int (0 : Int32))] [])) (fun target kt => XS.icmpNo X16.here hx rfl (hb hby at_102) rfl (teq ((by decide) : (0 : Int32) = (0 : Int32))).2 kt) ?_
    refine own_via (A' := T16.setTop (mkF m 108 #[.val (.int p0), .val (.int (1 : Int32)), .val (.ref a_NOT_EQUAL), .val (.int (0 : Int32)), .val (.int (0 : Int32)), .val (.ref y_0), .val (.int (0 : Int32)), .val (.int (0 : Int32))] [(.int (0 : Int32)), (.int (0 : Int32))])) (fun target kt => ?_) ?_
    · show Steps p.tables e below (T16.setTop (mkF m 105 #[.val (.int p0), .val (.int (1 : Int32)), .val (.ref a_NOT_EQUAL), .val (.int (0 : Int32)), .val (.int (0 : Int32)), .val (.ref y_0), .val (.int (0 : Int32)), .val (.int (0 : Int32))] [])) _
      refine XS.iloadN X16.here hx rfl (hb hby at_105) rfl ?_
      show Steps p.tables e below (T16.setTop (mkF m 106 #[.val (.int p0), .val (.int (1 : Int32)), .val (.ref a_NOT_EQUAL), .val (.int (0 : Int32)), .val (.int (0 : Int32)), .val (.ref y_0), .val (.int (0 : Int32)), .val (.int (0 : Int32))] [(.int (0 : Int32))])) _
      refine XS.iload X16.here hx rfl (hb hby at_106) rfl ?_
      exact kt
    refine own_via (A' := T16.setTop (mkF m 111 #[.val (.int p0), .val (.int (1 : Int32)), .val (.ref a_NOT_EQUAL), .val (.int (0 : Int32)), .val (.int (0 : Int32)), .val (.ref y_0), .val (.int (0 : Int32)), .val (.int (0 : Int32))] [])) (fun target kt => XS.icmpNo X16.here hx rfl (hb hby at_108) rfl (teq ((by decide) : (0 : Int32) = (0 : Int32))).2 kt) ?_
    refine own_via (A' := T16.setTop (mkF m 116 #[.val (.int p0), .val (.int (1 : Int32)), .val (.ref a_NOT_EQUAL), .val (.int (0 : Int32)), .val (.int (0 : Int32)), .val (.ref y_0), .val (.int (0 : Int32)), .val (.int (0 : Int32))] [(.int (1 : Int32))])) (fun target kt => ?_) ?_
    · show Steps p.tables e below (T16.setTop (mkF m 111 #[.val (.int p0), .val (.int (1 : Int32)), .val (.ref a_NOT_EQUAL), .val (.int (0 : Int32)), .val (.int (0 : Int32)), .val (.ref y_0), .val (.int (0 : Int32)), .val (.int (0 : Int32))] [])) _
      refine XS.iconst X16.here hx rfl (hb hby at_111) ?_
      show Steps p.tables e below (T16.setTop (mkF m 112 #[.val (.int p0), .val (.int (1 : Int32)), .val (.ref a_NOT_EQUAL), .val (.int (0 : Int32)), .val (.int (0 : Int32)), .val (.ref y_0), .val (.int (0 : Int32)), .val (.int (0 : Int32))] [(.int (1 : Int32))])) _
      refine XS.goto X16.here hx rfl (pc0 := 112) (pc' := 116) rfl (hb hby at_112) (by decide) (by decide) ?_
      exact kt
    exact own_retN X16 Bd.notSynchronized hx (t := .boolean) Bd.returns (by simp) (hb hby at_116) (show Q0 Z p0 a_EQUAL a_NOT_EQUAL a_LESS_OR_EQUAL a_LESS a_GREATER_OR_EQUAL a_GREATER vf wcs h0 n0 _ _ _ from ⟨rfl, N16⟩) (by decide) (by decide)
  · have K_0 := K_LESS_OR_EQUAL
    obtain ⟨E_0, F_o, y_0, v_0, cl_0, z_0, F_s, E_s, F_v, F_c, Ar_0, hz_0, hz_1, hz_2, hin_0, hat_0⟩ := K_0
    refine own_via (A' := s₁.setTop (mkF m 9 #[.val (.int p0), .val (.int (2 : Int32)), .unset, .unset, .unset, .unset, .unset, .unset] [(.int (2 : Int32))])) (fun target kt => ?_) ?_
    · show Steps p.tables e below (s₁.setTop (mkF m 8 #[.val (.int p0), .val (.int (2 : Int32)), .unset, .unset, .unset, .unset, .unset, .unset] [])) _
      refine XS.iloadN X0.here hx rfl (hb hby at_8) rfl ?_
      exact kt
    obtain ⟨_, _, ⟨T17, L17, k17, n17⟩, -, X17, ⟨Lc17, hQ17, l17, y17, z17⟩, st17⟩ := Jvm.LawKit.callS X0 hx (y := (⟨"com/example/resultree/resultree/xpath/ComparisonIsOrderingPinLaw", "pick", "(I)Lcom/example/resultree/resultree/xpath/Comparison;"⟩ : MethodName)) hown (mvT hZ (hw _ (List.mem_of_getElem? (i := 1) rfl))) (mvT hZ (hw _ (List.mem_of_getElem? (i := 2) rfl))) (mvT hZ (hw _ (List.mem_of_getElem? (i := 3) rfl))) (mvT hZ (hw _ (List.mem_of_getElem? (i := 4) rfl))) (by decide) (backOf (W := 0) (rm1 l Z a0 hw [] (2 : Int32) a_EQUAL a_NOT_EQUAL a_LESS_OR_EQUAL a_LESS a_GREATER_OR_EQUAL a_GREATER h0 n0 Z0 S_EQUAL S_NOT_EQUAL S_LESS_OR_EQUAL S_LESS S_GREATER_OR_EQUAL S_GREATER) hZ (hw _ (List.mem_of_getElem? (i := 4) rfl)) (hw _ (List.mem_of_getElem? (i := 3) rfl)) (by decide) (by decide)) (g := (mkF m 9 #[.val (.int p0), .val (.int (2 : Int32)), .unset, .unset, .unset, .unset, .unset, .unset] [(.int (2 : Int32))])) rfl (by rw [hml]; rfl) (argsL := [(.int (2 : Int32))]) (rest := []) (lenOf pd_0_0 rfl) rfl (by show 2 * 0 + _ ≤ _; exact Nat.le_of_eq rfl) (hb hby at_9) (fun _ _ => ⟨rfl, e0, (by decide : 0 + 0 ≤ _), (by decide : 0 + 0 ≤ _)⟩)
    dsimp only [Pt.U, Pt.locs, Pt.cells, Pt.slots] at X17 l17 y17 z17 st17 hQ17
    subst l17 y17 z17
    obtain ⟨hv17, N17q, e17⟩ := hQ17
    rw [show own_pick (2 : Int32) a_EQUAL a_NOT_EQUAL a_LESS_OR_EQUAL a_LESS a_GREATER_OR_EQUAL a_GREATER = a_LESS_OR_EQUAL from by simp [own_pick]] at hv17
    subst hv17
    have N17 := Fr.app N0 N17q
    refine own_via (A' := T17.setTop (mkF m 12 #[.val (.int p0), .val (.int (2 : Int32)), .unset, .unset, .unset, .unset, .unset, .unset] [(.ref a_LESS_OR_EQUAL)])) st17 ?_
    refine own_via (A' := T17.setTop (mkF m 14 #[.val (.int p0), .val (.int (2 : Int32)), .val (.ref a_LESS_OR_EQUAL), .unset, .unset, .unset, .unset, .unset] [(.ref a_LESS_OR_EQUAL)])) (fun target kt => ?_) ?_
    · show Steps p.tables e below (T17.setTop (mkF m 12 #[.val (.int p0), .val (.int (2 : Int32)), .unset, .unset, .unset, .unset, .unset, .unset] [(.ref a_LESS_OR_EQUAL)])) _
      refine XS.astoreN X17.here hx rfl (hb hby at_12) rfl rfl (l' := #[.val (.int p0), .val (.int (2 : Int32)), .val (.ref a_LESS_OR_EQUAL), .unset, .unset, .unset, .unset, .unset]) rfl ?_
      show Steps p.tables e below (T17.setTop (mkF m 13 #[.val (.int p0), .val (.int (2 : Int32)), .val (.ref a_LESS_OR_EQUAL), .unset, .unset, .unset, .unset, .unset] [])) _
      refine XS.aloadN X17.here hx rfl (hb hby at_13) rfl rfl ?_
      exact kt
    obtain ⟨cq18, kq18, q18a, q18b, q18c⟩ := isOf hZ e17 E_0
    obtain ⟨_, _, ⟨T18, L18, k18, n18⟩, -, X18, ⟨Lc18, hQ18, l18, y18, z18⟩, st18⟩ := X17.virtualBack hx (y := (⟨"com/example/resultree/resultree/xpath/Comparison", "isOrdering", "()Z"⟩ : MethodName)) (z := (⟨"com/example/resultree/resultree/xpath/Comparison", "isOrdering", "()Z"⟩ : MethodName)) hown (mvT hZ (hw _ (List.mem_of_getElem? (i := 8) rfl))) (mvT hZ (hw _ (List.mem_of_getElem? (i := 9) rfl))) (notFace_of_selects (args := #[]) (mvT hZ (hw _ (List.mem_of_getElem? (i := 11) rfl)))) (mvT hZ (hw _ (List.mem_of_getElem? (i := 11) rfl))) (mvT hZ (hw _ (List.mem_of_getElem? (i := 10) rfl))) (by decide) (backOf (W := 0) (rm2 l Z a0 hw [] a_LESS_OR_EQUAL a_EQUAL a_NOT_EQUAL h0 n0 Z0 S_EQUAL S_NOT_EQUAL) hZ (hw _ (List.mem_of_getElem? (i := 12) rfl)) (hw _ (List.mem_of_getElem? (i := 6) rfl)) (by decide) (by decide)) q18a q18c (g := (mkF m 14 #[.val (.int p0), .val (.int (2 : Int32)), .val (.ref a_LESS_OR_EQUAL), .unset, .unset, .unset, .unset, .unset] [(.ref a_LESS_OR_EQUAL)])) rfl (by rw [hml]; rfl) (Steps.refl _) (argsL := []) (rest := []) (lenOf pd_0_1 rfl) rfl (by show 2 * 0 + _ ≤ _; exact Nat.le_of_eq rfl) (hb hby at_14) (fun _ _ => ⟨rfl, e17, (by decide : 0 + 0 ≤ _), (by decide : 0 + 0 ≤ _)⟩)
    dsimp only [Pt.U, Pt.locs, Pt.cells, Pt.slots] at X18 l18 y18 z18 st18 hQ18
    subst l18 y18 z18
    obtain ⟨hv18, N18q, e18⟩ := hQ18
    rw [show own_isord a_LESS_OR_EQUAL a_EQUAL a_NOT_EQUAL = (1 : Int32) from by simp [own_isord, own_ne K_LESS_OR_EQUAL K_EQUAL (by decide), own_ne K_LESS_OR_EQUAL K_NOT_EQUAL (by decide)]] at hv18
    subst hv18
    have N18 := Fr.app N17 N18q
    refine own_via (A' := T18.setTop (mkF m 17 #[.val (.int p0), .val (.int (2 : Int32)), .val (.ref a_LESS_OR_EQUAL), .unset, .unset, .unset, .unset, .unset] [(.int (1 : Int32))])) (fun _ kt => st18.trans kt) ?_
    refine own_via (A' := T18.setTop (mkF m 20 #[.val (.int p0), .val (.int (2 : Int32)), .val (.ref a_LESS_OR_EQUAL), .val (.int (1 : Int32)), .unset, .unset, .unset, .unset] [(.int (1 : Int32)), (.ref a_LESS_OR_EQUAL)])) (fun target kt => ?_) ?_
    · show Steps p.tables e below (T18.setTop (mkF m 17 #[.val (.int p0), .val (.int (2 : Int32)), .val (.ref a_LESS_OR_EQUAL), .unset, .unset, .unset, .unset, .unset] [(.int (1 : Int32))])) _
      refine XS.istoreN X18.here hx rfl (hb hby at_17) rfl (l' := #[.val (.int p0), .val (.int (2 : Int32)), .val (.ref a_LESS_OR_EQUAL), .val (.int (1 : Int32)), .unset, .unset, .unset, .unset]) rfl ?_
      show Steps p.tables e below (T18.setTop (mkF m 18 #[.val (.int p0), .val (.int (2 : Int32)), .val (.ref a_LESS_OR_EQUAL), .val (.int (1 : Int32)), .unset, .unset, .unset, .unset] [])) _
      refine XS.aloadN X18.here hx rfl (hb hby at_18) rfl rfl ?_
      show Steps p.tables e below (T18.setTop (mkF m 19 #[.val (.int p0), .val (.int (2 : Int32)), .val (.ref a_LESS_OR_EQUAL), .val (.int (1 : Int32)), .unset, .unset, .unset, .unset] [(.ref a_LESS_OR_EQUAL)])) _
      refine XS.iconst X18.here hx rfl (hb hby at_19) ?_
      exact kt
    obtain ⟨cq19, kq19, q19a, q19b, q19c⟩ := isOf hZ e18 E_0
    obtain ⟨_, _, ⟨T19, L19, k19, n19⟩, -, X19, ⟨Lc19, hQ19, l19, y19, z19⟩, st19⟩ := X18.virtualBack hx (y := (⟨"com/example/resultree/resultree/xpath/Comparison", "holds", "(I)Z"⟩ : MethodName)) (z := (⟨"com/example/resultree/resultree/xpath/Comparison", "holds", "(I)Z"⟩ : MethodName)) hown (mvT hZ (hw _ (List.mem_of_getElem? (i := 14) rfl))) (mvT hZ (hw _ (List.mem_of_getElem? (i := 15) rfl))) (notFace_of_selects (args := #[]) (mvT hZ (hw _ (List.mem_of_getElem? (i := 17) rfl)))) (mvT hZ (hw _ (List.mem_of_getElem? (i := 17) rfl))) (mvT hZ (hw _ (List.mem_of_getElem? (i := 16) rfl))) (by decide) (backOf (W := 0) (rm3 l Z a0 hw [] a_LESS_OR_EQUAL (1 : Int32) (2 : Int32) h0 n0 Z0 (Or.inr (Or.inr (Or.inl rfl))) E_0 F_o) hZ (hw _ (List.mem_of_getElem? (i := 18) rfl)) (hw _ (List.mem_of_getElem? (i := 6) rfl)) (by decide) (by decide)) q19a q19c (g := (mkF m 20 #[.val (.int p0), .val (.int (2 : Int32)), .val (.ref a_LESS_OR_EQUAL), .val (.int (1 : Int32)), .unset, .unset, .unset, .unset] [(.int (1 : Int32)), (.ref a_LESS_OR_EQUAL)])) rfl (by rw [hml]; rfl) (Steps.refl _) (argsL := [(.int (1 : Int32))]) (rest := []) (lenOf pd_0_2 rfl) rfl (by show 2 * 0 + _ ≤ _; exact Nat.le_of_eq rfl) (hb hby at_20) (fun _ _ => ⟨rfl, e18, (by decide : 0 + 0 ≤ _), (by decide : 0 + 0 ≤ _)⟩)
    dsimp only [Pt.U, Pt.locs, Pt.cells, Pt.slots] at X19 l19 y19 z19 st19 hQ19
    subst l19 y19 z19
    obtain ⟨hv19, N19q, e19⟩ := hQ19
    rw [show own_hold (2 : Int32) (1 : Int32) = (0 : Int32) from by decide] at hv19
    subst hv19
    have N19 := Fr.app N18 N19q
    refine own_via (A' := T19.setTop (mkF m 23 #[.val (.int p0), .val (.int (2 : Int32)), .val (.ref a_LESS_OR_EQUAL), .val (.int (1 : Int32)), .unset, .unset, .unset, .unset] [(.int (0 : Int32))])) (fun _ kt => st19.trans kt) ?_
    refine own_via (A' := T19.setTop (mkF m 25 #[.val (.int p0), .val (.int (2 : Int32)), .val (.ref a_LESS_OR_EQUAL), .val (.int (1 : Int32)), .unset, .unset, .unset, .unset] [(.int (-1 : Int32)), (.ref a_LESS_OR_EQUAL), (.int (0 : Int32))])) (fun target kt => ?_) ?_
    · show Steps p.tables e below (T19.setTop (mkF m 23 #[.val (.int p0), .val (.int (2 : Int32)), .val (.ref a_LESS_OR_EQUAL), .val (.int (1 : Int32)), .unset, .unset, .unset, .unset] [(.int (0 : Int32))])) _
      refine XS.aloadN X19.here hx rfl (hb hby at_23) rfl rfl ?_
      show Steps p.tables e below (T19.setTop (mkF m 24 #[.val (.int p0), .val (.int (2 : Int32)), .val (.ref a_LESS_OR_EQUAL), .val (.int (1 : Int32)), .unset, .unset, .unset, .unset] [(.ref a_LESS_OR_EQUAL), (.int (0 : Int32))])) _
      refine XS.iconst X19.here hx rfl (hb hby at_24) ?_
      exact kt
    obtain ⟨cq20, kq20, q20a, q20b, q20c⟩ := isOf hZ e19 E_0
    obtain ⟨_, _, ⟨T20, L20, k20, n20⟩, -, X20, ⟨Lc20, hQ20, l20, y20, z20⟩, st20⟩ := X19.virtualBack hx (y := (⟨"com/example/resultree/resultree/xpath/Comparison", "holds", "(I)Z"⟩ : MethodName)) (z := (⟨"com/example/resultree/resultree/xpath/Comparison", "holds", "(I)Z"⟩ : MethodName)) hown (mvT hZ (hw _ (List.mem_of_getElem? (i := 14) rfl))) (mvT hZ (hw _ (List.mem_of_getElem? (i := 15) rfl))) (notFace_of_selects (args := #[]) (mvT hZ (hw _ (List.mem_of_getElem? (i := 17) rfl)))) (mvT hZ (hw _ (List.mem_of_getElem? (i := 17) rfl))) (mvT hZ (hw _ (List.mem_of_getElem? (i := 16) rfl))) (by decide) (backOf (W := 1) (rm3 l Z a0 hw [] a_LESS_OR_EQUAL (-1 : Int32) (2 : Int32) h0 n0 Z0 (Or.inr (Or.inr (Or.inl rfl))) E_0 F_o) hZ (hw _ (List.mem_of_getElem? (i := 18) rfl)) (hw _ (List.mem_of_getElem? (i := 6) rfl)) (by decide) (by decide)) q20a q20c (g := (mkF m 25 #[.val (.int p0), .val (.int (2 : Int32)), .val (.ref a_LESS_OR_EQUAL), .val (.int (1 : Int32)), .unset, .unset, .unset, .unset] [(.int (-1 : Int32)), (.ref a_LESS_OR_EQUAL), (.int (0 : Int32))])) rfl (by rw [hml]; rfl) (Steps.refl _) (argsL := [(.int (-1 : Int32))]) (rest := [(.int (0 : Int32))]) (lenOf pd_0_2 rfl) rfl (by show 2 * 0 + _ ≤ _; exact Nat.le_of_eq rfl) (hb hby at_25) (fun _ _ => ⟨rfl, e19, (by decide : 0 + 0 ≤ _), (by decide : 0 + 0 ≤ _)⟩)
    dsimp only [Pt.U, Pt.locs, Pt.cells, Pt.slots] at X20 l20 y20 z20 st20 hQ20
    subst l20 y20 z20
    obtain ⟨hv20, N20q, e20⟩ := hQ20
    rw [show own_hold (2 : Int32) (-1 : Int32) = (1 : Int32) from by decide] at hv20
    subst hv20
    have N20 := Fr.app N19 N20q
    refine own_via (A' := T20.setTop (mkF m 28 #[.val (.int p0), .val (.int (2 : Int32)), .val (.ref a_LESS_OR_EQUAL), .val (.int (1 : Int32)), .unset, .unset, .unset, .unset] [(.int (1 : Int32)), (.int (0 : Int32))])) (fun _ kt => st20.trans kt) ?_
    refine own_via (A' := T20.setTop (mkF m 31 #[.val (.int p0), .val (.int (2 : Int32)), .val (.ref a_LESS_OR_EQUAL), .val (.int (1 : Int32)), .unset, .unset, .unset, .unset] [])) (fun target kt => XS.icmpNo X20.here hx rfl (hb hby at_28) rfl (feq ((by decide) : ¬ ((0 : Int32) = (1 : Int32)))).1 kt) ?_
    refine own_via (A' := T20.setTop (mkF m 39 #[.val (.int p0), .val (.int (2 : Int32)), .val (.ref a_LESS_OR_EQUAL), .val (.int (1 : Int32)), .val (.int (1 : Int32)), .unset, .unset, .unset] [(.ref a_LESS_OR_EQUAL)])) (fun target kt => ?_) ?_
    · show Steps p.tables e below (T20.setTop (mkF m 31 #[.val (.int p0), .val (.int (2 : Int32)), .val (.ref a_LESS_OR_EQUAL), .val (.int (1 : Int32)), .unset, .unset, .unset, .unset] [])) _
      refine XS.iconst X20.here hx rfl (hb hby at_31) ?_
      show Steps p.tables e below (T20.setTop (mkF m 32 #[.val (.int p0), .val (.int (2 : Int32)), .val (.ref a_LESS_OR_EQUAL), .val (.int (1 : Int32)), .unset, .unset, .unset, .unset] [(.int (1 : Int32))])) _
      refine XS.goto X20.here hx rfl (pc0 := 32) (pc' := 36) rfl (hb hby at_32) (by decide) (by decide) ?_
      show Steps p.tables e below (T20.setTop (mkF m 36 #[.val (.int p0), .val (.int (2 : Int32)), .val (.ref a_LESS_OR_EQUAL), .val (.int (1 : Int32)), .unset, .unset, .unset, .unset] [(.int (1 : Int32))])) _
      refine XS.istore X20.here hx rfl (hb hby at_36) rfl (l' := #[.val (.int p0), .val (.int (2 : Int32)), .val (.ref a_LESS_OR_EQUAL), .val (.int (1 : Int32)), .val (.int (1 : Int32)), .unset, .unset, .unset]) rfl ?_
      show Steps p.tables e below (T20.setTop (mkF m 38 #[.val (.int p0), .val (.int (2 : Int32)), .val (.ref a_LESS_OR_EQUAL), .val (.int (1 : Int32)), .val (.int (1 : Int32)), .unset, .unset, .unset] [])) _
      refine XS.aloadN X20.here hx rfl (hb hby at_38) rfl rfl ?_
      exact kt
    obtain ⟨cq21, kq21, q21a, q21b, q21c⟩ := isOf hZ e20 E_0
    obtain ⟨_, _, ⟨T21, L21, k21, n21⟩, -, X21, ⟨Lc21, hQ21, l21, y21, z21⟩, st21⟩ := X20.virtualBack hx (y := (⟨"com/example/resultree/resultree/xpath/Comparison", "symbol", "()Ljava/lang/String;"⟩ : MethodName)) (z := (⟨"com/example/resultree/resultree/xpath/Comparison", "symbol", "()Ljava/lang/String;"⟩ : MethodName)) hown (mvT hZ (hw _ (List.mem_of_getElem? (i := 28) rfl))) (mvT hZ (hw _ (List.mem_of_getElem? (i := 29) rfl))) (notFace_of_selects (args := #[]) (mvT hZ (hw _ (List.mem_of_getElem? (i := 31) rfl)))) (mvT hZ (hw _ (List.mem_of_getElem? (i := 31) rfl))) (mvT hZ (hw _ (List.mem_of_getElem? (i := 30) rfl))) (by decide) (backOf (W := 0) (rm5 l Z a0 hw [] a_LESS_OR_EQUAL y_0 h0 n0 Z0 F_s) hZ (hw _ (List.mem_of_getElem? (i := 32) rfl)) (hw _ (List.mem_of_getElem? (i := 6) rfl)) (by decide) (by decide)) q21a q21c (g := (mkF m 39 #[.val (.int p0), .val (.int (2 : Int32)), .val (.ref a_LESS_OR_EQUAL), .val (.int (1 : Int32)), .val (.int (1 : Int32)), .unset, .unset, .unset] [(.ref a_LESS_OR_EQUAL)])) rfl (by rw [hml]; rfl) (Steps.refl _) (argsL := []) (rest := []) (lenOf pd_0_3 rfl) rfl (by show 2 * 0 + _ ≤ _; exact Nat.le_of_eq rfl) (hb hby at_39) (fun _ _ => ⟨rfl, e20, (by decide : 0 + 0 ≤ _), (by decide : 0 + 0 ≤ _)⟩)
    dsimp only [Pt.U, Pt.locs, Pt.cells, Pt.slots] at X21 l21 y21 z21 st21 hQ21
    subst l21 y21 z21
    obtain ⟨rfl, N21q, e21⟩ := hQ21
    have N21 := Fr.app N20 N21q
    refine own_via (A' := T21.setTop (mkF m 42 #[.val (.int p0), .val (.int (2 : Int32)), .val (.ref a_LESS_OR_EQUAL), .val (.int (1 : Int32)), .val (.int (1 : Int32)), .unset, .unset, .unset] [(.ref y_0)])) (fun _ kt => st21.trans kt) ?_
    refine own_via (A' := T21.setTop (mkF m 46 #[.val (.int p0), .val (.int (2 : Int32)), .val (.ref a_LESS_OR_EQUAL), .val (.int (1 : Int32)), .val (.int (1 : Int32)), .val (.ref y_0), .unset, .unset] [(.ref y_0)])) (fun target kt => ?_) ?_
    · show Steps p.tables e below (T21.setTop (mkF m 42 #[.val (.int p0), .val (.int (2 : Int32)), .val (.ref a_LESS_OR_EQUAL), .val (.int (1 : Int32)), .val (.int (1 : Int32)), .unset, .unset, .unset] [(.ref y_0)])) _
      refine XS.astore X21.here hx rfl (hb hby at_42) rfl rfl (l' := #[.val (.int p0), .val (.int (2 : Int32)), .val (.ref a_LESS_OR_EQUAL), .val (.int (1 : Int32)), .val (.int (1 : Int32)), .val (.ref y_0), .unset, .unset]) rfl ?_
      show Steps p.tables e below (T21.setTop (mkF m 44 #[.val (.int p0), .val (.int (2 : Int32)), .val (.ref a_LESS_OR_EQUAL), .val (.int (1 : Int32)), .val (.int (1 : Int32)), .val (.ref y_0), .unset, .unset] [])) _
      refine XS.aload X21.here hx rfl (hb hby at_44) rfl rfl ?_
      exact kt
    obtain ⟨cq22, kq22, q22a, q22b, q22c⟩ := isOf hZ e21 E_s
    obtain ⟨_, _, ⟨T22, L22, k22, n22⟩, -, X22, ⟨Lc22, hQ22, l22, y22, z22⟩, st22⟩ := X21.virtualBack hx (y := (⟨"java/lang/String", "isEmpty", "()Z"⟩ : MethodName)) (z := (⟨"java/lang/String", "isEmpty", "()Z"⟩ : MethodName)) hown (mvT hZ (hw _ (List.mem_of_getElem? (i := 35) rfl))) (mvT hZ (hw _ (List.mem_of_getElem? (i := 36) rfl))) (notFace_of_selects (args := #[]) (mvT hZ (hw _ (List.mem_of_getElem? (i := 38) rfl)))) (mvT hZ (hw _ (List.mem_of_getElem? (i := 38) rfl))) (mvT hZ (hw _ (List.mem_of_getElem? (i := 37) rfl))) (by decide) (backOf (W := 0) (rm6 l Z a0 hw [] y_0 v_0 cl_0 z_0 h0 n0 Z0 F_v Ar_0 hz_0 hz_1) hZ (hw _ (List.mem_of_getElem? (i := 40) rfl)) (hw _ (List.mem_of_getElem? (i := 39) rfl)) (by decide) (by decide)) q22a q22c (g := (mkF m 46 #[.val (.int p0), .val (.int (2 : Int32)), .val (.ref a_LESS_OR_EQUAL), .val (.int (1 : Int32)), .val (.int (1 : Int32)), .val (.ref y_0), .unset, .unset] [(.ref y_0)])) rfl (by rw [hml]; rfl) (Steps.refl _) (argsL := []) (rest := []) (lenOf pd_0_1 rfl) rfl (by show 2 * 0 + _ ≤ _; exact Nat.le_of_eq rfl) (hb hby at_46) (fun _ _ => ⟨rfl, e21, (by decide : 0 + 0 ≤ _), (by decide : 0 + 0 ≤ _)⟩)
    dsimp only [Pt.U, Pt.locs, Pt.cells, Pt.slots] at X22 l22 y22 z22 st22 hQ22
    subst l22 y22 z22
    obtain ⟨rfl, N22q, e22⟩ := hQ22
    have N22 := Fr.app N21 N22q
    refine own_via (A' := T22.setTop (mkF m 49 #[.val (.int p0), .val (.int (2 : Int32)), .val (.ref a_LESS_OR_EQUAL), .val (.int (1 : Int32)), .val (.int (1 : Int32)), .val (.ref y_0), .unset, .unset] [(.int (0 : Int32))])) (fun _ kt => st22.trans kt) ?_
    refine own_via (A' := T22.setTop (mkF m 52 #[.val (.int p0), .val (.int (2 : Int32)), .val (.ref a_LESS_OR_EQUAL), .val (.int (1 : Int32)), .val (.int (1 : Int32)), .val (.ref y_0), .unset, .unset] [])) (fun target kt => XS.ifNo X22.here hx rfl (hb hby at_49) rfl ((if0 _ _).trans (teq ((by decide) : (0 : Int32) = (0 : Int32))).2) kt) ?_
    refine own_via (A' := T22.setTop (mkF m 55 #[.val (.int p0), .val (.int (2 : Int32)), .val (.ref a_LESS_OR_EQUAL), .val (.int (1 : Int32)), .val (.int (1 : Int32)), .val (.ref y_0), .unset, .unset] [(.int (0 : Int32)), (.ref y_0)])) (fun target kt => ?_) ?_
    · show Steps p.tables e below (T22.setTop (mkF m 52 #[.val (.int p0), .val (.int (2 : Int32)), .val (.ref a_LESS_OR_EQUAL), .val (.int (1 : Int32)), .val (.int (1 : Int32)), .val (.ref y_0), .unset, .unset] [])) _
      refine XS.aload X22.here hx rfl (hb hby at_52) rfl rfl ?_
      show Steps p.tables e below (T22.setTop (mkF m 54 #[.val (.int p0), .val (.int (2 : Int32)), .val (.ref a_LESS_OR_EQUAL), .val (.int (1 : Int32)), .val (.int (1 : Int32)), .val (.ref y_0), .unset, .unset] [(.ref y_0)])) _
      refine XS.iconst X22.here hx rfl (hb hby at_54) ?_
      exact kt
    obtain ⟨cq23, kq23, q23a, q23b, q23c⟩ := isOf hZ e22 E_s
    obtain ⟨_, _, ⟨T23, L23, k23, n23⟩, -, X23, ⟨Lc23, hQ23, l23, y23, z23⟩, st23⟩ := X22.virtualBack hx (y := (⟨"java/lang/String", "charAt", "(I)C"⟩ : MethodName)) (z := (⟨"java/lang/String", "charAt", "(I)C"⟩ : MethodName)) hown (mvT hZ (hw _ (List.mem_of_getElem? (i := 43) rfl))) (mvT hZ (hw _ (List.mem_of_getElem? (i := 44) rfl))) (notFace_of_selects (args := #[]) (mvT hZ (hw _ (List.mem_of_getElem? (i := 46) rfl)))) (mvT hZ (hw _ (List.mem_of_getElem? (i := 46) rfl))) (mvT hZ (hw _ (List.mem_of_getElem? (i := 45) rfl))) (by decide) (backOf (W := 0) (rm7 l Z a0 hw [] y_0 (0 : Int32) v_0 cl_0 z_0 (60 : Int32) vf wcs h0 n0 Z0 E_s F_v F_c Ar_0 hz_0 (by decide) hz_2 hin_0 hat_0 S_FM hv_vf S_CS hcs) hZ (hw _ (List.mem_of_getElem? (i := 47) rfl)) (hw _ (List.mem_of_getElem? (i := 39) rfl)) (by decide) (by decide)) q23a q23c (g := (mkF m 55 #[.val (.int p0), .val (.int (2 : Int32)), .val (.ref a_LESS_OR_EQUAL), .val (.int (1 : Int32)), .val (.int (1 : Int32)), .val (.ref y_0), .unset, .unset] [(.int (0 : Int32)), (.ref y_0)])) rfl (by rw [hml]; rfl) (Steps.refl _) (argsL := [(.int (0 : Int32))]) (rest := []) (lenOf pd_0_4 rfl) rfl (by show 2 * 0 + _ ≤ _; exact Nat.le_of_eq rfl) (hb hby at_55) (fun _ _ => ⟨rfl, e22, (by decide : 0 + 0 ≤ _), (by decide : 0 + 0 ≤ _)⟩)
    dsimp only [Pt.U, Pt.locs, Pt.cells, Pt.slots] at X23 l23 y23 z23 st23 hQ23
    subst l23 y23 z23
    obtain ⟨hv23, N23q, e23⟩ := hQ23
    rw [show nar .char (own_lc (60 : Int32)) = (60 : Int32) from by decide] at hv23
    subst hv23
    have N23 := Fr.app N22 N23q
    refine own_via (A' := T23.setTop (mkF m 58 #[.val (.int p0), .val (.int (2 : Int32)), .val (.ref a_LESS_OR_EQUAL), .val (.int (1 : Int32)), .val (.int (1 : Int32)), .val (.ref y_0), .unset, .unset] [(.int (60 : Int32))])) (fun _ kt => st23.trans kt) ?_
    refine own_via (A' := T23.setTop (mkF m 60 #[.val (.int p0), .val (.int (2 : Int32)), .val (.ref a_LESS_OR_EQUAL), .val (.int (1 : Int32)), .val (.int (1 : Int32)), .val (.ref y_0), .unset, .unset] [(.int (60 : Int32)), (.int (60 : Int32))])) (fun target kt => ?_) ?_
    · show Steps p.tables e below (T23.setTop (mkF m 58 #[.val (.int p0), .val (.int (2 : Int32)), .val (.ref a_LESS_OR_EQUAL), .val (.int (1 : Int32)), .val (.int (1 : Int32)), .val (.ref y_0), .unset, .unset] [(.int (60 : Int32))])) _
      refine XS.bipush X23.here hx rfl (hb hby at_58) ?_
      exact kt
    refine own_via (A' := T23.setTop (mkF m 74 #[.val (.int p0), .val (.int (2 : Int32)), .val (.ref a_LESS_OR_EQUAL), .val (.int (1 : Int32)), .val (.int (1 : Int32)), .val (.ref y_0), .unset, .unset] [])) (fun target kt => XS.icmpYes X23.here hx rfl (pc0 := 60) (pc' := 74) rfl (hb hby at_60) rfl (teq ((by decide) : (60 : Int32) = (60 : Int32))).1 (by decide) (by decide) kt) ?_
    refine own_via (A' := T23.setTop (mkF m 83 #[.val (.int p0), .val (.int (2 : Int32)), .val (.ref a_LESS_OR_EQUAL), .val (.int (1 : Int32)), .val (.int (1 : Int32)), .val (.ref y_0), .val (.int (1 : Int32)), .unset] [(.int (2 : Int32)), (.int (2 : Int32))])) (fun target kt => ?_) ?_
    · show Steps p.tables e below (T23.setTop (mkF m 74 #[.val (.int p0), .val (.int (2 : Int32)), .val (.ref a_LESS_OR_EQUAL), .val (.int (1 : Int32)), .val (.int (1 : Int32)), .val (.ref y_0), .unset, .unset] [])) _
      refine XS.iconst X23.here hx rfl (hb hby at_74) ?_
      show Steps p.tables e below (T23.setTop (mkF m 75 #[.val (.int p0), .val (.int (2 : Int32)), .val (.ref a_LESS_OR_EQUAL), .val (.int (1 : Int32)), .val (.int (1 : Int32)), .val (.ref y_0), .unset, .unset] [(.int (1 : Int32))])) _
      refine XS.goto X23.here hx rfl (pc0 := 75) (pc' := 79) rfl (hb hby at_75) (by decide) (by decide) ?_
      show Steps p.tables e below (T23.setTop (mkF m 79 #[.val (.int p0), .val (.int (2 : Int32)), .val (.ref a_LESS_OR_EQUAL), .val (.int (1 : Int32)), .val (.int (1 : Int32)), .val (.ref y_0), .unset, .unset] [(.int (1 : Int32))])) _
      refine XS.istore X23.here hx rfl (hb hby at_79) rfl (l' := #[.val (.int p0), .val (.int (2 : Int32)), .val (.ref a_LESS_OR_EQUAL), .val (.int (1 : Int32)), .val (.int (1 : Int32)), .val (.ref y_0), .val (.int (1 : Int32)), .unset]) rfl ?_
      show Steps p.tables e below (T23.setTop (mkF m 81 #[.val (.int p0), .val (.int (2 : Int32)), .val (.ref a_LESS_OR_EQUAL), .val (.int (1 : Int32)), .val (.int (1 : Int32)), .val (.ref y_0), .val (.int (1 : Int32)), .unset] [])) _
      refine XS.iloadN X23.here hx rfl (hb hby at_81) rfl ?_
      show Steps p.tables e below (T23.setTop (mkF m 82 #[.val (.int p0), .val (.int (2 : Int32)), .val (.ref a_LESS_OR_EQUAL), .val (.int (1 : Int32)), .val (.int (1 : Int32)), .val (.ref y_0), .val (.int (1 : Int32)), .unset] [(.int (2 : Int32))])) _
      refine XS.iconst X23.here hx rfl (hb hby at_82) ?_
      exact kt
    refine own_via (A' := T23.setTop (mkF m 86 #[.val (.int p0), .val (.int (2 : Int32)), .val (.ref a_LESS_OR_EQUAL), .val (.int (1 : Int32)), .val (.int (1 : Int32)), .val (.ref y_0), .val (.int (1 : Int32)), .unset] [])) (fun target kt => XS.icmpNo X23.here hx rfl (hb hby at_83) rfl (flt ((by decide) : ¬ ((2 : Int32) < (2 : Int32)))).1 kt) ?_
    refine own_via (A' := T23.setTop (mkF m 96 #[.val (.int p0), .val (.int (2 : Int32)), .val (.ref a_LESS_OR_EQUAL), .val (.int (1 : Int32)), .val (.int (1 : Int32)), .val (.ref y_0), .val (.int (1 : Int32)), .val (.int (1 : Int32))] [(.int (1 : Int32)), (.int (1 : Int32))])) (fun target kt => ?_) ?_
    · show Steps p.tables e below (T23.setTop (mkF m 86 #[.val (.int p0), .val (.int (2 : Int32)), .val (.ref a_LESS_OR_EQUAL), .val (.int (1 : Int32)), .val (.int (1 : Int32)), .val (.ref y_0), .val (.int (1 : Int32)), .unset] [])) _
      refine XS.iconst X23.here hx rfl (hb hby at_86) ?_
      show Steps p.tables e below (T23.setTop (mkF m 87 #[.val (.int p0), .val (.int (2 : Int32)), .val (.ref a_LESS_OR_EQUAL), .val (.int (1 : Int32)), .val (.int (1 : Int32)), .val (.ref y_0), .val (.int (1 : Int32)), .unset] [(.int (1 : Int32))])) _
      refine XS.goto X23.here hx rfl (pc0 := 87) (pc' := 91) rfl (hb hby at_87) (by decide) (by decide) ?_
      show Steps p.tables e below (T23.setTop (mkF m 91 #[.val (.int p0), .val (.int (2 : Int32)), .val (.ref a_LESS_OR_EQUAL), .val (.int (1 : Int32)), .val (.int (1 : Int32)), .val (.ref y_0), .val (.int (1 : Int32)), .unset] [(.int (1 : Int32))])) _
      refine XS.istore X23.here hx rfl (hb hby at_91) rfl (l' := #[.val (.int p0), .val (.int (2 : Int32)), .val (.ref a_LESS_OR_EQUAL), .val (.int (1 : Int32)), .val (.int (1 : Int32)), .val (.ref y_0), .val (.int (1 : Int32)), .val (.int (1 : Int32))]) rfl ?_
      show Steps p.tables e below (T23.setTop (mkF m 93 #[.val (.int p0), .val (.int (2 : Int32)), .val (.ref a_LESS_OR_EQUAL), .val (.int (1 : Int32)), .val (.int (1 : Int32)), .val (.ref y_0), .val (.int (1 : Int32)), .val (.int (1 : Int32))] [])) _
      refine XS.iloadN X23.here hx rfl (hb hby at_93) rfl ?_
      show Steps p.tables e below (T23.setTop (mkF m 94 #[.val (.int p0), .val (.int (2 : Int32)), .val (.ref a_LESS_OR_EQUAL), .val (.int (1 : Int32)), .val (.int (1 : Int32)), .val (.ref y_0), .val (.int (1 : Int32)), .val (.int (1 : Int32))] [(.int (1 : Int32))])) _
      refine XS.iload X23.here hx rfl (hb hby at_94) rfl ?_
      exact kt
    refine own_via (A' := T23.setTop (mkF m 99 #[.val (.int p0), .val (.int (2 : Int32)), .val (.ref a_LESS_OR_EQUAL), .val (.int (1 : Int32)), .val (.int (1 : Int32)), .val (.ref y_0), .val (.int (1 : Int32)), .val (.int (1 : Int32))] [])) (fun target kt => XS.icmpNo X23.here hx rfl (hb hby at_96) rfl (teq ((by decide) : (1 : Int32) = (1 : Int32))).2 kt) ?_
    refine own_via (A' := T23.setTop (mkF m 102 #[.val (.int p0), .val (.int (2 : Int32)), .val (.ref a_LESS_OR_EQUAL), .val (.int (1 : Int32)), .val (.int (1 : Int32)), .val (.ref y_0), .val (.int (1 : Int32)), .val (.int (1 : Int32))] [(.int (1 : Int32)), (.int (1 : Int32))])) (fun target kt => ?_) ?_
    · show Steps p.tables e below (T23.setTop (mkF m 99 #[.val (.int p0), .val (.int (2 : Int32)), .val (.ref a_LESS_OR_EQUAL), .val (.int (1 : Int32)), .val (.int (1 : Int32)), .val (.ref y_0), .val (.int (1 : Int32)), .val (.int (1 : Int32))] [])) _
      refine XS.iloadN X23.here hx rfl (hb hby at_99) rfl ?_
      show Steps p.tables e below (T23.setTop (mkF m 100 #[.val (.int p0), .val (.int (2 : Int32)), .val (.ref a_LESS_OR_EQUAL), .val (.int (1 : Int32)), .val (.int (1 : Int32)), .val (.ref y_0), .val (.int (1 : Int32)), .val (.int (1 : Int32))] [(.int (1 : Int32))])) _
      refine XS.iload X23.here hx rfl (hb hby at_100) rfl ?_
      exact kt
    refine own_via (A' := T23.setTop (mkF m 105 #[.val (.int p0), .val (.int (2 : Int32)), .val (.ref a_LESS_OR_EQUAL), .val (.int (1 : Int32)), .val (.int (1 : Int32)), .val (.ref y_0), .val (.int (1 : Int32)), .val (.int (1 : Int32))] [])) (fun target kt => XS.icmpNo X23.here hx rfl (hb hby at_102) rfl (teq ((by decide) : (1 : Int32) = (1 : Int32))).2 kt) ?_
    refine own_via (A' := T23.setTop (mkF m 108 #[.val (.int p0), .val (.int (2 : Int32)), .val (.ref a_LESS_OR_EQUAL), .val (.int (1 : Int32)), .val (.int (1 : Int32)), .val (.ref y_0), .val (.int (1 : Int32)), .val (.int (1 : Int32))] [(.int (1 : Int32)), (.int (1 : Int32))])) (fun target kt => ?_) ?_
    · show Steps p.tables e below (T23.setTop (mkF m 105 #[.val (.int p0), .val (.int (2 : Int32)), .val (.ref a_LESS_OR_EQUAL), .val (.int (1 : Int32)), .val (.int (1 : Int32)), .val (.ref y_0), .val (.int (1 : Int32)), .val (.int (1 : Int32))] [])) _
      refine XS.iloadN X23.here hx rfl (hb hby at_105) rfl ?_
      show Steps p.tables e below (T23.setTop (mkF m 106 #[.val (.int p0), .val (.int (2 : Int32)), .val (.ref a_LESS_OR_EQUAL), .val (.int (1 : Int32)), .val (.int (1 : Int32)), .val (.ref y_0), .val (.int (1 : Int32)), .val (.int (1 : Int32))] [(.int (1 : Int32))])) _
      refine XS.iload X23.here hx rfl (hb hby at_106) rfl ?_
      exact kt
    refine own_via (A' := T23.setTop (mkF m 111 #[.val (.int p0), .val (.int (2 : Int32)), .val (.ref a_LESS_OR_EQUAL), .val (.int (1 : Int32)), .val (.int (1 : Int32)), .val (.ref y_0), .val (.int (1 : Int32)), .val (.int (1 : Int32))] [])) (fun target kt => XS.icmpNo X23.here hx rfl (hb hby at_108) rfl (teq ((by decide) : (1 : Int32) = (1 : Int32))).2 kt) ?_
    refine own_via (A' := T23.setTop (mkF m 116 #[.val (.int p0), .val (.int (2 : Int32)), .val (.ref a_LESS_OR_EQUAL), .val (.int (1 : Int32)), .val (.int (1 : Int32)), .val (.ref y_0), .val (.int (1 : Int32)), .val (.int (1 : Int32))] [(.int (1 : Int32))])) (fun target kt => ?_) ?_
    · show Steps p.tables e below (T23.setTop (mkF m 111 #[.val (.int p0), .val (.int (2 : Int32)), .val (.ref a_LESS_OR_EQUAL), .val (.int (1 : Int32)), .val (.int (1 : Int32)), .val (.ref y_0), .val (.int (1 : Int32)), .val (.int (1 : Int32))] [])) _
      refine XS.iconst X23.here hx rfl (hb hby at_111) ?_
      show Steps p.tables e below (T23.setTop (mkF m 112 #[.val (.int p0), .val (.int (2 : Int32)), .val (.ref a_LESS_OR_EQUAL), .val (.int (1 : Int32)), .val (.int (1 : Int32)), .val (.ref y_0), .val (.int (1 : Int32)), .val (.int (1 : Int32))] [(.int (1 : Int32))])) _
      refine XS.goto X23.here hx rfl (pc0 := 112) (pc' := 116) rfl (hb hby at_112) (by decide) (by decide) ?_
      exact kt
    exact own_retN X23 Bd.notSynchronized hx (t := .boolean) Bd.returns (by simp) (hb hby at_116) (show Q0 Z p0 a_EQUAL a_NOT_EQUAL a_LESS_OR_EQUAL a_LESS a_GREATER_OR_EQUAL a_GREATER vf wcs h0 n0 _ _ _ from ⟨rfl, N23⟩) (by decide) (by decide)
  · have K_0 := K_LESS
    obtain ⟨E_0, F_o, y_0, v_0, cl_0, z_0, F_s, E_s, F_v, F_c, Ar_0, hz_0, hz_1, hz_2, hin_0, hat_0⟩ := K_0
    refine own_via (A' := s₁.setTop (mkF m 9 #[.val (.int p0), .val (.int (3 : Int32)), .unset, .unset, .unset, .unset, .unset, .unset] [(.int (3 : Int32))])) (fun target kt => ?_) ?_
    · show Steps p.tables e below (s₁.setTop (mkF m 8 #[.val (.int p0), .val (.int (3 : Int32)), .unset, .unset, .unset, .unset, .unset, .unset] [])) _
      refine XS.iloadN X0.here hx rfl (hb hby at_8) rfl ?_
      exact kt
    obtain ⟨_, _, ⟨T24, L24, k24, n24⟩, -, X24, ⟨Lc24, hQ24, l24, y24, z24⟩, st24⟩ := Jvm.LawKit.callS X0 hx (y := (⟨"com/example/resultree/resultree/xpath/ComparisonIsOrderingPinLaw", "pick", "(I)Lcom/example/resultree/resultree/xpath/Comparison;"⟩ : MethodName)) hown (mvT hZ (hw _ (List.mem_of_getElem? (i := 1) rfl))) (mvT hZ (hw _ (List.mem_of_getElem? (i := 2) rfl))) (mvT hZ (hw _ (List.mem_of_getElem? (i := 3) rfl))) (mvT hZ (hw _ (List.mem_of_getElem? (i := 4) rfl))) (by decide) (backOf (W := 0) (rm1 l Z a0 hw [] (3 : Int32) a_EQUAL a_NOT_EQUAL a_LESS_OR_EQUAL a_LESS a_GREATER_OR_EQUAL a_GREATER h0 n0 Z0 S_EQUAL S_NOT_EQUAL S_LESS_OR_EQUAL S_LESS S_GREATER_OR_EQUAL S_GREATER) hZ (hw _ (List.mem_of_getElem? (i := 4) rfl)) (hw _ (List.mem_of_getElem? (i := 3) rfl)) (by decide) (by decide)) (g := (mkF m 9 #[.val (.int p0), .val (.int (3 : Int32)), .unset, .unset, .unset, .unset, .unset, .unset] [(.int (3 : Int32))])) rfl (by rw [hml]; rfl) (argsL := [(.int (3 : Int32))]) (rest := []) (lenOf pd_0_0 rfl) rfl (by show 2 * 0 + _ ≤ _; exact Nat.le_of_eq rfl) (hb hby at_9) (fun _ _ => ⟨rfl, e0, (by decide : 0 + 0 ≤ _), (by decide : 0 + 0 ≤ _)⟩)
    dsimp only [Pt.U, Pt.locs, Pt.cells, Pt.slots] at X24 l24 y24 z24 st24 hQ24
    subst l24 y24 z24
    obtain ⟨hv24, N24q, e24⟩ := hQ24
    rw [show own_pick (3 : Int32) a_EQUAL a_NOT_EQUAL a_LESS_OR_EQUAL a_LESS a_GREATER_OR_EQUAL a_GREATER = a_LESS from by simp [own_pick]] at hv24
    subst hv24
    have N24 := Fr.app N0 N24q
    refine own_via (A' := T24.setTop (mkF m 12 #[.val (.int p0), .val (.int (3 : Int32)), .unset, .unset, .unset, .unset, .unset, .unset] [(.ref a_LESS)])) st24 ?_
    refine own_via (A' := T24.setTop (mkF m 14 #[.val (.int p0), .val (.int (3 : Int32)), .val (.ref a_LESS), .unset, .unset, .unset, .unset, .unset] [(.ref a_LESS)])) (fun target kt => ?_) ?_
    · show Steps p.tables e below (T24.setTop (mkF m 12 #[.val (.int p0), .val (.int (3 : Int32)), .unset, .unset, .unset, .unset, .unset, .unset] [(.ref a_LESS)])) _
      refine XS.astoreN X24.here hx rfl (hb hby at_12) rfl rfl (l' := #[.val (.int p0), .val (.int (3 : Int32)), .val (.ref a_LESS), .unset, .unset, .unset, .unset, .unset]) rfl ?_
      show Steps p.tables e below (T24.setTop (mkF m 13 #[.val (.int p0), .val (.int (3 : Int32)), .val (.ref a_LESS), .unset, .unset, .unset, .unset, .unset] [])) _
      refine XS.aloadN X24.here hx rfl (hb hby at_13) rfl rfl ?_
      exact kt
    obtain ⟨cq25, kq25, q25a, q25b, q25c⟩ := isOf hZ e24 E_0
    obtain ⟨_, _, ⟨T25, L25, k25, n25⟩, -, X25, ⟨Lc25, hQ25, l25, y25, z25⟩, st25⟩ := X24.virtualBack hx (y := (⟨"com/example/resultree/resultree/xpath/Comparison", "isOrdering", "()Z"⟩ : MethodName)) (z := (⟨"com/example/resultree/resultree/xpath/Comparison", "isOrdering", "()Z"⟩ : MethodName)) hown (mvT hZ (hw _ (List.mem_of_getElem? (i := 8) rfl))) (mvT hZ (hw _ (List.mem_of_getElem? (i := 9) rfl))) (notFace_of_selects (args := #[]) (mvT hZ (hw _ (List.mem_of_getElem? (i := 11) rfl)))) (mvT hZ (hw _ (List.mem_of_getElem? (i := 11) rfl))) (mvT hZ (hw _ (List.mem_of_getElem? (i := 10) rfl))) (by decide) (backOf (W := 0) (rm2 l Z a0 hw [] a_LESS a_EQUAL a_NOT_EQUAL h0 n0 Z0 S_EQUAL S_NOT_EQUAL) hZ (hw _ (List.mem_of_getElem? (i := 12) rfl)) (hw _ (List.mem_of_getElem? (i := 6) rfl)) (by decide) (by decide)) q25a q25c (g := (mkF m 14 #[.val (.int p0), .val (.int (3 : Int32)), .val (.ref a_LESS), .unset, .unset, .unset, .unset, .unset] [(.ref a_LESS)])) rfl (by rw [hml]; rfl) (Steps.refl _) (argsL := []) (rest := []) (lenOf pd_0_1 rfl) rfl (by show 2 * 0 + _ ≤ _; exact Nat.le_of_eq rfl) (hb hby at_14) (fun _ _ => ⟨rfl, e24, (by decide : 0 + 0 ≤ _), (by decide : 0 + 0 ≤ _)⟩)
    dsimp only [Pt.U, Pt.locs, Pt.cells, Pt.slots] at X25 l25 y25 z25 st25 hQ25
    subst l25 y25 z25
    obtain ⟨hv25, N25q, e25⟩ := hQ25
    rw [show own_isord a_LESS a_EQUAL a_NOT_EQUAL = (1 : Int32) from by simp [own_isord, own_ne K_LESS K_EQUAL (by decide), own_ne K_LESS K_NOT_EQUAL (by decide)]] at hv25
    subst hv25
    have N25 := Fr.app N24 N25q
    refine own_via (A' := T25.setTop (mkF m 17 #[.val (.int p0), .val (.int (3 : Int32)), .val (.ref a_LESS), .unset, .unset, .unset, .unset, .unset] [(.int (1 : Int32))])) (fun _ kt => st25.trans kt) ?_
    refine own_via (A' := T25.setTop (mkF m 20 #[.val (.int p0), .val (.int (3 : Int32)), .val (.ref a_LESS), .val (.int (1 : Int32)), .unset, .unset, .unset, .unset] [(.int (1 : Int32)), (.ref a_LESS)])) (fun target kt => ?_) ?_
    · show Steps p.tables e below (T25.setTop (mkF m 17 #[.val (.int p0), .val (.int (3 : Int32)), .val (.ref a_LESS), .unset, .unset, .unset, .unset, .unset] [(.int (1 : Int32))])) _
      refine XS.istoreN X25.here hx rfl (hb hby at_17) rfl (l' := #[.val (.int p0), .val (.int (3 : Int32)), .val (.ref a_LESS), .val (.int (1 : Int32)), .unset, .unset, .unset, .unset]) rfl ?_
      show Steps p.tables e below (T25.setTop (mkF m 18 #[.val (.int p0), .val (.int (3 : Int32)), .val (.ref a_LESS), .val (.int (1 : Int32)), .unset, .unset, .unset, .unset] [])) _
      refine XS.aloadN X25.here hx rfl (hb hby at_18) rfl rfl ?_
      show Steps p.tables e below (T25.setTop (mkF m 19 #[.val (.int p0), .val (.int (3 : Int32)), .val (.ref a_LESS), .val (.int (1 : Int32)), .unset, .unset, .unset, .unset] [(.ref a_LESS)])) _
      refine XS.iconst X25.here hx rfl (hb hby at_19) ?_
      exact kt
    obtain ⟨cq26, kq26, q26a, q26b, q26c⟩ := isOf hZ e25 E_0
    obtain ⟨_, _, ⟨T26, L26, k26, n26⟩, -, X26, ⟨Lc26, hQ26, l26, y26, z26⟩, st26⟩ := X25.virtualBack hx (y := (⟨"com/example/resultree/resultree/xpath/Comparison", "holds", "(I)Z"⟩ : MethodName)) (z := (⟨"com/example/resultree/resultree/xpath/Comparison", "holds", "(I)Z"⟩ : MethodName)) hown (mvT hZ (hw _ (List.mem_of_getElem? (i := 14) rfl))) (mvT hZ (hw _ (List.mem_of_getElem? (i := 15) rfl))) (notFace_of_selects (args := #[]) (mvT hZ (hw _ (List.mem_of_getElem? (i := 17) rfl)))) (mvT hZ (hw _ (List.mem_of_getElem? (i := 17) rfl))) (mvT hZ (hw _ (List.mem_of_getElem? (i := 16) rfl))) (by decide) (backOf (W := 0) (rm3 l Z a0 hw [] a_LESS (1 : Int32) (3 : Int32) h0 n0 Z0 (Or.inr (Or.inr (Or.inr (Or.inl rfl)))) E_0 F_o) hZ (hw _ (List.mem_of_getElem? (i := 18) rfl)) (hw _ (List.mem_of_getElem? (i := 6) rfl)) (by decide) (by decide)) q26a q26c (g := (mkF m 20 #[.val (.int p0), .val (.int (3 : Int32)), .val (.ref a_LESS), .val (.int (1 : Int32)), .unset, .unset, .unset, .unset] [(.int (1 : Int32)), (.ref a_LESS)])) rfl (by rw [hml]; rfl) (Steps.refl _) (argsL := [(.int (1 : Int32))]) (rest := []) (lenOf pd_0_2 rfl) rfl (by show 2 * 0 + _ ≤ _; exact Nat.le_of_eq rfl) (hb hby at_20) (fun _ _ => ⟨rfl, e25, (by decide : 0 + 0 ≤ _), (by decide : 0 + 0 ≤ _)⟩)
    dsimp only [Pt.U, Pt.locs, Pt.cells, Pt.slots] at X26 l26 y26 z26 st26 hQ26
    subst l26 y26 z26
    obtain ⟨hv26, N26q, e26⟩ := hQ26
    rw [show own_hold (3 : Int32) (1 : Int32) = (0 : Int32) from by decide] at hv26
    subst hv26
    have N26 := Fr.app N25 N26q
    refine own_via (A' := T26.setTop (mkF m 23 #[.val (.int p0), .val (.int (3 : Int32)), .val (.ref a_LESS), .val (.int (1 : Int32)), .unset, .unset, .unset, .unset] [(.int (0 : Int32))])) (fun _ kt => st26.trans kt) ?_
    refine own_via (A' := T26.setTop (mkF m 25 #[.val (.int p0), .val (.int (3 : Int32)), .val (.ref a_LESS), .val (.int (1 : Int32)), .unset, .unset, .unset, .unset] [(.int (-1 : Int32)), (.ref a_LESS), (.int (0 : Int32))])) (fun target kt => ?_) ?_
    · show Steps p.tables e below (T26.setTop (mkF m 23 #[.val (.int p0), .val (.int (3 : Int32)), .val (.ref a_LESS), .val (.int (1 : Int32)), .unset, .unset, .unset, .unset] [(.int (0 : Int32))])) _
      refine XS.aloadN X26.here hx rfl (hb hby at_23) rfl rfl ?_
      show Steps p.tables e below (T26.setTop (mkF m 24 #[.val (.int p0), .val (.int (3 : Int32)), .val (.ref a_LESS), .val (.int (1 : Int32)), .unset, .unset, .unset, .unset] [(.ref a_LESS), (.int (0 : Int32))])) _
      refine XS.iconst X26.here hx rfl (hb hby at_24) ?_
      exact kt
    obtain ⟨cq27, kq27, q27a, q27b, q27c⟩ := isOf hZ e26 E_0
    obtain ⟨_, _, ⟨T27, L27, k27, n27⟩, -, X27, ⟨Lc27, hQ27, l27, y27, z27⟩, st27⟩ := X26.virtualBack hx (y := (⟨"com/example/resultree/resultree/xpath/Comparison", "holds", "(I)Z"⟩ : MethodName)) (z := (⟨"com/example/resultree/resultree/xpath/Comparison", "holds", "(I)Z"⟩ : MethodName)) hown (mvT hZ (hw _ (List.mem_of_getElem? (i := 14) rfl))) (mvT hZ (hw _ (List.mem_of_getElem? (i := 15) rfl))) (notFace_of_selects (args := #[]) (mvT hZ (hw _ (List.mem_of_getElem? (i := 17) rfl)))) (mvT hZ (hw _ (List.mem_of_getElem? (i := 17) rfl))) (mvT hZ (hw _ (List.mem_of_getElem? (i := 16) rfl))) (by decide) (backOf (W := 1) (rm3 l Z a0 hw [] a_LESS (-1 : Int32) (3 : Int32) h0 n0 Z0 (Or.inr (Or.inr (Or.inr (Or.inl rfl)))) E_0 F_o) hZ (hw _ (List.mem_of_getElem? (i := 18) rfl)) (hw _ (List.mem_of_getElem? (i := 6) rfl)) (by decide) (by decide)) q27a q27c (g := (mkF m 25 #[.val (.int p0), .val (.int (3 : Int32)), .val (.ref a_LESS), .val (.int (1 : Int32)), .unset, .unset, .unset, .unset] [(.int (-1 : Int32)), (.ref a_LESS), (.int (0 : Int32))])) rfl (by rw [hml]; rfl) (Steps.refl _) (argsL := [(.int (-1 : Int32))]) (rest := [(.int (0 : Int32))]) (lenOf pd_0_2 rfl) rfl (by show 2 * 0 + _ ≤ _; exact Nat.le_of_eq rfl) (hb hby at_25) (fun _ _ => ⟨rfl, e26, (by decide : 0 + 0 ≤ _), (by decide : 0 + 0 ≤ _)⟩)
    dsimp only [Pt.U, Pt.locs, Pt.cells, Pt.slots] at X27 l27 y27 z27 st27 hQ27
    subst l27 y27 z27
    obtain ⟨hv27, N27q, e27⟩ := hQ27
    rw [show own_hold (3 : Int32) (-1 : Int32) = (1 : Int32) from by decide] at hv27
    subst hv27
    have N27 := Fr.app N26 N27q
    refine own_via (A' := T27.setTop (mkF m 28 #[.val (.int p0), .val (.int (3 : Int32)), .val (.ref a_LESS), .val (.int (1 : Int32)), .unset, .unset, .unset, .unset] [(.int (1 : Int32)), (.int (0 : Int32))])) (fun _ kt => st27.trans kt) ?_
    refine own_via (A' := T27.setTop (mkF m 31 #[.val (.int p0), .val (.int (3 : Int32)), .val (.ref a_LESS), .val (.int (1 : Int32)), .unset, .unset, .unset, .unset] [])) (fun target kt => XS.icmpNo X27.here hx rfl (hb hby at_28) rfl (feq ((by decide) : ¬ ((0 : Int32) = (1 : Int32)))).1 kt) ?_
    refine own_via (A' := T27.setTop (mkF m 39 #[.val (.int p0), .val (.int (3 : Int32)), .val (.ref a_LESS), .val (.int (1 : Int32)), .val (.int (1 : Int32)), .unset, .unset, .unset] [(.ref a_LESS)])) (fun target kt => ?_) ?_
    · show Steps p.tables e below (T27.setTop (mkF m 31 #[.val (.int p0), .val (.int (3 : Int32)), .val (.ref a_LESS), .val (.int (1 : Int32)), .unset, .unset, .unset, .unset] [])) _
      refine XS.iconst X27.here hx rfl (hb hby at_31) ?_
      show Steps p.tables e below (T27.setTop (mkF m 32 #[.val (.int p0), .val (.int (3 : Int32)), .val (.ref a_LESS), .val (.int (1 : Int32)), .unset, .unset, .unset, .unset] [(.int (1 : Int32))])) _
      refine XS.goto X27.here hx rfl (pc0 := 32) (pc' := 36) rfl (hb hby at_32) (by decide) (by decide) ?_
      show Steps p.tables e below (T27.setTop (mkF m 36 #[.val (.int p0), .val (.int (3 : Int32)), .val (.ref a_LESS), .val (.int (1 : Int32)), .unset, .unset, .unset, .unset] [(.int (1 : Int32))])) _
      refine XS.istore X27.here hx rfl (hb hby at_36) rfl (l' := #[.val (.int p0), .val (.int (3 : Int32)), .val (.ref a_LESS), .val (.int (1 : Int32)), .val (.int (1 : Int32)), .unset, .unset, .unset]) rfl ?_
      show Steps p.tables e below (T27.setTop (mkF m 38 #[.val (.int p0), .val (.int (3 : Int32)), .val (.ref a_LESS), .val (.int (1 : Int32)), .val (.int (1 : Int32)), .unset, .unset, .unset] [])) _
      refine XS.aloadN X27.here hx rfl (hb hby at_38) rfl rfl ?_
      exact kt
    obtain ⟨cq28, kq28, q28a, q28b, q28c⟩ := isOf hZ e27 E_0
    obtain ⟨_, _, ⟨T28, L28, k28, n28⟩, -, X28, ⟨Lc28, hQ28, l28, y28, z28⟩, st28⟩ := X27.virtualBack hx (y := (⟨"com/example/resultree/resultree/xpath/Comparison", "symbol", "()Ljava/lang/String;"⟩ : MethodName)) (z := (⟨"com/example/resultree/resultree/xpath/Comparison", "symbol", "()Ljava/lang/String;"⟩ : MethodName)) hown (mvT hZ (hw _ (List.mem_of_getElem? (i := 28) rfl))) (mvT hZ (hw _ (List.mem_of_getElem? (i := 29) rfl))) (notFace_of_selects (args := #[]) (mvT hZ (hw _ (List.mem_of_getElem? (i := 31) rfl)))) (mvT hZ (hw _ (List.mem_of_getElem? (i := 31) rfl))) (mvT hZ (hw _ (List.mem_of_getElem? (i := 30) rfl))) (by decide) (backOf (W := 0) (rm5 l Z a0 hw [] a_LESS y_0 h0 n0 Z0 F_s) hZ (hw _ (List.mem_of_getElem? (i := 32) rfl)) (hw _ (List.mem_of_getElem? (i := 6) rfl)) (by decide) (by decide)) q28a q28c (g := (mkF m 39 #[.val (.int p0), .val (.int (3 : Int32)), .val (.ref a_LESS), .val (.int (1 : Int32)), .val (.int (1 : Int32)), .unset, .unset, .unset] [(.ref a_LESS)])) rfl (by rw [hml]; rfl) (Steps.refl _) (argsL := []) (rest := []) (lenOf pd_0_3 rfl) rfl (by show 2 * 0 + _ ≤ _; exact Nat.le_of_eq rfl) (hb hby at_39) (fun _ _ => ⟨rfl, e27, (by decide : 0 + 0 ≤ _), (by decide : 0 + 0 ≤ _)⟩)
    dsimp only [Pt.U, Pt.locs, Pt.cells, Pt.slots] at X28 l28 y28 z28 st28 hQ28
    subst l28 y28 z28
    obtain ⟨rfl, N28q, e28⟩ := hQ28
    have N28 := Fr.app N27 N28q
    refine own_via (A' := T28.setTop (mkF m 42 #[.val (.int p0), .val (.int (3 : Int32)), .val (.ref a_LESS), .val (.int (1 : Int32)), .val (.int (1 : Int32)), .unset, .unset, .unset] [(.ref y_0)])) (fun _ kt => st28.trans kt) ?_
    refine own_via (A' := T28.setTop (mkF m 46 #[.val (.int p0), .val (.int (3 : Int32)), .val (.ref a_LESS), .val (.int (1 : Int32)), .val (.int (1 : Int32)), .val (.ref y_0), .unset, .unset] [(.ref y_0)])) (fun target kt => ?_) ?_
    · show Steps p.tables e below (T28.setTop (mkF m 42 #[.val (.int p0), .val (.int (3 : Int32)), .val (.ref a_LESS), .val (.int (1 : Int32)), .val (.int (1 : Int32)), .unset, .unset, .unset] [(.ref y_0)])) _
      refine XS.astore X28.here hx rfl (hb hby at_42) rfl rfl (l' := #[.val (.int p0), .val (.int (3 : Int32)), .val (.ref a_LESS), .val (.int (1 : Int32)), .val (.int (1 : Int32)), .val (.ref y_0), .unset, .unset]) rfl ?_
      show Steps p.tables e below (T28.setTop (mkF m 44 #[.val (.int p0), .val (.int (3 : Int32)), .val (.ref a_LESS), .val (.int (1 : Int32)), .val (.int (1 : Int32)), .val (.ref y_0), .unset, .unset] [])) _
      refine XS.aload X28.here hx rfl (hb hby at_44) rfl rfl ?_
      exact kt
    obtain ⟨cq29, kq29, q29a, q29b, q29c⟩ := isOf hZ e28 E_s
    obtain ⟨_, _, ⟨T29, L29, k29, n29⟩, -, X29, ⟨Lc29, hQ29, l29, y29, z29⟩, st29⟩ := X28.virtualBack hx (y := (⟨"java/lang/String", "isEmpty", "()Z"⟩ : MethodName)) (z := (⟨"java/lang/String", "isEmpty", "()Z"⟩ : MethodName)) hown (mvT hZ (hw _ (List.mem_of_getElem? (i := 35) rfl))) (mvT hZ (hw _ (List.mem_of_getElem? (i := 36) rfl))) (notFace_of_selects (args := #[]) (mvT hZ (hw _ (List.mem_of_getElem? (i := 38) rfl)))) (mvT hZ (hw _ (List.mem_of_getElem? (i := 38) rfl))) (mvT hZ (hw _ (List.mem_of_getElem? (i := 37) rfl))) (by decide) (backOf (W := 0) (rm6 l Z a0 hw [] y_0 v_0 cl_0 z_0 h0 n0 Z0 F_v Ar_0 hz_0 hz_1) hZ (hw _ (List.mem_of_getElem? (i := 40) rfl)) (hw _ (List.mem_of_getElem? (i := 39) rfl)) (by decide) (by decide)) q29a q29c (g := (mkF m 46 #[.val (.int p0), .val (.int (3 : Int32)), .val (.ref a_LESS), .val (.int (1 : Int32)), .val (.int (1 : Int32)), .val (.ref y_0), .unset, .unset] [(.ref y_0)])) rfl (by rw [hml]; rfl) (Steps.refl _) (argsL := []) (rest := []) (lenOf pd_0_1 rfl) rfl (by show 2 * 0 + _ ≤ _; exact Nat.le_of_eq rfl) (hb hby at_46) (fun _ _ => ⟨rfl, e28, (by decide : 0 + 0 ≤ _), (by decide : 0 + 0 ≤ _)⟩)
    dsimp only [Pt.U, Pt.locs, Pt.cells, Pt.slots] at X29 l29 y29 z29 st29 hQ29
    subst l29 y29 z29
    obtain ⟨rfl, N29q, e29⟩ := hQ29
    have N29 := Fr.app N28 N29q
    refine own_via (A' := T29.setTop (mkF m 49 #[.val (.int p0), .val (.int (3 : Int32)), .val (.ref a_LESS), .val (.int (1 : Int32)), .val (.int (1 : Int32)), .val (.ref y_0), .unset, .unset] [(.int (0 : Int32))])) (fun _ kt => st29.trans kt) ?_
    refine own_via (A' := T29.setTop (mkF m 52 #[.val (.int p0), .val (.int (3 : Int32)), .val (.ref a_LESS), .val (.int (1 : Int32)), .val (.int (1 : Int32)), .val (.ref y_0), .unset, .unset] [])) (fun target kt => XS.ifNo X29.here hx rfl (hb hby at_49) rfl ((if0 _ _).trans (teq ((by decide) : (0 : Int32) = (0 : Int32))).2) kt) ?_
    refine own_via (A' := T29.setTop (mkF m 55 #[.val (.int p0), .val (.int (3 : Int32)), .val (.ref a_LESS), .val (.int (1 : Int32)), .val (.int (1 : Int32)), .val (.ref y_0), .unset, .unset] [(.int (0 : Int32)), (.ref y_0)])) (fun target kt => ?_) ?_
    · show Steps p.tables e below (T29.setTop (mkF m 52 #[.val (.int p0), .val (.int (3 : Int32)), .val (.ref a_LESS), .val (.int (1 : Int32)), .val (.int (1 : Int32)), .val (.ref y_0), .unset, .unset] [])) _
      refine XS.aload X29.here hx rfl (hb hby at_52) rfl rfl ?_
      show Steps p.tables e below (T29.setTop (mkF m 54 #[.val (.int p0), .val (.int (3 : Int32)), .val (.ref a_LESS), .val (.int (1 : Int32)), .val (.int (1 : Int32)), .val (.ref y_0), .unset, .unset] [(.ref y_0)])) _
      refine XS.iconst X29.here hx rfl (hb hby at_54) ?_
      exact kt
    obtain ⟨cq30, kq30, q30a, q30b, q30c⟩ := isOf hZ e29 E_s
    obtain ⟨_, _, ⟨T30, L30, k30, n30⟩, -, X30, ⟨Lc30, hQ30, l30, y30, z30⟩, st30⟩ := X29.virtualBack hx (y := (⟨"java/lang/String", "charAt", "(I)C"⟩ : MethodName)) (z := (⟨"java/lang/String", "charAt", "(I)C"⟩ : MethodName)) hown (mvT hZ (hw _ (List.mem_of_getElem? (i := 43) rfl))) (mvT hZ (hw _ (List.mem_of_getElem? (i := 44) rfl))) (notFace_of_selects (args := #[]) (mvT hZ (hw _ (List.mem_of_getElem? (i := 46) rfl)))) (mvT hZ (hw _ (List.mem_of_getElem? (i := 46) rfl))) (mvT hZ (hw _ (List.mem_of_getElem? (i := 45) rfl))) (by decide) (backOf (W := 0) (rm7 l Z a0 hw [] y_0 (0 : Int32) v_0 cl_0 z_0 (60 : Int32) vf wcs h0 n0 Z0 E_s F_v F_c Ar_0 hz_0 (by decide) hz_2 hin_0 hat_0 S_FM hv_vf S_CS hcs) hZ (hw _ (List.mem_of_getElem? (i := 47) rfl)) (hw _ (List.mem_of_getElem? (i := 39) rfl)) (by decide) (by decide)) q30a q30c (g := (mkF m 55 #[.val (.int p0), .val (.int (3 : Int32)), .val (.ref a_LESS), .val (.int (1 : Int32)), .val (.int (1 : Int32)), .val (.ref y_0), .unset, .unset] [(.int (0 : Int32)), (.ref y_0)])) rfl (by rw [hml]; rfl) (Steps.refl _) (argsL := [(.int (0 : Int32))]) (rest := []) (lenOf pd_0_4 rfl) rfl (by show 2 * 0 + _ ≤ _; exact Nat.le_of_eq rfl) (hb hby at_55) (fun _ _ => ⟨rfl, e29, (by decide : 0 + 0 ≤ _), (by decide : 0 + 0 ≤ _)⟩)
    dsimp only [Pt.U, Pt.locs, Pt.cells, Pt.slots] at X30 l30 y30 z30 st30 hQ30
    subst l30 y30 z30
    obtain ⟨hv30, N30q, e30⟩ := hQ30
    rw [show nar .char (own_lc (60 : Int32)) = (60 : Int32) from by decide] at hv30
    subst hv30
    have N30 := Fr.app N29 N30q
    refine own_via (A' := T30.setTop (mkF m 58 #[.val (.int p0), .val (.int (3 : Int32)), .val (.ref a_LESS), .val (.int (1 : Int32)), .val (.int (1 : Int32)), .val (.ref y_0), .unset, .unset] [(.int (60 : Int32))])) (fun _ kt => st30.trans kt) ?_
    refine own_via (A' := T30.setTop (mkF m 60 #[.val (.int p0), .val (.int (3 : Int32)), .val (.ref a_LESS), .val (.int (1 : Int32)), .val (.int (1 : Int32)), .val (.ref y_0), .unset, .unset] [(.int (60 : Int32)), (.int (60 : Int32))])) (fun target kt => ?_) ?_
    · show Steps p.tables e below (T30.setTop (mkF m 58 #[.val (.int p0), .val (.int (3 : Int32)), .val (.ref a_LESS), .val (.int (1 : Int32)), .val (.int (1 : Int32)), .val (.ref y_0), .unset, .unset] [(.int (60 : Int32))])) _
      refine XS.bipush X30.here hx rfl (hb hby at_58) ?_
      exact kt
    refine own_via (A' := T30.setTop (mkF m 74 #[.val (.int p0), .val (.int (3 : Int32)), .val (.ref a_LESS), .val (.int (1 : Int32)), .val (.int (1 : Int32)), .val (.ref y_0), .unset, .unset] [])) (fun target kt => XS.icmpYes X30.here hx rfl (pc0 := 60) (pc' := 74) rfl (hb hby at_60) rfl (teq ((by decide) : (60 : Int32) = (60 : Int32))).1 (by decide) (by decide) kt) ?_
    refine own_via (A' := T30.setTop (mkF m 83 #[.val (.int p0), .val (.int (3 : Int32)), .val (.ref a_LESS), .val (.int (1 : Int32)), .val (.int (1 : Int32)), .val (.ref y_0), .val (.int (1 : Int32)), .unset] [(.int (2 : Int32)), (.int (3 : Int32))])) (fun target kt => ?_) ?_
    · show Steps p.tables e below (T30.setTop (mkF m 74 #[.val (.int p0), .val (.int (3 : Int32)), .val (.ref a_LESS), .val (.int (1 : Int32)), .val (.int (1 : Int32)), .val (.ref y_0), .unset, .unset] [])) _
      refine XS.iconst X30.here hx rfl (hb hby at_74) ?_
      show Steps p.tables e below (T30.setTop (mkF m 75 #[.val (.int p0), .val (.int (3 : Int32)), .val (.ref a_LESS), .val (.int (1 : Int32)), .val (.int (1 : Int32)), .val (.ref y_0), .unset, .unset] [(.int (1 : Int32))])) _
      refine XS.goto X30.here hx rfl (pc0 := 75) (pc' := 79) rfl (hb hby at_75) (by decide) (by decide) ?_
      show Steps p.tables e below (T30.setTop (mkF m 79 #[.val (.int p0), .val (.int (3 : Int32)), .val (.ref a_LESS), .val (.int (1 : Int32)), .val (.int (1 : Int32)), .val (.ref y_0), .unset, .unset] [(.int (1 : Int32))])) _
      refine XS.istore X30.here hx rfl (hb hby at_79) rfl (l' := #[.val (.int p0), .val (.int (3 : Int32)), .val (.ref a_LESS), .val (.int (1 : Int32)), .val (.int (1 : Int32)), .val (.ref y_0), .val (.int (1 : Int32)), .unset]) rfl ?_
      show Steps p.tables e below (T30.setTop (mkF m 81 #[.val (.int p0), .val (.int (3 : Int32)), .val (.ref a_LESS), .val (.int (1 : Int32)), .val (.int (1 : Int32)), .val (.ref y_0), .val (.int (1 : Int32)), .unset] [])) _
      refine XS.iloadN X30.here hx rfl (hb hby at_81) rfl ?_
      show Steps p.tables e below (T30.setTop (mkF m 82 #[.val (.int p0), .val (.int (3 : Int32)), .val (.ref a_LESS), .val (.int (1 : Int32)), .val (.int (1 : Int32)), .val (.ref y_0), .val (.int (1 : Int32)), .unset] [(.int (3 : Int32))])) _
      refine XS.iconst X30.here hx rfl (hb hby at_82) ?_
      exact kt
    refine own_via (A' := T30.setTop (mkF m 86 #[.val (.int p0), .val (.int (3 : Int32)), .val (.ref a_LESS), .val (.int (1 : Int32)), .val (.int (1 : Int32)), .val (.ref y_0), .val (.int (1 : Int32)), .unset] [])) (fun target kt => XS.icmpNo X30.here hx rfl (hb hby at_83) rfl (flt ((by decide) : ¬ ((3 : Int32) < (2 : Int32)))).1 kt) ?_
    refine own_via (A' := T30.setTop (mkF m 96 #[.val (.int p0), .val (.int (3 : Int32)), .val (.ref a_LESS), .val (.int (1 : Int32)), .val (.int (1 : Int32)), .val (.ref y_0), .val (.int (1 : Int32)), .val (.int (1 : Int32))] [(.int (1 : Int32)), (.int (1 : Int32))])) (fun target kt => ?_) ?_
    · show Steps p.tables e below (T30.setTop (mkF m 86 #[.val (.int p0), .val (.int (3 : Int32)), .val (.ref a_LESS), .val (.int (1 : Int32)), .val (.int (1 : Int32)), .val (.ref y_0), .val (.int (1 : Int32)), .unset] [])) _
      refine XS.iconst X30.here hx rfl (hb hby at_86) ?_
      show Steps p.tables e below (T30.setTop (mkF m 87 #[.val (.int p0), .val (.int (3 : Int32)), .val (.ref a_LESS), .val (.int (1 : Int32)), .val (.int (1 : Int32)), .val (.ref y_0), .val (.int (1 : Int32)), .unset] [(.int (1 : Int32))])) _
      refine XS.goto X30.here hx rfl (pc0 := 87) (pc' := 91) rfl (hb hby at_87) (by decide) (by decide) ?_
      show Steps p.tables e below (T30.setTop (mkF m 91 #[.val (.int p0), .val (.int (3 : Int32)), .val (.ref a_LESS), .val (.int (1 : Int32)), .val (.int (1 : Int32)), .val (.ref y_0), .val (.int (1 : Int32)), .unset] [(.int (1 : Int32))])) _
      refine XS.istore X30.here hx rfl (hb hby at_91) rfl (l' := #[.val (.int p0), .val (.int (3 : Int32)), .val (.ref a_LESS), .val (.int (1 : Int32)), .val (.int (1 : Int32)), .val (.ref y_0), .val (.int (1 : Int32)), .val (.int (1 : Int32))]) rfl ?_
      show Steps p.tables e below (T30.setTop (mkF m 93 #[.val (.int p0), .val (.int (3 : Int32)), .val (.ref a_LESS), .val (.int (1 : Int32)), .val (.int (1 : Int32)), .val (.ref y_0), .val (.int (1 : Int32)), .val (.int (1 : Int32))] [])) _
      refine XS.iloadN X30.here hx rfl (hb hby at_93) rfl ?_
      show Steps p.tables e below (T30.setTop (mkF m 94 #[.val (.int p0), .val (.int (3 : Int32)), .val (.ref a_LESS), .val (.int (1 : Int32)), .val (.int (1 : Int32)), .val (.ref y_0), .val (.int (1 : Int32)), .val (.int (1 : Int32))] [(.int (1 : Int32))])) _
      refine XS.iload X30.here hx rfl (hb hby at_94) rfl ?_
      exact kt
    refine own_via (A' := T30.setTop (mkF m 99 #[.val (.int p0), .val (.int (3 : Int32)), .val (.ref a_LESS), .val (.int (1 : Int32)), .val (.int (1 : Int32)), .val (.ref y_0), .val (.int (1 : Int32)), .val (.int (1 : Int32))] [])) (fun target kt => XS.icmpNo X30.here hx rfl (hb hby at_96) rfl (teq ((by decide) : (1 : Int32) = (1 : Int32))).2 kt) ?_
    refine own_via (A' := T30.setTop (mkF m 102 #[.val (.int p0), .val (.int (3 : Int32)), .val (.ref a_LESS), .val (.int (1 : Int32)), .val (.int (1 : Int32)), .val (.ref y_0), .val (.int (1 : Int32)), .val (.int (1 : Int32))] [(.int (1 : Int32)), (.int (1 : Int32))])) (fun target kt => ?_) ?_
    · show Steps p.tables e below (T30.setTop (mkF m 99 #[.val (.int p0), .val (.int (3 : Int32)), .val (.ref a_LESS), .val (.int (1 : Int32)), .val (.int (1 : Int32)), .val (.ref y_0), .val (.int (1 : Int32)), .val (.int (1 : Int32))] [])) _
      refine XS.iloadN X30.here hx rfl (hb hby at_99) rfl ?_
      show Steps p.tables e below (T30.setTop (mkF m 100 #[.val (.int p0), .val (.int (3 : Int32)), .val (.ref a_LESS), .val (.int (1 : Int32)), .val (.int (1 : Int32)), .val (.ref y_0), .val (.int (1 : Int32)), .val (.int (1 : Int32))] [(.int (1 : Int32))])) _
      refine XS.iload X30.here hx rfl (hb hby at_100) rfl ?_
      exact kt
    refine own_via (A' := T30.setTop (mkF m 105 #[.val (.int p0), .val (.int (3 : Int32)), .val (.ref a_LESS), .val (.int (1 : Int32)), .val (.int (1 : Int32)), .val (.ref y_0), .val (.int (1 : Int32)), .val (.int (1 : Int32))] [])) (fun target kt => XS.icmpNo X30.here hx rfl (hb hby at_102) rfl (teq ((by decide) : (1 : Int32) = (1 : Int32))).2 kt) ?_
    refine own_via (A' := T30.setTop (mkF m 108 #[.val (.int p0), .val (.int (3 : Int32)), .val (.ref a_LESS), .val (.int (1 : Int32)), .val (.int (1 : Int32)), .val (.ref y_0), .val (.int (1 : Int32)), .val (.int (1 : Int32))] [(.int (1 : Int32)), (.int (1 : Int32))])) (fun target kt => ?_) ?_
    · show Steps p.tables e below (T30.setTop (mkF m 105 #[.val (.int p0), .val (.int (3 : Int32)), .val (.ref a_LESS), .val (.int (1 : Int32)), .val (.int (1 : Int32)), .val (.ref y_0), .val (.int (1 : Int32)), .val (.int (1 : Int32))] [])) _
      refine XS.iloadN X30.here hx rfl (hb hby at_105) rfl ?_
      show Steps p.tables e below (T30.setTop (mkF m 106 #[.val (.int p0), .val (.int (3 : Int32)), .val (.ref a_LESS), .val (.int (1 : Int32)), .val (.int (1 : Int32)), .val (.ref y_0), .val (.int (1 : Int32)), .val (.int (1 : Int32))] [(.int (1 : Int32))])) _
      refine XS.iload X30.here hx rfl (hb hby at_106) rfl ?_
      exact kt
    refine own_via (A' := T30.setTop (mkF m 111 #[.val (.int p0), .val (.int (3 : Int32)), .val (.ref a_LESS), .val (.int (1 : Int32)), .val (.int (1 : Int32)), .val (.ref y_0), .val (.int (1 : Int32)), .val (.int (1 : Int32))] [])) (fun target kt => XS.icmpNo X30.here hx rfl (hb hby at_108) rfl (teq ((by decide) : (1 : Int32) = (1 : Int32))).2 kt) ?_
    refine own_via (A' := T30.setTop (mkF m 116 #[.val (.int p0), .val (.int (3 : Int32)), .val (.ref a_LESS), .val (.int (1 : Int32)), .val (.int (1 : Int32)), .val (.ref y_0), .val (.int (1 : Int32)), .val (.int (1 : Int32))] [(.int (1 : Int32))])) (fun target kt => ?_) ?_
    · show Steps p.tables e below (T30.setTop (mkF m 111 #[.val (.int p0), .val (.int (3 : Int32)), .val (.ref a_LESS), .val (.int (1 : Int32)), .val (.int (1 : Int32)), .val (.ref y_0), .val (.int (1 : Int32)), .val (.int (1 : Int32))] [])) _
      refine XS.iconst X30.here hx rfl (hb hby at_111) ?_
      show Steps p.tables e below (T30.setTop (mkF m 112 #[.val (.int p0), .val (.int (3 : Int32)), .val (.ref a_LESS), .val (.int (1 : Int32)), .val (.int (1 : Int32)), .val (.ref y_0), .val (.int (1 : Int32)), .val (.int (1 : Int32))] [(.int (1 : Int32))])) _
      refine XS.goto X30.here hx rfl (pc0 := 112) (pc' := 116) rfl (hb hby at_112) (by decide) (by decide) ?_
      exact kt
    exact own_retN X30 Bd.notSynchronized hx (t := .boolean) Bd.returns (by simp) (hb hby at_116) (show Q0 Z p0 a_EQUAL a_NOT_EQUAL a_LESS_OR_EQUAL a_LESS a_GREATER_OR_EQUAL a_GREATER vf wcs h0 n0 _ _ _ from ⟨rfl, N30⟩) (by decide) (by decide)
  · have K_0 := K_GREATER_OR_EQUAL
    obtain ⟨E_0, F_o, y_0, v_0, cl_0, z_0, F_s, E_s, F_v, F_c, Ar_0, hz_0, hz_1, hz_2, hin_0, hat_0⟩ := K_0
    refine own_via (A' := s₁.setTop (mkF m 9 #[.val (.int p0), .val (.int (4 : Int32)), .unset, .unset, .unset, .unset, .unset, .unset] [(.int (4 : Int32))])) (fun target kt => ?_) ?_
    · show Steps p.tables e below (s₁.setTop (mkF m 8 #[.val (.int p0), .val (.int (4 : Int32)), .unset, .unset, .unset, .unset, .unset, .unset] [])) _
      refine XS.iloadN X0.here hx rfl (hb hby at_8) rfl ?_
      exact kt
    obtain ⟨_, _, ⟨T31, L31, k31, n31⟩, -, X31, ⟨Lc31, hQ31, l31, y31, z31⟩, st31⟩ := Jvm.LawKit.callS X0 hx (y := (⟨"com/example/resultree/resultree/xpath/ComparisonIsOrderingPinLaw", "pick", "(I)Lcom/example/resultree/resultree/xpath/Comparison;"⟩ : MethodName)) hown (mvT hZ (hw _ (List.mem_of_getElem? (i := 1) rfl))) (mvT hZ (hw _ (List.mem_of_getElem? (i := 2) rfl))) (mvT hZ (hw _ (List.mem_of_getElem? (i := 3) rfl))) (mvT hZ (hw _ (List.mem_of_getElem? (i := 4) rfl))) (by decide) (backOf (W := 0) (rm1 l Z a0 hw [] (4 : Int32) a_EQUAL a_NOT_EQUAL a_LESS_OR_EQUAL a_LESS a_GREATER_OR_EQUAL a_GREATER h0 n0 Z0 S_EQUAL S_NOT_EQUAL S_LESS_OR_EQUAL S_LESS S_GREATER_OR_EQUAL S_GREATER) hZ (hw _ (List.mem_of_getElem? (i := 4) rfl)) (hw _ (List.mem_of_getElem? (i := 3) rfl)) (by decide) (by decide)) (g := (mkF m 9 #[.val (.int p0), .val (.int (4 : Int32)), .unset, .unset, .unset, .unset, .unset, .unset] [(.int (4 : Int32))])) rfl (by rw [hml]; rfl) (argsL := [(.int (4 : Int32))]) (rest := []) (lenOf pd_0_0 rfl) rfl (by show 2 * 0 + _ ≤ _; exact Nat.le_of_eq rfl) (hb hby at_9) (fun _ _ => ⟨rfl, e0, (by decide : 0 + 0 ≤ _), (by decide : 0 + 0 ≤ _)⟩)
    dsimp only [Pt.U, Pt.locs, Pt.cells, Pt.slots] at X31 l31 y31 z31 st31 hQ31
    subst l31 y31 z31
    obtain ⟨hv31, N31q, e31⟩ := hQ31
    rw [show own_pick (4 : Int32) a_EQUAL a_NOT_EQUAL a_LESS_OR_EQUAL a_LESS a_GREATER_OR_EQUAL a_GREATER = a_GREATER_OR_EQUAL from by simp [own_pick]] at hv31
    subst hv31
    have N31 := Fr.app N0 N31q
    refine own_via (A' := T31.setTop (mkF m 12 #[.val (.int p0), .val (.int (4 : Int32)), .unset, .unset, .unset, .unset, .unset, .unset] [(.ref a_GREATER_OR_EQUAL)])) st31 ?_
    refine own_via (A' := T31.setTop (mkF m 14 #[.val (.int p0), .val (.int (4 : Int32)), .val (.ref a_GREATER_OR_EQUAL), .unset, .unset, .unset, .unset, .unset] [(.ref a_GREATER_OR_EQUAL)])) (fun target kt => ?_) ?_
    · show Steps p.tables e below (T31.setTop (mkF m 12 #[.val (.int p0), .val (.int (4 : Int32)), .unset, .unset, .unset, .unset, .unset, .unset] [(.ref a_GREATER_OR_EQUAL)])) _
      refine XS.astoreN X31.here hx rfl (hb hby at_12) rfl rfl (l' := #[.val (.int p0), .val (.int (4 : Int32)), .val (.ref a_GREATER_OR_EQUAL), .unset, .unset, .unset, .unset, .unset]) rfl ?_
      show Steps p.tables e below (T31.setTop (mkF m 13 #[.val (.int p0), .val (.int (4 : Int32)), .val (.ref a_GREATER_OR_EQUAL), .unset, .unset, .unset, .unset, .unset] [])) _
      refine XS.aloadN X31.here hx rfl (hb hby at_13) rfl rfl ?_
      exact kt
    obtain ⟨cq32, kq32, q32a, q32b, q32c⟩ := isOf hZ e31 E_0
    obtain ⟨_, _, ⟨T32, L32, k32, n32⟩, -, X32, ⟨Lc32, hQ32, l32, y32, z32⟩, st32⟩ := X31.virtualBack hx (y := (⟨"com/example/resultree/resultree/xpath/Comparison", "isOrdering", "()Z"⟩ : MethodName)) (z := (⟨"com/example/resultree/resultree/xpath/Comparison", "isOrdering", "()Z"⟩ : MethodName)) hown (mvT hZ (hw _ (List.mem_of_getElem? (i := 8) rfl))) (mvT hZ (hw _ (List.mem_of_getElem? (i := 9) rfl))) (notFace_of_selects (args := #[]) (mvT hZ (hw _ (List.mem_of_getElem? (i := 11) rfl)))) (mvT hZ (hw _ (List.mem_of_getElem? (i := 11) rfl))) (mvT hZ (hw _ (List.mem_of_getElem? (i := 10) rfl))) (by decide) (backOf (W := 0) (rm2 l Z a0 hw [] a_GREATER_OR_EQUAL a_EQUAL a_NOT_EQUAL h0 n0 Z0 S_EQUAL S_NOT_EQUAL) hZ (hw _ (List.mem_of_getElem? (i := 12) rfl)) (hw _ (List.mem_of_getElem? (i := 6) rfl)) (by decide) (by decide)) q32a q32c (g := (mkF m 14 #[.val (.int p0), .val (.int (4 : Int32)), .val (.ref a_GREATER_OR_EQUAL), .unset, .unset, .unset, .unset, .unset] [(.ref a_GREATER_OR_EQUAL)])) rfl (by rw [hml]; rfl) (Steps.refl _) (argsL := []) (rest := []) (lenOf pd_0_1 rfl) rfl (by show 2 * 0 + _ ≤ _; exact Nat.le_of_eq rfl) (hb hby at_14) (fun _ _ => ⟨rfl, e31, (by decide : 0 + 0 ≤ _), (by decide : 0 + 0 ≤ _)⟩)
    dsimp only [Pt.U, Pt.locs, Pt.cells, Pt.slots] at X32 l32 y32 z32 st32 hQ32
    subst l32 y32 z32
    obtain ⟨hv32, N32q, e32⟩ := hQ32
    rw [show own_isord a_GREATER_OR_EQUAL a_EQUAL a_NOT_EQUAL = (1 : Int32) from by simp [own_isord, own_ne K_GREATER_OR_EQUAL K_EQUAL (by decide), own_ne K_GREATER_OR_EQUAL K_NOT_EQUAL (by decide)]] at hv32
    subst hv32
    have N32 := Fr.app N31 N32q
    refine own_via (A' := T32.setTop (mkF m 17 #[.val (.int p0), .val (.int (4 : Int32)), .val (.ref a_GREATER_OR_EQUAL), .unset, .unset, .unset, .unset, .unset] [(.int (1 : Int32))])) (fun _ kt => st32.trans kt) ?_
    refine own_via (A' := T32.setTop (mkF m 20 #[.val (.int p0), .val (.int (4 : Int32)), .val (.ref a_GREATER_OR_EQUAL), .val (.int (1 : Int32)), .unset, .unset, .unset, .unset] [(.int (1 : Int32)), (.ref a_GREATER_OR_EQUAL)])) (fun target kt => ?_) ?_
    · show Steps p.tables e below (T32.setTop (mkF m 17 #[.val (.int p0), .val (.int (4 : Int32)), .val (.ref a_GREATER_OR_EQUAL), .unset, .unset, .unset, .unset, .unset] [(.int (1 : Int32))])) _
      refine XS.istoreN X32.here hx rfl (hb hby at_17) rfl (l' := #[.val (.int p0), .val (.int (4 : Int32)), .val (.ref a_GREATER_OR_EQUAL), .val (.int (1 : Int32)), .unset, .unset, .unset, .unset]) rfl ?_
      show Steps p.tables e below (T32.setTop (mkF m 18 #[.val (.int p0), .val (.int (4 : Int32)), .val (.ref a_GREATER_OR_EQUAL), .val (.int (1 : Int32)), .unset, .unset, .unset, .unset] [])) _
      refine XS.aloadN X32.here hx rfl (hb hby at_18) rfl rfl ?_
      show Steps p.tables e below (T32.setTop (mkF m 19 #[.val (.int p0), .val (.int (4 : Int32)), .val (.ref a_GREATER_OR_EQUAL), .val (.int (1 : Int32)), .unset, .unset, .unset, .unset] [(.ref a_GREATER_OR_EQUAL)])) _
      refine XS.iconst X32.here hx rfl (hb hby at_19) ?_
      exact kt
    obtain ⟨cq33, kq33, q33a, q33b, q33c⟩ := isOf hZ e32 E_0
    obtain ⟨_, _, ⟨T33, L33, k33, n33⟩, -, X33, ⟨Lc33, hQ33, l33, y33, z33⟩, st33⟩ := X32.virtualBack hx (y := (⟨"com/example/resultree/resultree/xpath/Comparison", "holds", "(I)Z"⟩ : MethodName)) (z := (⟨"com/example/resultree/resultree/xpath/Comparison", "holds", "(I)Z"⟩ : MethodName)) hown (mvT hZ (hw _ (List.mem_of_getElem? (i := 14) rfl))) (mvT hZ (hw _ (List.mem_of_getElem? (i := 15) rfl))) (notFace_of_selects (args := #[]) (mvT hZ (hw _ (List.mem_of_getElem? (i := 17) rfl)))) (mvT hZ (hw _ (List.mem_of_getElem? (i := 17) rfl))) (mvT hZ (hw _ (List.mem_of_getElem? (i := 16) rfl))) (by decide) (backOf (W := 0) (rm3 l Z a0 hw [] a_GREATER_OR_EQUAL (1 : Int32) (4 : Int32) h0 n0 Z0 (Or.inr (Or.inr (Or.inr (Or.inr (Or.inl rfl))))) E_0 F_o) hZ (hw _ (List.mem_of_getElem? (i := 18) rfl)) (hw _ (List.mem_of_getElem? (i := 6) rfl)) (by decide) (by decide)) q33a q33c (g := (mkF m 20 #[.val (.int p0), .val (.int (4 : Int32)), .val (.ref a_GREATER_OR_EQUAL), .val (.int (1 : Int32)), .unset, .unset, .unset, .unset] [(.int (1 : Int32)), (.ref a_GREATER_OR_EQUAL)])) rfl (by rw [hml]; rfl) (Steps.refl _) (argsL := [(.int (1 : Int32))]) (rest := []) (lenOf pd_0_2 rfl) rfl (by show 2 * 0 + _ ≤ _; exact Nat.le_of_eq rfl) (hb hby at_20) (fun _ _ => ⟨rfl, e32, (by decide : 0 + 0 ≤ _), (by decide : 0 + 0 ≤ _)⟩)
    dsimp only [Pt.U, Pt.locs, Pt.cells, Pt.slots] at X33 l33 y33 z33 st33 hQ33
    subst l33 y33 z33
    obtain ⟨hv33, N33q, e33⟩ := hQ33
    rw [show own_hold (4 : Int32) (1 : Int32) = (1 : Int32) from by decide] at hv33
    subst hv33
    have N33 := Fr.app N32 N33q
    refine own_via (A' := T33.setTop (mkF m 23 #[.val (.int p0), .val (.int (4 : Int32)), .val (.ref a_GREATER_OR_EQUAL), .val (.int (1 : Int32)), .unset, .unset, .unset, .unset] [(.int (1 : Int32))])) (fun _ kt => st33.trans kt) ?_
    refine own_via (A' := T33.setTop (mkF m 25 #[.val (.int p0), .val (.int (4 : Int32)), .val (.ref a_GREATER_OR_EQUAL), .val (.int (1 : Int32)), .unset, .unset, .unset, .unset] [(.int (-1 : Int32)), (.ref a_GREATER_OR_EQUAL), (.int (1 : Int32))])) (fun target kt => ?_) ?_
    · show Steps p.tables e below (T33.setTop (mkF m 23 #[.val (.int p0), .val (.int (4 : Int32)), .val (.ref a_GREATER_OR_EQUAL), .val (.int (1 : Int32)), .unset, .unset, .unset, .unset] [(.int (1 : Int32))])) _
      refine XS.aloadN X33.here hx rfl (hb hby at_23) rfl rfl ?_
      show Steps p.tables e below (T33.setTop (mkF m 24 #[.val (.int p0), .val (.int (4 : Int32)), .val (.ref a_GREATER_OR_EQUAL), .val (.int (1 : Int32)), .unset, .unset, .unset, .unset] [(.ref a_GREATER_OR_EQUAL), (.int (1 : Int32))])) _
      refine XS.iconst X33.here hx rfl (hb hby at_24) ?_
      exact kt
    obtain ⟨cq34, kq34, q34a, q34b, q34c⟩ := isOf hZ e33 E_0
    obtain ⟨_, _, ⟨T34, L34, k34, n34⟩, -, X34, ⟨Lc34, hQ34, l34, y34, z34⟩, st34⟩ := X33.virtualBack hx (y := (⟨"com/example/resultree/resultree/xpath/Comparison", "holds", "(I)Z"⟩ : MethodName)) (z := (⟨"com/example/resultree/resultree/xpath/Comparison", "holds", "(I)Z"⟩ : MethodName)) hown (mvT hZ (hw _ (List.mem_of_getElem? (i := 14) rfl))) (mvT hZ (hw _ (List.mem_of_getElem? (i := 15) rfl))) (notFace_of_selects (args := #[]) (mvT hZ (hw _ (List.mem_of_getElem? (i := 17) rfl)))) (mvT hZ (hw _ (List.mem_of_getElem? (i := 17) rfl))) (mvT hZ (hw _ (List.mem_of_getElem? (i := 16) rfl))) (by decide) (backOf (W := 1) (rm3 l Z a0 hw [] a_GREATER_OR_EQUAL (-1 : Int32) (4 : Int32) h0 n0 Z0 (Or.inr (Or.inr (Or.inr (Or.inr (Or.inl rfl))))) E_0 F_o) hZ (hw _ (List.mem_of_getElem? (i := 18) rfl)) (hw _ (List.mem_of_getElem? (i := 6) rfl)) (by decide) (by decide)) q34a q34c (g := (mkF m 25 #[.val (.int p0), .val (.int (4 : Int32)), .val (.ref a_GREATER_OR_EQUAL), .val (.int (1 : Int32)), .unset, .unset, .unset, .unset] [(.int (-1 : Int32)), (.ref a_GREATER_OR_EQUAL), (.int (1 : Int32))])) rfl (by rw [hml]; rfl) (Steps.refl _) (argsL := [(.int (-1 : Int32))]) (rest := [(.int (1 : Int32))]) (lenOf pd_0_2 rfl) rfl (by show 2 * 0 + _ ≤ _; exact Nat.le_of_eq rfl) (hb hby at_25) (fun _ _ => ⟨rfl, e33, (by decide : 0 + 0 ≤ _), (by decide : 0 + 0 ≤ _)⟩)
    dsimp only [Pt.U, Pt.locs, Pt.cells, Pt.slots] at X34 l34 y34 z34 st34 hQ34
    subst l34 y34 z34
    obtain ⟨hv34, N34q, e34⟩ := hQ34
    rw [show own_hold (4 : Int32) (-1 : Int32) = (0 : Int32) from by decide] at hv34
    subst hv34
    have N34 := Fr.app N33 N34q
    refine own_via (A' := T34.setTop (mkF m 28 #[.val (.int p0), .val (.int (4 : Int32)), .val (.ref a_GREATER_OR_EQUAL), .val (.int (1 : Int32)), .unset, .unset, .unset, .unset] [(.int (0 : Int32)), (.int (1 : Int32))])) (fun _ kt => st34.trans kt) ?_
    refine own_via (A' := T34.setTop (mkF m 31 #[.val (.int p0), .val (.int (4 : Int32)), .val (.ref a_GREATER_OR_EQUAL), .val (.int (1 : Int32)), .unset, .unset, .unset, .unset] [])) (fun target kt => XS.icmpNo X34.here hx rfl (hb hby at_28) rfl (feq ((by decide) : ¬ ((1 : Int32) = (0 : Int32)))).1 kt) ?_
    refine own_via (A' := T34.setTop (mkF m 39 #[.val (.int p0), .val (.int (4 : Int32)), .val (.ref a_GREATER_OR_EQUAL), .val (.int (1 : Int32)), .val (.int (1 : Int32)), .unset, .unset, .unset] [(.ref a_GREATER_OR_EQUAL)])) (fun target kt => ?_) ?_
    · show Steps p.tables e below (T34.setTop (mkF m 31 #[.val (.int p0), .val (.int (4 : Int32)), .val (.ref a_GREATER_OR_EQUAL), .val (.int (1 : Int32)), .unset, .unset, .unset, .unset] [])) _
      refine XS.iconst X34.here hx rfl (hb hby at_31) ?_
      show Steps p.tables e below (T34.setTop (mkF m 32 #[.val (.int p0), .val (.int (4 : Int32)), .val (.ref a_GREATER_OR_EQUAL), .val (.int (1 : Int32)), .unset, .unset, .unset, .unset] [(.int (1 : Int32))])) _
      refine XS.goto X34.here hx rfl (pc0 := 32) (pc' := 36) rfl (hb hby at_32) (by decide) (by decide) ?_
      show Steps p.tables e below (T34.setTop (mkF m 36 #[.val (.int p0), .val (.int (4 : Int32)), .val (.ref a_GREATER_OR_EQUAL), .val (.int (1 : Int32)), .unset, .unset, .unset, .unset] [(.int (1 : Int32))])) _
      refine XS.istore X34.here hx rfl (hb hby at_36) rfl (l' := #[.val (.int p0), .val (.int (4 : Int32)), .val (.ref a_GREATER_OR_EQUAL), .val (.int (1 : Int32)), .val (.int (1 : Int32)), .unset, .unset, .unset]) rfl ?_
      show Steps p.tables e below (T34.setTop (mkF m 38 #[.val (.int p0), .val (.int (4 : Int32)), .val (.ref a_GREATER_OR_EQUAL), .val (.int (1 : Int32)), .val (.int (1 : Int32)), .unset, .unset, .unset] [])) _
      refine XS.aloadN X34.here hx rfl (hb hby at_38) rfl rfl ?_
      exact kt
    obtain ⟨cq35, kq35, q35a, q35b, q35c⟩ := isOf hZ e34 E_0
    obtain ⟨_, _, ⟨T35, L35, k35, n35⟩, -, X35, ⟨Lc35, hQ35, l35, y35, z35⟩, st35⟩ := X34.virtualBack hx (y := (⟨"com/example/resultree/resultree/xpath/Comparison", "symbol", "()Ljava/lang/String;"⟩ : MethodName)) (z := (⟨"com/example/resultree/resultree/xpath/Comparison", "symbol", "()Ljava/lang/String;"⟩ : MethodName)) hown (mvT hZ (hw _ (List.mem_of_getElem? (i := 28) rfl))) (mvT hZ (hw _ (List.mem_of_getElem? (i := 29) rfl))) (notFace_of_selects (args := #[]) (mvT hZ (hw _ (List.mem_of_getElem? (i := 31) rfl)))) (mvT hZ (hw _ (List.mem_of_getElem? (i := 31) rfl))) (mvT hZ (hw _ (List.mem_of_getElem? (i := 30) rfl))) (by decide) (backOf (W := 0) (rm5 l Z a0 hw [] a_GREATER_OR_EQUAL y_0 h0 n0 Z0 F_s) hZ (hw _ (List.mem_of_getElem? (i := 32) rfl)) (hw _ (List.mem_of_getElem? (i := 6) rfl)) (by decide) (by decide)) q35a q35c (g := (mkF m 39 #[.val (.int p0), .val (.int (4 : Int32)), .val (.ref a_GREATER_OR_EQUAL), .val (.int (1 : Int32)), .val (.int (1 : Int32)), .unset, .unset, .unset] [(.ref a_GREATER_OR_EQUAL)])) rfl (by rw [hml]; rfl) (Steps.refl _) (argsL := []) (rest := []) (lenOf pd_0_3 rfl) rfl (by show 2 * 0 + _ ≤ _; exact Nat.le_of_eq rfl) (hb hby at_39) (fun _ _ => ⟨rfl, e34, (by decide : 0 + 0 ≤ _), (by decide : 0 + 0 ≤ _)⟩)
    dsimp only [Pt.U, Pt.locs, Pt.cells, Pt.slots] at X35 l35 y35 z35 st35 hQ35
    subst l35 y35 z35
    obtain ⟨rfl, N35q, e35⟩ := hQ35
    have N35 := Fr.app N34 N35q
    refine own_via (A' := T35.setTop (mkF m 42 #[.val (.int p0), .val (.int (4 : Int32)), .val (.ref a_GREATER_OR_EQUAL), .val (.int (1 : Int32)), .val (.int (1 : Int32)), .unset, .unset, .unset] [(.ref y_0)])) (fun _ kt => st35.trans kt) ?_
    refine own_via (A' := T35.setTop (mkF m 46 #[.val (.int p0), .val (.int (4 : Int32)), .val (.ref a_GREATER_OR_EQUAL), .val (.int (1 : Int32)), .val (.int (1 : Int32)), .val (.ref y_0), .unset, .unset] [(.ref y_0)])) (fun target kt => ?_) ?_
    · show Steps p.tables e below (T35.setTop (mkF m 42 #[.val (.int p0), .val (.int (4 : Int32)), .val (.ref a_GREATER_OR_EQUAL), .val (.int (1 : Int32)), .val (.int (1 : Int32)), .unset, .unset, .unset] [(.ref y_0)])) _
      refine XS.astore X35.here hx rfl (hb hby at_42) rfl rfl (l' := #[.val (.int p0), .val (.int (4 : Int32)), .val (.ref a_GREATER_OR_EQUAL), .val (.int (1 : Int32)), .val (.int (1 : Int32)), .val (.ref y_0), .unset, .unset]) rfl ?_
      show Steps p.tables e below (T35.setTop (mkF m 44 #[.val (.int p0), .val (.int (4 : Int32)), .val (.ref a_GREATER_OR_EQUAL), .val (.int (1 : Int32)), .val (.int (1 : Int32)), .val (.ref y_0), .unset, .unset] [])) _
      refine XS.aload X35.here hx rfl (hb hby at_44) rfl rfl ?_
      exact kt
    obtain ⟨cq36, kq36, q36a, q36b, q36c⟩ := isOf hZ e35 E_s
    obtain ⟨_, _, ⟨T36, L36, k36, n36⟩, -, X36, ⟨Lc36, hQ36, l36, y36, z36⟩, st36⟩ := X35.virtualBack hx (y := (⟨"java/lang/String", "isEmpty", "()Z"⟩ : MethodName)) (z := (⟨"java/lang/String", "isEmpty", "()Z"⟩ : MethodName)) hown (mvT hZ (hw _ (List.mem_of_getElem? (i := 35) rfl))) (mvT hZ (hw _ (List.mem_of_getElem? (i := 36) rfl))) (notFace_of_selects (args := #[]) (mvT hZ (hw _ (List.mem_of_getElem? (i := 38) rfl)))) (mvT hZ (hw _ (List.mem_of_getElem? (i := 38) rfl))) (mvT hZ (hw _ (List.mem_of_getElem? (i := 37) rfl))) (by decide) (backOf (W := 0) (rm6 l Z a0 hw [] y_0 v_0 cl_0 z_0 h0 n0 Z0 F_v Ar_0 hz_0 hz_1) hZ (hw _ (List.mem_of_getElem? (i := 40) rfl)) (hw _ (List.mem_of_getElem? (i := 39) rfl)) (by decide) (by decide)) q36a q36c (g := (mkF m 46 #[.val (.int p0), .val (.int (4 : Int32)), .val (.ref a_GREATER_OR_EQUAL), .val (.int (1 : Int32)), .val (.int (1 : Int32)), .val (.ref y_0), .unset, .unset] [(.ref y_0)])) rfl (by rw [hml]; rfl) (Steps.refl _) (argsL := []) (rest := []) (lenOf pd_0_1 rfl) rfl (by show 2 * 0 + _ ≤ _; exact Nat.le_of_eq rfl) (hb hby at_46) (fun _ _ => ⟨rfl, e35, (by decide : 0 + 0 ≤ _), (by decide : 0 + 0 ≤ _)⟩)
    dsimp only [Pt.U, Pt.locs, Pt.cells, Pt.slots] at X36 l36 y36 z36 st36 hQ36
    subst l36 y36 z36
    obtain ⟨rfl, N36q, e36⟩ := hQ36
    have N36 := Fr.app N35 N36q
    refine own_via (A' := T36.setTop (mkF m 49 #[.val (.int p0), .val (.int (4 : Int32)), .val (.ref a_GREATER_OR_EQUAL), .val (.int (1 : Int32)), .val (.int (1 : Int32)), .val (.ref y_0), .unset, .unset] [(.int (0 : Int32))])) (fun _ kt => st36.trans kt) ?_
    refine own_via (A' := T36.setTop (mkF m 52 #[.val (.int p0), .val (.int (4 : Int32)), .val (.ref a_GREATER_OR_EQUAL), .val (.int (1 : Int32)), .val (.int (1 : Int32)), .val (.ref y_0), .unset, .unset] [])) (fun target kt => XS.ifNo X36.here hx rfl (hb hby at_49) rfl ((if0 _ _).trans (teq ((by decide) : (0 : Int32) = (0 : Int32))).2) kt) ?_
    refine own_via (A' := T36.setTop (mkF m 55 #[.val (.int p0), .val (.int (4 : Int32)), .val (.ref a_GREATER_OR_EQUAL), .val (.int (1 : Int32)), .val (.int (1 : Int32)), .val (.ref y_0), .unset, .unset] [(.int (0 : Int32)), (.ref y_0)])) (fun target kt => ?_) ?_
    · show Steps p.tables e below (T36.setTop (mkF m 52 #[.val (.int p0), .val (.int (4 : Int32)), .val (.ref a_GREATER_OR_EQUAL), .val (.int (1 : Int32)), .val (.int (1 : Int32)), .val (.ref y_0), .unset, .unset] [])) _
      refine XS.aload X36.here hx rfl (hb hby at_52) rfl rfl ?_
      show Steps p.tables e below (T36.setTop (mkF m 54 #[.val (.int p0), .val (.int (4 : Int32)), .val (.ref a_GREATER_OR_EQUAL), .val (.int (1 : Int32)), .val (.int (1 : Int32)), .val (.ref y_0), .unset, .unset] [(.ref y_0)])) _
      refine XS.iconst X36.here hx rfl (hb hby at_54) ?_
      exact kt
    obtain ⟨cq37, kq37, q37a, q37b, q37c⟩ := isOf hZ e36 E_s
    obtain ⟨_, _, ⟨T37, L37, k37, n37⟩, -, X37, ⟨Lc37, hQ37, l37, y37, z37⟩, st37⟩ := X36.virtualBack hx (y := (⟨"java/lang/String", "charAt", "(I)C"⟩ : MethodName)) (z := (⟨"java/lang/String", "charAt", "(I)C"⟩ : MethodName)) hown (mvT hZ (hw _ (List.mem_of_getElem? (i := 43) rfl))) (mvT hZ (hw _ (List.mem_of_getElem? (i := 44) rfl))) (notFace_of_selects (args := #[]) (mvT hZ (hw _ (List.mem_of_getElem? (i := 46) rfl)))) (mvT hZ (hw _ (List.mem_of_getElem? (i := 46) rfl))) (mvT hZ (hw _ (List.mem_of_getElem? (i := 45) rfl))) (by decide) (backOf (W := 0) (rm7 l Z a0 hw [] y_0 (0 : Int32) v_0 cl_0 z_0 (62 : Int32) vf wcs h0 n0 Z0 E_s F_v F_c Ar_0 hz_0 (by decide) hz_2 hin_0 hat_0 S_FM hv_vf S_CS hcs) hZ (hw _ (List.mem_of_getElem? (i := 47) rfl)) (hw _ (List.mem_of_getElem? (i := 39) rfl)) (by decide) (by decide)) q37a q37c (g := (mkF m 55 #[.val (.int p0), .val (.int (4 : Int32)), .val (.ref a_GREATER_OR_EQUAL), .val (.int (1 : Int32)), .val (.int (1 : Int32)), .val (.ref y_0), .unset, .unset] [(.int (0 : Int32)), (.ref y_0)])) rfl (by rw [hml]; rfl) (Steps.refl _) (argsL := [(.int (0 : Int32))]) (rest := []) (lenOf pd_0_4 rfl) rfl (by show 2 * 0 + _ ≤ _; exact Nat.le_of_eq rfl) (hb hby at_55) (fun _ _ => ⟨rfl, e36, (by decide : 0 + 0 ≤ _), (by decide : 0 + 0 ≤ _)⟩)
    dsimp only [Pt.U, Pt.locs, Pt.cells, Pt.slots] at X37 l37 y37 z37 st37 hQ37
    subst l37 y37 z37
    obtain ⟨hv37, N37q, e37⟩ := hQ37
    rw [show nar .char (own_lc (62 : Int32)) = (62 : Int32) from by decide] at hv37
    subst hv37
    have N37 := Fr.app N36 N37q
    refine own_via (A' := T37.setTop (mkF m 58 #[.val (.int p0), .val (.int (4 : Int32)), .val (.ref a_GREATER_OR_EQUAL), .val (.int (1 : Int32)), .val (.int (1 : Int32)), .val (.ref y_0), .unset, .unset] [(.int (62 : Int32))])) (fun _ kt => st37.trans kt) ?_
    refine own_via (A' := T37.setTop (mkF m 60 #[.val (.int p0), .val (.int (4 : Int32)), .val (.ref a_GREATER_OR_EQUAL), .val (.int (1 : Int32)), .val (.int (1 : Int32)), .val (.ref y_0), .unset, .unset] [(.int (60 : Int32)), (.int (62 : Int32))])) (fun target kt => ?_) ?_
    · show Steps p.tables e below (T37.setTop (mkF m 58 #[.val (.int p0), .val (.int (4 : Int32)), .val (.ref a_GREATER_OR_EQUAL), .val (.int (1 : Int32)), .val (.int (1 : Int32)), .val (.ref y_0), .unset, .unset] [(.int (62 : Int32))])) _
      refine XS.bipush X37.here hx rfl (hb hby at_58) ?_
      exact kt
    refine own_via (A' := T37.setTop (mkF m 63 #[.val (.int p0), .val (.int (4 : Int32)), .val (.ref a_GREATER_OR_EQUAL), .val (.int (1 : Int32)), .val (.int (1 : Int32)), .val (.ref y_0), .unset, .unset] [])) (fun target kt => XS.icmpNo X37.here hx rfl (hb hby at_60) rfl (feq ((by decide) : ¬ ((62 : Int32) = (60 : Int32)))).1 kt) ?_
    refine own_via (A' := T37.setTop (mkF m 66 #[.val (.int p0), .val (.int (4 : Int32)), .val (.ref a_GREATER_OR_EQUAL), .val (.int (1 : Int32)), .val (.int (1 : Int32)), .val (.ref y_0), .unset, .unset] [(.int (0 : Int32)), (.ref y_0)])) (fun target kt => ?_) ?_
    · show Steps p.tables e below (T37.setTop (mkF m 63 #[.val (.int p0), .val (.int (4 : Int32)), .val (.ref a_GREATER_OR_EQUAL), .val (.int (1 : Int32)), .val (.int (1 : Int32)), .val (.ref y_0), .unset, .unset] [])) _
      refine XS.aload X37.here hx rfl (hb hby at_63) rfl rfl ?_
      show Steps p.tables e below (T37.setTop (mkF m 65 #[.val (.int p0), .val (.int (4 : Int32)), .val (.ref a_GREATER_OR_EQUAL), .val (.int (1 : Int32)), .val (.int (1 : Int32)), .val (.ref y_0), .unset, .unset] [(.ref y_0)])) _
      refine XS.iconst X37.here hx rfl (hb hby at_65) ?_
      exact kt
    obtain ⟨cq38, kq38, q38a, q38b, q38c⟩ := isOf hZ e37 E_s
    obtain ⟨_, _, ⟨T38, L38, k38, n38⟩, -, X38, ⟨Lc38, hQ38, l38, y38, z38⟩, st38⟩ := X37.virtualBack hx (y := (⟨"java/lang/String", "charAt", "(I)C"⟩ : MethodName)) (z := (⟨"java/lang/String", "charAt", "(I)C"⟩ : MethodName)) hown (mvT hZ (hw _ (List.mem_of_getElem? (i := 43) rfl))) (mvT hZ (hw _ (List.mem_of_getElem? (i := 44) rfl))) (notFace_of_selects (args := #[]) (mvT hZ (hw _ (List.mem_of_getElem? (i := 46) rfl)))) (mvT hZ (hw _ (List.mem_of_getElem? (i := 46) rfl))) (mvT hZ (hw _ (List.mem_of_getElem? (i := 45) rfl))) (by decide) (backOf (W := 0) (rm7 l Z a0 hw [] y_0 (0 : Int32) v_0 cl_0 z_0 (62 : Int32) vf wcs h0 n0 Z0 E_s F_v F_c Ar_0 hz_0 (by decide) hz_2 hin_0 hat_0 S_FM hv_vf S_CS hcs) hZ (hw _ (List.mem_of_getElem? (i := 47) rfl)) (hw _ (List.mem_of_getElem? (i := 39) rfl)) (by decide) (by decide)) q38a q38c (g := (mkF m 66 #[.val (.int p0), .val (.int (4 : Int32)), .val (.ref a_GREATER_OR_EQUAL), .val (.int (1 : Int32)), .val (.int (1 : Int32)), .val (.ref y_0), .unset, .unset] [(.int (0 : Int32)), (.ref y_0)])) rfl (by rw [hml]; rfl) (Steps.refl _) (argsL := [(.int (0 : Int32))]) (rest := []) (lenOf pd_0_4 rfl) rfl (by show 2 * 0 + _ ≤ _; exact Nat.le_of_eq rfl) (hb hby at_66) (fun _ _ => ⟨rfl, e37, (by decide : 0 + 0 ≤ _), (by decide : 0 + 0 ≤ _)⟩)
    dsimp only [Pt.U, Pt.locs, Pt.cells, Pt.slots] at X38 l38 y38 z38 st38 hQ38
    subst l38 y38 z38
    obtain ⟨hv38, N38q, e38⟩ := hQ38
    rw [show nar .char (own_lc (62 : Int32)) = (62 : Int32) from by decide] at hv38
    subst hv38
    have N38 := Fr.app N37 N38q
    refine own_via (A' := T38.setTop (mkF m 69 #[.val (.int p0), .val (.int (4 : Int32)), .val (.ref a_GREATER_OR_EQUAL), .val (.int (1 : Int32)), .val (.int (1 : Int32)), .val (.ref y_0), .unset, .unset] [(.int (62 : Int32))])) (fun _ kt => st38.trans kt) ?_
    refine own_via (A' := T38.setTop (mkF m 71 #[.val (.int p0), .val (.int (4 : Int32)), .val (.ref a_GREATER_OR_EQUAL), .val (.int (1 : Int32)), .val (.int (1 : Int32)), .val (.ref y_0), .unset, .unset] [(.int (62 : Int32)), (.int (62 : Int32))])) (fun target kt => ?_) ?_
    · show Steps p.tables e below (T38.setTop (mkF m 69 #[.val (.int p0), .val (.int (4 : Int32)), .val (.ref a_GREATER_OR_EQUAL), .val (.int (1 : Int32)), .val (.int (1 : Int32)), .val (.ref y_0), .unset, .unset] [(.int (62 : Int32))])) _
      refine XS.bipush X38.here hx rfl (hb hby at_69) ?_
      exact kt
    refine own_via (A' := T38.setTop (mkF m 74 #[.val (.int p0), .val (.int (4 : Int32)), .val (.ref a_GREATER_OR_EQUAL), .val (.int (1 : Int32)), .val (.int (1 : Int32)), .val (.ref y_0), .unset, .unset] [])) (fun target kt => XS.icmpNo X38.here hx rfl (hb hby at_71) rfl (teq ((by decide) : (62 : Int32) = (62 : Int32))).2 kt) ?_
    refine own_via (A' := T38.setTop (mkF m 83 #[.val (.int p0), .val (.int (4 : Int32)), .val (.ref a_GREATER_OR_EQUAL), .val (.int (1 : Int32)), .val (.int (1 : Int32)), .val (.ref y_0), .val (.int (1 : Int32)), .unset] [(.int (2 : Int32)), (.int (4 : Int32))])) (fun target kt => ?_) ?_
    · show Steps p.tables e below (T38.setTop (mkF m 74 #[.val (.int p0), .val (.int (4 : Int32)), .val (.ref a_GREATER_OR_EQUAL), .val (.int (1 : Int32)), .val (.int (1 : Int32)), .val (.ref y_0), .unset, .unset] [])) _
      refine XS.iconst X38.here hx rfl (hb hby at_74) ?_
      show Steps p.tables e below (T38.setTop (mkF m 75 #[.val (.int p0), .val (.int (4 : Int32)), .val (.ref a_GREATER_OR_EQUAL), .val (.int (1 : Int32)), .val (.int (1 : Int32)), .val (.ref y_0), .unset, .unset] [(.int (1 : Int32))])) _
      refine XS.goto X38.here hx rfl (pc0 := 75) (pc' := 79) rfl (hb hby at_75) (by decide) (by decide) ?_
      show Steps p.tables e below (T38.setTop (mkF m 79 #[.val (.int p0), .val (.int (4 : Int32)), .val (.ref a_GREATER_OR_EQUAL), .val (.int (1 : Int32)), .val (.int (1 : Int32)), .val (.ref y_0), .unset, .unset] [(.int (1 : Int32))])) _
      refine XS.istore X38.here hx rfl (hb hby at_79) rfl (l' := #[.val (.int p0), .val (.int (4 : Int32)), .val (.ref a_GREATER_OR_EQUAL), .val (.int (1 : Int32)), .val (.int (1 : Int32)), .val (.ref y_0), .val (.int (1 : Int32)), .unset]) rfl ?_
      show Steps p.tables e below (T38.setTop (mkF m 81 #[.val (.int p0), .val (.int (4 : Int32)), .val (.ref a_GREATER_OR_EQUAL), .val (.int (1 : Int32)), .val (.int (1 : Int32)), .val (.ref y_0), .val (.int (1 : Int32)), .unset] [])) _
      refine XS.iloadN X38.here hx rfl (hb hby at_81) rfl ?_
      show Steps p.tables e below (T38.setTop (mkF m 82 #[.val (.int p0), .val (.int (4 : Int32)), .val (.ref a_GREATER_OR_EQUAL), .val (.int (1 : Int32)), .val (.int (1 : Int32)), .val (.ref y_0), .val (.int (1 : Int32)), .unset] [(.int (4 : Int32))])) _
      refine XS.iconst X38.here hx rfl (hb hby at_82) ?_
      exact kt
    refine own_via (A' := T38.setTop (mkF m 86 #[.val (.int p0), .val (.int (4 : Int32)), .val (.ref a_GREATER_OR_EQUAL), .val (.int (1 : Int32)), .val (.int (1 : Int32)), .val (.ref y_0), .val (.int (1 : Int32)), .unset] [])) (fun target kt => XS.icmpNo X38.here hx rfl (hb hby at_83) rfl (flt ((by decide) : ¬ ((4 : Int32) < (2 : Int32)))).1 kt) ?_
    refine own_via (A' := T38.setTop (mkF m 96 #[.val (.int p0), .val (.int (4 : Int32)), .val (.ref a_GREATER_OR_EQUAL), .val (.int (1 : Int32)), .val (.int (1 : Int32)), .val (.ref y_0), .val (.int (1 : Int32)), .val (.int (1 : Int32))] [(.int (1 : Int32)), (.int (1 : Int32))])) (fun target kt => ?_) ?_
    · show Steps p.tables e below (T38.setTop (mkF m 86 #[.val (.int p0), .val (.int (4 : Int32)), .val (.ref a_GREATER_OR_EQUAL), .val (.int (1 : Int32)), .val (.int (1 : Int32)), .val (.ref y_0), .val (.int (1 : Int32)), .unset] [])) _
      refine XS.iconst X38.here hx rfl (hb hby at_86) ?_
      show Steps p.tables e below (T38.setTop (mkF m 87 #[.val (.int p0), .val (.int (4 : Int32)), .val (.ref a_GREATER_OR_EQUAL), .val (.int (1 : Int32)), .val (.int (1 : Int32)), .val (.ref y_0), .val (.int (1 : Int32)), .unset] [(.int (1 : Int32))])) _
      refine XS.goto X38.here hx rfl (pc0 := 87) (pc' := 91) rfl (hb hby at_87) (by decide) (by decide) ?_
      show Steps p.tables e below (T38.setTop (mkF m 91 #[.val (.int p0), .val (.int (4 : Int32)), .val (.ref a_GREATER_OR_EQUAL), .val (.int (1 : Int32)), .val (.int (1 : Int32)), .val (.ref y_0), .val (.int (1 : Int32)), .unset] [(.int (1 : Int32))])) _
      refine XS.istore X38.here hx rfl (hb hby at_91) rfl (l' := #[.val (.int p0), .val (.int (4 : Int32)), .val (.ref a_GREATER_OR_EQUAL), .val (.int (1 : Int32)), .val (.int (1 : Int32)), .val (.ref y_0), .val (.int (1 : Int32)), .val (.int (1 : Int32))]) rfl ?_
      show Steps p.tables e below (T38.setTop (mkF m 93 #[.val (.int p0), .val (.int (4 : Int32)), .val (.ref a_GREATER_OR_EQUAL), .val (.int (1 : Int32)), .val (.int (1 : Int32)), .val (.ref y_0), .val (.int (1 : Int32)), .val (.int (1 : Int32))] [])) _
      refine XS.iloadN X38.here hx rfl (hb hby at_93) rfl ?_
      show Steps p.tables e below (T38.setTop (mkF m 94 #[.val (.int p0), .val (.int (4 : Int32)), .val (.ref a_GREATER_OR_EQUAL), .val (.int (1 : Int32)), .val (.int (1 : Int32)), .val (.ref y_0), .val (.int (1 : Int32)), .val (.int (1 : Int32))] [(.int (1 : Int32))])) _
      refine XS.iload X38.here hx rfl (hb hby at_94) rfl ?_
      exact kt
    refine own_via (A' := T38.setTop (mkF m 99 #[.val (.int p0), .val (.int (4 : Int32)), .val (.ref a_GREATER_OR_EQUAL), .val (.int (1 : Int32)), .val (.int (1 : Int32)), .val (.ref y_0), .val (.int (1 : Int32)), .val (.int (1 : Int32))] [])) (fun target kt => XS.icmpNo X38.here hx rfl (hb hby at_96) rfl (teq ((by decide) : (1 : Int32) = (1 : Int32))).2 kt) ?_
    refine own_via (A' := T38.setTop (mkF m 102 #[.val (.int p0), .val (.int (4 : Int32)), .val (.ref a_GREATER_OR_EQUAL), .val (.int (1 : Int32)), .val (.int (1 : Int32)), .val (.ref y_0), .val (.int (1 : Int32)), .val (.int (1 : Int32))] [(.int (1 : Int32)), (.int (1 : Int32))])) (fun target kt => ?_) ?_
    · show Steps p.tables e below (T38.setTop (mkF m 99 #[.val (.int p0), .val (.int (4 : Int32)), .val (.ref a_GREATER_OR_EQUAL), .val (.int (1 : Int32)), .val (.int (1 : Int32)), .val (.ref y_0), .val (.int (1 : Int32)), .val (.int (1 : Int32))] [])) _
      refine XS.iloadN X38.here hx rfl (hb hby at_99) rfl ?_
      show Steps p.tables e below (T38.setTop (mkF m 100 #[.val (.int p0), .val (.int (4 : Int32)), .val (.ref a_GREATER_OR_EQUAL), .val (.int (1 : Int32)), .val (.int (1 : Int32)), .val (.ref y_0), .val (.int (1 : Int32)), .val (.int (1 : Int32))] [(.int (1 : Int32))])) _
      refine XS.iload X38.here hx rfl (hb hby at_100) rfl ?_
      exact kt
    refine own_via (A' := T38.setTop (mkF m 105 #[.val (.int p0), .val (.int (4 : Int32)), .val (.ref a_GREATER_OR_EQUAL), .val (.int (1 : Int32)), .val (.int (1 : Int32)), .val (.ref y_0), .val (.int (1 : Int32)), .val (.int (1 : Int32))] [])) (fun target kt => XS.icmpNo X38.here hx rfl (hb hby at_102) rfl (teq ((by decide) : (1 : Int32) = (1 : Int32))).2 kt) ?_
    refine own_via (A' := T38.setTop (mkF m 108 #[.val (.int p0), .val (.int (4 : Int32)), .val (.ref a_GREATER_OR_EQUAL), .val (.int (1 : Int32)), .val (.int (1 : Int32)), .val (.ref y_0), .val (.int (1 : Int32)), .val (.int (1 : Int32))] [(.int (1 : Int32)), (.int (1 : Int32))])) (fun target kt => ?_) ?_
    · show Steps p.tables e below (T38.setTop (mkF m 105 #[.val (.int p0), .val (.int (4 : Int32)), .val (.ref a_GREATER_OR_EQUAL), .val (.int (1 : Int32)), .val (.int (1 : Int32)), .val (.ref y_0), .val (.int (1 : Int32)), .val (.int (1 : Int32))] [])) _
      refine XS.iloadN X38.here hx rfl (hb hby at_105) rfl ?_
      show Steps p.tables e below (T38.setTop (mkF m 106 #[.val (.int p0), .val (.int (4 : Int32)), .val (.ref a_GREATER_OR_EQUAL), .val (.int (1 : Int32)), .val (.int (1 : Int32)), .val (.ref y_0), .val (.int (1 : Int32)), .val (.int (1 : Int32))] [(.int (1 : Int32))])) _
      refine XS.iload X38.here hx rfl (hb hby at_106) rfl ?_
      exact kt
    refine own_via (A' := T38.setTop (mkF m 111 #[.val (.int p0), .val (.int (4 : Int32)), .val (.ref a_GREATER_OR_EQUAL), .val (.int (1 : Int32)), .val (.int (1 : Int32)), .val (.ref y_0), .val (.int (1 : Int32)), .val (.int (1 : Int32))] [])) (fun target kt => XS.icmpNo X38.here hx rfl (hb hby at_108) rfl (teq ((by decide) : (1 : Int32) = (1 : Int32))).2 kt) ?_
    refine own_via (A' := T38.setTop (mkF m 116 #[.val (.int p0), .val (.int (4 : Int32)), .val (.ref a_GREATER_OR_EQUAL), .val (.int (1 : Int32)), .val (.int (1 : Int32)), .val (.ref y_0), .val (.int (1 : Int32)), .val (.int (1 : Int32))] [(.int (1 : Int32))])) (fun target kt => ?_) ?_
    · show Steps p.tables e below (T38.setTop (mkF m 111 #[.val (.int p0), .val (.int (4 : Int32)), .val (.ref a_GREATER_OR_EQUAL), .val (.int (1 : Int32)), .val (.int (1 : Int32)), .val (.ref y_0), .val (.int (1 : Int32)), .val (.int (1 : Int32))] [])) _
      refine XS.iconst X38.here hx rfl (hb hby at_111) ?_
      show Steps p.tables e below (T38.setTop (mkF m 112 #[.val (.int p0), .val (.int (4 : Int32)), .val (.ref a_GREATER_OR_EQUAL), .val (.int (1 : Int32)), .val (.int (1 : Int32)), .val (.ref y_0), .val (.int (1 : Int32)), .val (.int (1 : Int32))] [(.int (1 : Int32))])) _
      refine XS.goto X38.here hx rfl (pc0 := 112) (pc' := 116) rfl (hb hby at_112) (by decide) (by decide) ?_
      exact kt
    exact own_retN X38 Bd.notSynchronized hx (t := .boolean) Bd.returns (by simp) (hb hby at_116) (show Q0 Z p0 a_EQUAL a_NOT_EQUAL a_LESS_OR_EQUAL a_LESS a_GREATER_OR_EQUAL a_GREATER vf wcs h0 n0 _ _ _ from ⟨rfl, N38⟩) (by decide) (by decide)
  · have K_0 := K_GREATER
    obtain ⟨E_0, F_o, y_0, v_0, cl_0, z_0, F_s, E_s, F_v, F_c, Ar_0, hz_0, hz_1, hz_2, hin_0, hat_0⟩ := K_0
    refine own_via (A' := s₁.setTop (mkF m 9 #[.val (.int p0), .val (.int (5 : Int32)), .unset, .unset, .unset, .unset, .unset, .unset] [(.int (5 : Int32))])) (fun target kt => ?_) ?_
    · show Steps p.tables e below (s₁.setTop (mkF m 8 #[.val (.int p0), .val (.int (5 : Int32)), .unset, .unset, .unset, .unset, .unset, .unset] [])) _
      refine XS.iloadN X0.here hx rfl (hb hby at_8) rfl ?_
      exact kt
    obtain ⟨_, _, ⟨T39, L39, k39, n39⟩, -, X39, ⟨Lc39, hQ39, l39, y39, z39⟩, st39⟩ := Jvm.LawKit.callS X0 hx (y := (⟨"com/example/resultree/resultree/xpath/ComparisonIsOrderingPinLaw", "pick", "(I)Lcom/example/resultree/resultree/xpath/Comparison;"⟩ : MethodName)) hown (mvT hZ (hw _ (List.mem_of_getElem? (i := 1) rfl))) (mvT hZ (hw _ (List.mem_of_getElem? (i := 2) rfl))) (mvT hZ (hw _ (List.mem_of_getElem? (i := 3) rfl))) (mvT hZ (hw _ (List.mem_of_getElem? (i := 4) rfl))) (by decide) (backOf (W := 0) (rm1 l Z a0 hw [] (5 : Int32) a_EQUAL a_NOT_EQUAL a_LESS_OR_EQUAL a_LESS a_GREATER_OR_EQUAL a_GREATER h0 n0 Z0 S_EQUAL S_NOT_EQUAL S_LESS_OR_EQUAL S_LESS S_GREATER_OR_EQUAL S_GREATER) hZ (hw _ (List.mem_of_getElem? (i := 4) rfl)) (hw _ (List.mem_of_getElem? (i := 3) rfl)) (by decide) (by decide)) (g := (mkF m 9 #[.val (.int p0), .val (.int (5 : Int32)), .unset, .unset, .unset, .unset, .unset, .unset] [(.int (5 : Int32))])) rfl (by rw [hml]; rfl) (argsL := [(.int (5 : Int32))]) (rest := []) (lenOf pd_0_0 rfl) rfl (by show 2 * 0 + _ ≤ _; exact Nat.le_of_eq rfl) (hb hby at_9) (fun _ _ => ⟨rfl, e0, (by decide : 0 + 0 ≤ _), (by decide : 0 + 0 ≤ _)⟩)
    dsimp only [Pt.U, Pt.locs, Pt.cells, Pt.slots] at X39 l39 y39 z39 st39 hQ39
    subst l39 y39 z39
    obtain ⟨hv39, N39q, e39⟩ := hQ39
    rw [show own_pick (5 : Int32) a_EQUAL a_NOT_EQUAL a_LESS_OR_EQUAL a_LESS a_GREATER_OR_EQUAL a_GREATER = a_GREATER from by simp [own_pick]] at hv39
    subst hv39
    have N39 := Fr.app N0 N39q
    refine own_via (A' := T39.setTop (mkF m 12 #[.val (.int p0), .val (.int (5 : Int32)), .unset, .unset, .unset, .unset, .unset, .unset] [(.ref a_GREATER)])) st39 ?_
    refine own_via (A' := T39.setTop (mkF m 14 #[.val (.int p0), .val (.int (5 : Int32)), .val (.ref a_GREATER), .unset, .unset, .unset, .unset, .unset] [(.ref a_GREATER)])) (fun target kt => ?_) ?_
    · show Steps p.tables e below (T39.setTop (mkF m 12 #[.val (.int p0), .val (.int (5 : Int32)), .unset, .unset, .unset, .unset, .unset, .unset] [(.ref a_GREATER)])) _
      refine XS.astoreN X39.here hx rfl (hb hby at_12) rfl rfl (l' := #[.val (.int p0), .val (.int (5 : Int32)), .val (.ref a_GREATER), .unset, .unset, .unset, .unset, .unset]) rfl ?_
      show Steps p.tables e below (T39.setTop (mkF m 13 #[.val (.int p0), .val (.int (5 : Int32)), .val (.ref a_GREATER), .unset, .unset, .unset, .unset, .unset] [])) _
      refine XS.aloadN X39.here hx rfl (hb hby at_13) rfl rfl ?_
      exact kt
    obtain ⟨cq40, kq40, q40a, q40b, q40c⟩ := isOf hZ e39 E_0
    obtain ⟨_, _, ⟨T40, L40, k40, n40⟩, -, X40, ⟨Lc40, hQ40, l40, y40, z40⟩, st40⟩ := X39.virtualBack hx (y := (⟨"com/example/resultree/resultree/xpath/Comparison", "isOrdering", "()Z"⟩ : MethodName)) (z := (⟨"com/example/resultree/resultree/xpath/Comparison", "isOrdering", "()Z"⟩ : MethodName)) hown (mvT hZ (hw _ (List.mem_of_getElem? (i := 8) rfl))) (mvT hZ (hw _ (List.mem_of_getElem? (i := 9) rfl))) (notFace_of_selects (args := #[]) (mvT hZ (hw _ (List.mem_of_getElem? (i := 11) rfl)))) (mvT hZ (hw _ (List.mem_of_getElem? (i := 11) rfl))) (mvT hZ (hw _ (List.mem_of_getElem? (i := 10) rfl))) (by decide) (backOf (W := 0) (rm2 l Z a0 hw [] a_GREATER a_EQUAL a_NOT_EQUAL h0 n0 Z0 S_EQUAL S_NOT_EQUAL) hZ (hw _ (List.mem_of_getElem? (i := 12) rfl)) (hw _ (List.mem_of_getElem? (i := 6) rfl)) (by decide) (by decide)) q40a q40c (g := (mkF m 14 #[.val (.int p0), .val (.int (5 : Int32)), .val (.ref a_GREATER), .unset, .unset, .unset, .unset, .unset] [(.ref a_GREATER)])) rfl (by rw [hml]; rfl) (Steps.refl _) (argsL := []) (rest := []) (lenOf pd_0_1 rfl) rfl (by show 2 * 0 + _ ≤ _; exact Nat.le_of_eq rfl) (hb hby at_14) (fun _ _ => ⟨rfl, e39, (by decide : 0 + 0 ≤ _), (by decide : 0 + 0 ≤ _)⟩)
    dsimp only [Pt.U, Pt.locs, Pt.cells, Pt.slots] at X40 l40 y40 z40 st40 hQ40
    subst l40 y40 z40
    obtain ⟨hv40, N40q, e40⟩ := hQ40
    rw [show own_isord a_GREATER a_EQUAL a_NOT_EQUAL = (1 : Int32) from by simp [own_isord, own_ne K_GREATER K_EQUAL (by decide), own_ne K_GREATER K_NOT_EQUAL (by decide)]] at hv40
    subst hv40
    have N40 := Fr.app N39 N40q
    refine own_via (A' := T40.setTop (mkF m 17 #[.val (.int p0), .val (.int (5 : Int32)), .val (.ref a_GREATER), .unset, .unset, .unset, .unset, .unset] [(.int (1 : Int32))])) (fun _ kt => st40.trans kt) ?_
    refine own_via (A' := T40.setTop (mkF m 20 #[.val (.int p0), .val (.int (5 : Int32)), .val (.ref a_GREATER), .val (.int (1 : Int32)), .unset, .unset, .unset, .unset] [(.int (1 : Int32)), (.ref a_GREATER)])) (fun target kt => ?_) ?_
    · show Steps p.tables e below (T40.setTop (mkF m 17 #[.val (.int p0), .val (.int (5 : Int32)), .val (.ref a_GREATER), .unset, .unset, .unset, .unset, .unset] [(.int (1 : Int32))])) _
      refine XS.istoreN X40.here hx rfl (hb hby at_17) rfl (l' := #[.val (.int p0), .val (.int (5 : Int32)), .val (.ref a_GREATER), .val (.int (1 : Int32)), .unset, .unset, .unset, .unset]) rfl ?_
      show Steps p.tables e below (T40.setTop (mkF m 18 #[.val (.int p0), .val (.int (5 : Int32)), .val (.ref a_GREATER), .val (.int (1 : Int32)), .unset, .unset, .unset, .unset] [])) _
      refine XS.aloadN X40.here hx rfl (hb hby at_18) rfl rfl ?_
      show Steps p.tables e below (T40.setTop (mkF m 19 #[.val (.int p0), .val (.int (5 : Int32)), .val (.ref a_GREATER), .val (.int (1 : Int32)), .unset, .unset, .unset, .unset] [(.ref a_GREATER)])) _
      refine XS.iconst X40.here hx rfl (hb hby at_19) ?_
      exact kt
    obtain ⟨cq41, kq41, q41a, q41b, q41c⟩ := isOf hZ e40 E_0
    obtain ⟨_, _, ⟨T41, L41, k41, n41⟩, -, X41, ⟨Lc41, hQ41, l41, y41, z41⟩, st41⟩ := X40.virtualBack hx (y := (⟨"com/example/resultree/resultree/xpath/Comparison", "holds", "(I)Z"⟩ : MethodName)) (z := (⟨"com/example/resultree/resultree/xpath/Comparison", "holds", "(I)Z"⟩ : MethodName)) hown (mvT hZ (hw _ (List.mem_of_getElem? (i := 14) rfl))) (mvT hZ (hw _ (List.mem_of_getElem? (i := 15) rfl))) (notFace_of_selects (args := #[]) (mvT hZ (hw _ (List.mem_of_getElem? (i := 17) rfl)))) (mvT hZ (hw _ (List.mem_of_getElem? (i := 17) rfl))) (mvT hZ (hw _ (List.mem_of_getElem? (i := 16) rfl))) (by decide) (backOf (W := 0) (rm3 l Z a0 hw [] a_GREATER (1 : Int32) (5 : Int32) h0 n0 Z0 (Or.inr (Or.inr (Or.inr (Or.inr (Or.inr rfl))))) E_0 F_o) hZ (hw _ (List.mem_of_getElem? (i := 18) rfl)) (hw _ (List.mem_of_getElem? (i := 6) rfl)) (by decide) (by decide)) q41a q41c (g := (mkF m 20 #[.val (.int p0), .val (.int (5 : Int32)), .val (.ref a_GREATER), .val (.int (1 : Int32)), .unset, .unset, .unset, .unset] [(.int (1 : Int32)), (.ref a_GREATER)])) rfl (by rw [hml]; rfl) (Steps.refl _) (argsL := [(.int (1 : Int32))]) (rest := []) (lenOf pd_0_2 rfl) rfl (by show 2 * 0 + _ ≤ _; exact Nat.le_of_eq rfl) (hb hby at_20) (fun _ _ => ⟨rfl, e40, (by decide : 0 + 0 ≤ _), (by decide : 0 + 0 ≤ _)⟩)
    dsimp only [Pt.U, Pt.locs, Pt.cells, Pt.slots] at X41 l41 y41 z41 st41 hQ41
    subst l41 y41 z41
    obtain ⟨hv41, N41q, e41⟩ := hQ41
    rw [show own_hold (5 : Int32) (1 : Int32) = (1 : Int32) from by decide] at hv41
    subst hv41
    have N41 := Fr.app N40 N41q
    refine own_via (A' := T41.setTop (mkF m 23 #[.val (.int p0), .val (.int (5 : Int32)), .val (.ref a_GREATER), .val (.int (1 : Int32)), .unset, .unset, .unset, .unset] [(.int (1 : Int32))])) (fun _ kt => st41.trans kt) ?_
    refine own_via (A' := T41.setTop (mkF m 25 #[.val (.int p0), .val (.int (5 : Int32)), .val (.ref a_GREATER), .val (.int (1 : Int32)), .unset, .unset, .unset, .unset] [(.int (-1 : Int32)), (.ref a_GREATER), (.int (1 : Int32))])) (fun target kt => ?_) ?_
    · show Steps p.tables e below (T41.setTop (mkF m 23 #[.val (.int p0), .val (.int (5 : Int32)), .val (.ref a_GREATER), .val (.int (1 : Int32)), .unset, .unset, .unset, .unset] [(.int (1 : Int32))])) _
      refine XS.aloadN X41.here hx rfl (hb hby at_23) rfl rfl ?_
      show Steps p.tables e below (T41.setTop (mkF m 24 #[.val (.int p0), .val (.int (5 : Int32)), .val (.ref a_GREATER), .val (.int (1 : Int32)), .unset, .unset, .unset, .unset] [(.ref a_GREATER), (.int (1 : Int32))])) _
      refine XS.iconst X41.here hx rfl (hb hby at_24) ?_
      exact kt
    obtain ⟨cq42, kq42, q42a, q42b, q42c⟩ := isOf hZ e41 E_0
    obtain ⟨_, _, ⟨T42, L42, k42, n42⟩, -, X42, ⟨Lc42, hQ42, l42, y42, z42⟩, st42⟩ := X41.virtualBack hx (y := (⟨"com/example/resultree/resultree/xpath/Comparison", "holds", "(I)Z"⟩ : MethodName)) (z := (⟨"com/example/resultree/resultree/xpath/Comparison", "holds", "(I)Z"⟩ : MethodName)) hown (mvT hZ (hw _ (List.mem_of_getElem? (i := 14) rfl))) (mvT hZ (hw _ (List.mem_of_getElem? (i := 15) rfl))) (notFace_of_selects (args := #[]) (mvT hZ (hw _ (List.mem_of_getElem? (i := 17) rfl)))) (mvT hZ (hw _ (List.mem_of_getElem? (i := 17) rfl))) (mvT hZ (hw _ (List.mem_of_getElem? (i := 16) rfl))) (by decide) (backOf (W := 1) (rm3 l Z a0 hw [] a_GREATER (-1 : Int32) (5 : Int32) h0 n0 Z0 (Or.inr (Or.inr (Or.inr (Or.inr (Or.inr rfl))))) E_0 F_o) hZ (hw _ (List.mem_of_getElem? (i := 18) rfl)) (hw _ (List.mem_of_getElem? (i := 6) rfl)) (by decide) (by decide)) q42a q42c (g := (mkF m 25 #[.val (.int p0), .val (.int (5 : Int32)), .val (.ref a_GREATER), .val (.int (1 : Int32)), .unset, .unset, .unset, .unset] [(.int (-1 : Int32)), (.ref a_GREATER), (.int (1 : Int32))])) rfl (by rw [hml]; rfl) (Steps.refl _) (argsL := [(.int (-1 : Int32))]) (rest := [(.int (1 : Int32))]) (lenOf pd_0_2 rfl) rfl (by show 2 * 0 + _ ≤ _; exact Nat.le_of_eq rfl) (hb hby at_25) (fun _ _ => ⟨rfl, e41, (by decide : 0 + 0 ≤ _), (by decide : 0 + 0 ≤ _)⟩)
    dsimp only [Pt.U, Pt.locs, Pt.cells, Pt.slots] at X42 l42 y42 z42 st42 hQ42
    subst l42 y42 z42
    obtain ⟨hv42, N42q, e42⟩ := hQ42
    rw [show own_hold (5 : Int32) (-1 : Int32) = (0 : Int32) from by decide] at hv42
    subst hv42
    have N42 := Fr.app N41 N42q
    refine own_via (A' := T42.setTop (mkF m 28 #[.val (.int p0), .val (.int (5 : Int32)), .val (.ref a_GREATER), .val (.int (1 : Int32)), .unset, .unset, .unset, .unset] [(.int (0 : Int32)), (.int (1 : Int32))])) (fun _ kt => st42.trans kt) ?_
    refine own_via (A' := T42.setTop (mkF m 31 #[.val (.int p0), .val (.int (5 : Int32)), .val (.ref a_GREATER), .val (.int (1 : Int32)), .unset, .unset, .unset, .unset] [])) (fun target kt => XS.icmpNo X42.here hx rfl (hb hby at_28) rfl (feq ((by decide) : ¬ ((1 : Int32) = (0 : Int32)))).1 kt) ?_
    refine own_via (A' := T42.setTop (mkF m 39 #[.val (.int p0), .val (.int (5 : Int32)), .val (.ref a_GREATER), .val (.int (1 : Int32)), .val (.int (1 : Int32)), .unset, .unset, .unset] [(.ref a_GREATER)])) (fun target kt => ?_) ?_
    · show Steps p.tables e below (T42.setTop (mkF m 31 #[.val (.int p0), .val (.int (5 : Int32)), .val (.ref a_GREATER), .val (.int (1 : Int32)), .unset, .unset, .unset, .unset] [])) _
      refine XS.iconst X42.here hx rfl (hb hby at_31) ?_
      show Steps p.tables e below (T42.setTop (mkF m 32 #[.val (.int p0), .val (.int (5 : Int32)), .val (.ref a_GREATER), .val (.int (1 : Int32)), .unset, .unset, .unset, .unset] [(.int (1 : Int32))])) _
      refine XS.goto X42.here hx rfl (pc0 := 32) (pc' := 36) rfl (hb hby at_32) (by decide) (by decide) ?_
      show Steps p.tables e below (T42.setTop (mkF m 36 #[.val (.int p0), .val (.int (5 : Int32)), .val (.ref a_GREATER), .val (.int (1 : Int32)), .unset, .unset, .unset, .unset] [(.int (1 : Int32))])) _
      refine XS.istore X42.here hx rfl (hb hby at_36) rfl (l' := #[.val (.int p0), .val (.int (5 : Int32)), .val (.ref a_GREATER), .val (.int (1 : Int32)), .val (.int (1 : Int32)), .unset, .unset, .unset]) rfl ?_
      show Steps p.tables e below (T42.setTop (mkF m 38 #[.val (.int p0), .val (.int (5 : Int32)), .val (.ref a_GREATER), .val (.int (1 : Int32)), .val (.int (1 : Int32)), .unset, .unset, .unset] [])) _
      refine XS.aloadN X42.here hx rfl (hb hby at_38) rfl rfl ?_
      exact kt
    obtain ⟨cq43, kq43, q43a, q43b, q43c⟩ := isOf hZ e42 E_0
    obtain ⟨_, _, ⟨T43, L43, k43, n43⟩, -, X43, ⟨Lc43, hQ43, l43, y43, z43⟩, st43⟩ := X42.virtualBack hx (y := (⟨"com/example/resultree/resultree/xpath/Comparison", "symbol", "()Ljava/lang/String;"⟩ : MethodName)) (z := (⟨"com/example/resultree/resultree/xpath/Comparison", "symbol", "()Ljava/lang/String;"⟩ : MethodName)) hown (mvT hZ (hw _ (List.mem_of_getElem? (i := 28) rfl))) (mvT hZ (hw _ (List.mem_of_getElem? (i := 29) rfl))) (notFace_of_selects (args := #[]) (mvT hZ (hw _ (List.mem_of_getElem? (i := 31) rfl)))) (mvT hZ (hw _ (List.mem_of_getElem? (i := 31) rfl))) (mvT hZ (hw _ (List.mem_of_getElem? (i := 30) rfl))) (by decide) (backOf (W := 0) (rm5 l Z a0 hw [] a_GREATER y_0 h0 n0 Z0 F_s) hZ (hw _ (List.mem_of_getElem? (i := 32) rfl)) (hw _ (List.mem_of_getElem? (i := 6) rfl)) (by decide) (by decide)) q43a q43c (g := (mkF m 39 #[.val (.int p0), .val (.int (5 : Int32)), .val (.ref a_GREATER), .val (.int (1 : Int32)), .val (.int (1 : Int32)), .unset, .unset, .unset] [(.ref a_GREATER)])) rfl (by rw [hml]; rfl) (Steps.refl _) (argsL := []) (rest := []) (lenOf pd_0_3 rfl) rfl (by show 2 * 0 + _ ≤ _; exact Nat.le_of_eq rfl) (hb hby at_39) (fun _ _ => ⟨rfl, e42, (by decide : 0 + 0 ≤ _), (by decide : 0 + 0 ≤ _)⟩)
    dsimp only [Pt.U, Pt.locs, Pt.cells, Pt.slots] at X43 l43 y43 z43 st43 hQ43
    subst l43 y43 z43
    obtain ⟨rfl, N43q, e43⟩ := hQ43
    have N43 := Fr.app N42 N43q
    refine own_via (A' := T43.setTop (mkF m 42 #[.val (.int p0), .val (.int (5 : Int32)), .val (.ref a_GREATER), .val (.int (1 : Int32)), .val (.int (1 : Int32)), .unset, .unset, .unset] [(.ref y_0)])) (fun _ kt => st43.trans kt) ?_
    refine own_via (A' := T43.setTop (mkF m 46 #[.val (.int p0), .val (.int (5 : Int32)), .val (.ref a_GREATER), .val (.int (1 : Int32)), .val (.int (1 : Int32)), .val (.ref y_0), .unset, .unset] [(.ref y_0)])) (fun target kt => ?_) ?_
    · show Steps p.tables e below (T43.setTop (mkF m 42 #[.val (.int p0), .val (.int (5 : Int32)), .val (.ref a_GREATER), .val (.int (1 : Int32)), .val (.int (1 : Int32)), .unset, .unset, .unset] [(.ref y_0)])) _
      refine XS.astore X43.here hx rfl (hb hby at_42) rfl rfl (l' := #[.val (.int p0), .val (.int (5 : Int32)), .val (.ref a_GREATER), .val (.int (1 : Int32)), .val (.int (1 : Int32)), .val (.ref y_0), .unset, .unset]) rfl ?_
      show Steps p.tables e below (T43.setTop (mkF m 44 #[.val (.int p0), .val (.int (5 : Int32)), .val (.ref a_GREATER), .val (.int (1 : Int32)), .val (.int (1 : Int32)), .val (.ref y_0), .unset, .unset] [])) _
      refine XS.aload X43.here hx rfl (hb hby at_44) rfl rfl ?_
      exact kt
    obtain ⟨cq44, kq44, q44a, q44b, q44c⟩ := isOf hZ e43 E_s
    obtain ⟨_, _, ⟨T44, L44, k44, n44⟩, -, X44, ⟨Lc44, hQ44, l44, y44, z44⟩, st44⟩ := X43.virtualBack hx (y := (⟨"java/lang/String", "isEmpty", "()Z"⟩ : MethodName)) (z := (⟨"java/lang/String", "isEmpty", "()Z"⟩ : MethodName)) hown (mvT hZ (hw _ (List.mem_of_getElem? (i := 35) rfl))) (mvT hZ (hw _ (List.mem_of_getElem? (i := 36) rfl))) (notFace_of_selects (args := #[]) (mvT hZ (hw _ (List.mem_of_getElem? (i := 38) rfl)))) (mvT hZ (hw _ (List.mem_of_getElem? (i := 38) rfl))) (mvT hZ (hw _ (List.mem_of_getElem? (i := 37) rfl))) (by decide) (backOf (W := 0) (rm6 l Z a0 hw [] y_0 v_0 cl_0 z_0 h0 n0 Z0 F_v Ar_0 hz_0 hz_1) hZ (hw _ (List.mem_of_getElem? (i := 40) rfl)) (hw _ (List.mem_of_getElem? (i := 39) rfl)) (by decide) (by decide)) q44a q44c (g := (mkF m 46 #[.val (.int p0), .val (.int (5 : Int32)), .val (.ref a_GREATER), .val (.int (1 : Int32)), .val (.int (1 : Int32)), .val (.ref y_0), .unset, .unset] [(.ref y_0)])) rfl (by rw [hml]; rfl) (Steps.refl _) (argsL := []) (rest := []) (lenOf pd_0_1 rfl) rfl (by show 2 * 0 + _ ≤ _; exact Nat.le_of_eq rfl) (hb hby at_46) (fun _ _ => ⟨rfl, e43, (by decide : 0 + 0 ≤ _), (by decide : 0 + 0 ≤ _)⟩)
    dsimp only [Pt.U, Pt.locs, Pt.cells, Pt.slots] at X44 l44 y44 z44 st44 hQ44
    subst l44 y44 z44
    obtain ⟨rfl, N44q, e44⟩ := hQ44
    have N44 := Fr.app N43 N44q
    refine own_via (A' := T44.setTop (mkF m 49 #[.val (.int p0), .val (.int (5 : Int32)), .val (.ref a_GREATER), .val (.int (1 : Int32)), .val (.int (1 : Int32)), .val (.ref y_0), .unset, .unset] [(.int (0 : Int32))])) (fun _ kt => st44.trans kt) ?_
    refine own_via (A' := T44.setTop (mkF m 52 #[.val (.int p0), .val (.int (5 : Int32)), .val (.ref a_GREATER), .val (.int (1 : Int32)), .val (.int (1 : Int32)), .val (.ref y_0), .unset, .unset] [])) (fun target kt => XS.ifNo X44.here hx rfl (hb hby at_49) rfl ((if0 _ _).trans (teq ((by decide) : (0 : Int32) = (0 : Int32))).2) kt) ?_
    refine own_via (A' := T44.setTop (mkF m 55 #[.val (.int p0), .val (.int (5 : Int32)), .val (.ref a_GREATER), .val (.int (1 : Int32)), .val (.int (1 : Int32)), .val (.ref y_0), .unset, .unset] [(.int (0 : Int32)), (.ref y_0)])) (fun target kt => ?_) ?_
    · show Steps p.tables e below (T44.setTop (mkF m 52 #[.val (.int p0), .val (.int (5 : Int32)), .val (.ref a_GREATER), .val (.int (1 : Int32)), .val (.int (1 : Int32)), .val (.ref y_0), .unset, .unset] [])) _
      refine XS.aload X44.here hx rfl (hb hby at_52) rfl rfl ?_
      show Steps p.tables e below (T44.setTop (mkF m 54 #[.val (.int p0), .val (.int (5 : Int32)), .val (.ref a_GREATER), .val (.int (1 : Int32)), .val (.int (1 : Int32)), .val (.ref y_0), .unset, .unset] [(.ref y_0)])) _
      refine XS.iconst X44.here hx rfl (hb hby at_54) ?_
      exact kt
    obtain ⟨cq45, kq45, q45a, q45b, q45c⟩ := isOf hZ e44 E_s
    obtain ⟨_, _, ⟨T45, L45, k45, n45⟩, -, X45, ⟨Lc45, hQ45, l45, y45, z45⟩, st45⟩ := X44.virtualBack hx (y := (⟨"java/lang/String", "charAt", "(I)C"⟩ : MethodName)) (z := (⟨"java/lang/String", "charAt", "(I)C"⟩ : MethodName)) hown (mvT hZ (hw _ (List.mem_of_getElem? (i := 43) rfl))) (mvT hZ (hw _ (List.mem_of_getElem? (i := 44) rfl))) (notFace_of_selects (args := #[]) (mvT hZ (hw _ (List.mem_of_getElem? (i := 46) rfl)))) (mvT hZ (hw _ (List.mem_of_getElem? (i := 46) rfl))) (mvT hZ (hw _ (List.mem_of_getElem? (i := 45) rfl))) (by decide) (backOf (W := 0) (rm7 l Z a0 hw [] y_0 (0 : Int32) v_0 cl_0 z_0 (62 : Int32) vf wcs h0 n0 Z0 E_s F_v F_c Ar_0 hz_0 (by decide) hz_2 hin_0 hat_0 S_FM hv_vf S_CS hcs) hZ (hw _ (List.mem_of_getElem? (i := 47) rfl)) (hw _ (List.mem_of_getElem? (i := 39) rfl)) (by decide) (by decide)) q45a q45c (g := (mkF m 55 #[.val (.int p0), .val (.int (5 : Int32)), .val (.ref a_GREATER), .val (.int (1 : Int32)), .val (.int (1 : Int32)), .val (.ref y_0), .unset, .unset] [(.int (0 : Int32)), (.ref y_0)])) rfl (by rw [hml]; rfl) (Steps.refl _) (argsL := [(.int (0 : Int32))]) (rest := []) (lenOf pd_0_4 rfl) rfl (by show 2 * 0 + _ ≤ _; exact Nat.le_of_eq rfl) (hb hby at_55) (fun _ _ => ⟨rfl, e44, (by decide : 0 + 0 ≤ _), (by decide : 0 + 0 ≤ _)⟩)
    dsimp only [Pt.U, Pt.locs, Pt.cells, Pt.slots] at X45 l45 y45 z45 st45 hQ45
    subst l45 y45 z45
    obtain ⟨hv45, N45q, e45⟩ := hQ45
    rw [show nar .char (own_lc (62 : Int32)) = (62 : Int32) from by decide] at hv45
    subst hv45
    have N45 := Fr.app N44 N45q
    refine own_via (A' := T45.setTop (mkF m 58 #[.val (.int p0), .val (.int (5 : Int32)), .val (.ref a_GREATER), .val (.int (1 : Int32)), .val (.int (1 : Int32)), .val (.ref y_0), .unset, .unset] [(.int (62 : Int32))])) (fun _ kt => st45.trans kt) ?_
    refine own_via (A' := T45.setTop (mkF m 60 #[.val (.int p0), .val (.int (5 : Int32)), .val (.ref a_GREATER), .val (.int (1 : Int32)), .val (.int (1 : Int32)), .val (.ref y_0), .unset, .unset] [(.int (60 : Int32)), (.int (62 : Int32))])) (fun target kt => ?_) ?_
    · show Steps p.tables e below (T45.setTop (mkF m 58 #[.val (.int p0), .val (.int (5 : Int32)), .val (.ref a_GREATER), .val (.int (1 : Int32)), .val (.int (1 : Int32)), .val (.ref y_0), .unset, .unset] [(.int (62 : Int32))])) _
      refine XS.bipush X45.here hx rfl (hb hby at_58) ?_
      exact kt
    refine own_via (A' := T45.setTop (mkF m 63 #[.val (.int p0), .val (.int (5 : Int32)), .val (.ref a_GREATER), .val (.int (1 : Int32)), .val (.int (1 : Int32)), .val (.ref y_0), .unset, .unset] [])) (fun target kt => XS.icmpNo X45.here hx rfl (hb hby at_60) rfl (feq ((by decide) : ¬ ((62 : Int32) = (60 : Int32)))).1 kt) ?_
    refine own_via (A' := T45.setTop (mkF m 66 #[.val (.int p0), .val (.int (5 : Int32)), .val (.ref a_GREATER), .val (.int (1 : Int32)), .val (.int (1 : Int32)), .val (.ref y_0), .unset, .unset] [(.int (0 : Int32)), (.ref y_0)])) (fun target kt => ?_) ?_
    · show Steps p.tables e below (T45.setTop (mkF m 63 #[.val (.int p0), .val (.int (5 : Int32)), .val (.ref a_GREATER), .val (.int (1 : Int32)), .val (.int (1 : Int32)), .val (.ref y_0), .unset, .unset] [])) _
      refine XS.aload X45.here hx rfl (hb hby at_63) rfl rfl ?_
      show Steps p.tables e below (T45.setTop (mkF m 65 #[.val (.int p0), .val (.int (5 : Int32)), .val (.ref a_GREATER), .val (.int (1 : Int32)), .val (.int (1 : Int32)), .val (.ref y_0), .unset, .unset] [(.ref y_0)])) _
      refine XS.iconst X45.here hx rfl (hb hby at_65) ?_
      exact kt
    obtain ⟨cq46, kq46, q46a, q46b, q46c⟩ := isOf hZ e45 E_s
    obtain ⟨_, _, ⟨T46, L46, k46, n46⟩, -, X46, ⟨Lc46, hQ46, l46, y46, z46⟩, st46⟩ := X45.virtualBack hx (y := (⟨"java/lang/String", "charAt", "(I)C"⟩ : MethodName)) (z := (⟨"java/lang/String", "charAt", "(I)C"⟩ : MethodName)) hown (mvT hZ (hw _ (List.mem_of_getElem? (i := 43) rfl))) (mvT hZ (hw _ (List.mem_of_getElem? (i := 44) rfl))) (notFace_of_selects (args := #[]) (mvT hZ (hw _ (List.mem_of_getElem? (i := 46) rfl)))) (mvT hZ (hw _ (List.mem_of_getElem? (i := 46) rfl))) (mvT hZ (hw _ (List.mem_of_getElem? (i := 45) rfl))) (by decide) (backOf (W := 0) (rm7 l Z a0 hw [] y_0 (0 : Int32) v_0 cl_0 z_0 (62 : Int32) vf wcs h0 n0 Z0 E_s F_v F_c Ar_0 hz_0 (by decide) hz_2 hin_0 hat_0 S_FM hv_vf S_CS hcs) hZ (hw _ (List.mem_of_getElem? (i := 47) rfl)) (hw _ (List.mem_of_getElem? (i := 39) rfl)) (by decide) (by decide)) q46a q46c (g := (mkF m 66 #[.val (.int p0), .val (.int (5 : Int32)), .val (.ref a_GREATER), .val (.int (1 : Int32)), .val (.int (1 : Int32)), .val (.ref y_0), .unset, .unset] [(.int (0 : Int32)), (.ref y_0)])) rfl (by rw [hml]; rfl) (Steps.refl _) (argsL := [(.int (0 : Int32))]) (rest := []) (lenOf pd_0_4 rfl) rfl (by show 2 * 0 + _ ≤ _; exact Nat.le_of_eq rfl) (hb hby at_66) (fun _ _ => ⟨rfl, e45, (by decide : 0 + 0 ≤ _), (by decide : 0 + 0 ≤ _)⟩)
    dsimp only [Pt.U, Pt.locs, Pt.cells, Pt.slots] at X46 l46 y46 z46 st46 hQ46
    subst l46 y46 z46
    obtain ⟨hv46, N46q, e46⟩ := hQ46
    rw [show nar .char (own_lc (62 : Int32)) = (62 : Int32) from by decide] at hv46
    subst hv46
    have N46 := Fr.app N45 N46q
    refine own_via (A' := T46.setTop (mkF m 69 #[.val (.int p0), .val (.int (5 : Int32)), .val (.ref a_GREATER), .val (.int (1 : Int32)), .val (.int (1 : Int32)), .val (.ref y_0), .unset, .unset] [(.int (62 : Int32))])) (fun _ kt => st46.trans kt) ?_
    refine own_via (A' := T46.setTop (mkF m 71 #[.val (.int p0), .val (.int (5 : Int32)), .val (.ref a_GREATER), .val (.int (1 : Int32)), .val (.int (1 : Int32)), .val (.ref y_0), .unset, .unset] [(.int (62 : Int32)), (.int (62 : Int32))])) (fun target kt => ?_) ?_
    · show Steps p.tables e below (T46.setTop (mkF m 69 #[.val (.int p0), .val (.int (5 : Int32)), .val (.ref a_GREATER), .val (.int (1 : Int32)), .val (.int (1 : Int32)), .val (.ref y_0), .unset, .unset] [(.int (62 : Int32))])) _
      refine XS.bipush X46.here hx rfl (hb hby at_69) ?_
      exact kt
    refine own_via (A' := T46.setTop (mkF m 74 #[.val (.int p0), .val (.int (5 : Int32)), .val (.ref a_GREATER), .val (.int (1 : Int32)), .val (.int (1 : Int32)), .val (.ref y_0), .unset, .unset] [])) (fun target kt => XS.icmpNo X46.here hx rfl (hb hby at_71) rfl (teq ((by decide) : (62 : Int32) = (62 : Int32))).2 kt) ?_
    refine own_via (A' := T46.setTop (mkF m 83 #[.val (.int p0), .val (.int (5 : Int32)), .val (.ref a_GREATER), .val (.int (1 : Int32)), .val (.int (1 : Int32)), .val (.ref y_0), .val (.int (1 : Int32)), .unset] [(.int (2 : Int32)), (.int (5 : Int32))])) (fun target kt => ?_) ?_
    · show Steps p.tables e below (T46.setTop (mkF m 74 #[.val (.int p0), .val (.int (5 : Int32)), .val (.ref a_GREATER), .val (.int (1 : Int32)), .val (.int (1 : Int32)), .val (.ref y_0), .unset, .unset] [])) _
      refine XS.iconst X46.here hx rfl (hb hby at_74) ?_
      show Steps p.tables e below (T46.setTop (mkF m 75 #[.val (.int p0), .val (.int (5 : Int32)), .val (.ref a_GREATER), .val (.int (1 : Int32)), .val (.int (1 : Int32)), .val (.ref y_0), .unset, .unset] [(.int (1 : Int32))])) _
      refine XS.goto X46.here hx rfl (pc0 := 75) (pc' := 79) rfl (hb hby at_75) (by decide) (by decide) ?_
      show Steps p.tables e below (T46.setTop (mkF m 79 #[.val (.int p0), .val (.int (5 : Int32)), .val (.ref a_GREATER), .val (.int (1 : Int32)), .val (.int (1 : Int32)), .val (.ref y_0), .unset, .unset] [(.int (1 : Int32))])) _
      refine XS.istore X46.here hx rfl (hb hby at_79) rfl (l' := #[.val (.int p0), .val (.int (5 : Int32)), .val (.ref a_GREATER), .val (.int (1 : Int32)), .val (.int (1 : Int32)), .val (.ref y_0), .val (.int (1 : Int32)), .unset]) rfl ?_
      show Steps p.tables e below (T46.setTop (mkF m 81 #[.val (.int p0), .val (.int (5 : Int32)), .val (.ref a_GREATER), .val (.int (1 : Int32)), .val (.int (1 : Int32)), .val (.ref y_0), .val (.int (1 : Int32)), .unset] [])) _
      refine XS.iloadN X46.here hx rfl (hb hby at_81) rfl ?_
      show Steps p.tables e below (T46.setTop (mkF m 82 #[.val (.int p0), .val (.int (5 : Int32)), .val (.ref a_GREATER), .val (.int (1 : Int32)), .val (.int (1 : Int32)), .val (.ref y_0), .val (.int (1 : Int32)), .unset] [(.int (5 : Int32))])) _
      refine XS.iconst X46.here hx rfl (hb hby at_82) ?_
      exact kt
    refine own_via (A' := T46.setTop (mkF m 86 #[.val (.int p0), .val (.int (5 : Int32)), .val (.ref a_GREATER), .val (.int (1 : Int32)), .val (.int (1 : Int32)), .val (.ref y_0), .val (.int (1 : Int32)), .unset] [])) (fun target kt => XS.icmpNo X46.here hx rfl (hb hby at_83) rfl (flt ((by decide) : ¬ ((5 : Int32) < (2 : Int32)))).1 kt) ?_
    refine own_via (A' := T46.setTop (mkF m 96 #[.val (.int p0), .val (.int (5 : Int32)), .val (.ref a_GREATER), .val (.int (1 : Int32)), .val (.int (1 : Int32)), .val (.ref y_0), .val (.int (1 : Int32)), .val (.int (1 : Int32))] [(.int (1 : Int32)), (.int (1 : Int32))])) (fun target kt => ?_) ?_
    · show Steps p.tables e below (T46.setTop (mkF m 86 #[.val (.int p0), .val (.int (5 : Int32)), .val (.ref a_GREATER), .val (.int (1 : Int32)), .val (.int (1 : Int32)), .val (.ref y_0), .val (.int (1 : Int32)), .unset] [])) _
      refine XS.iconst X46.here hx rfl (hb hby at_86) ?_
      show Steps p.tables e below (T46.setTop (mkF m 87 #[.val (.int p0), .val (.int (5 : Int32)), .val (.ref a_GREATER), .val (.int (1 : Int32)), .val (.int (1 : Int32)), .val (.ref y_0), .val (.int (1 : Int32)), .unset] [(.int (1 : Int32))])) _
      refine XS.goto X46.here hx rfl (pc0 := 87) (pc' := 91) rfl (hb hby at_87) (by decide) (by decide) ?_
      show Steps p.tables e below (T46.setTop (mkF m 91 #[.val (.int p0), .val (.int (5 : Int32)), .val (.ref a_GREATER), .val (.int (1 : Int32)), .val (.int (1 : Int32)), .val (.ref y_0), .val (.int (1 : Int32)), .unset] [(.int (1 : Int32))])) _
      refine XS.istore X46.here hx rfl (hb hby at_91) rfl (l' := #[.val (.int p0), .val (.int (5 : Int32)), .val (.ref a_GREATER), .val (.int (1 : Int32)), .val (.int (1 : Int32)), .val (.ref y_0), .val (.int (1 : Int32)), .val (.int (1 : Int32))]) rfl ?_
      show Steps p.tables e below (T46.setTop (mkF m 93 #[.val (.int p0), .val (.int (5 : Int32)), .val (.ref a_GREATER), .val (.int (1 : Int32)), .val (.int (1 : Int32)), .val (.ref y_0), .val (.int (1 : Int32)), .val (.int (1 : Int32))] [])) _
      refine XS.iloadN X46.here hx rfl (hb hby at_93) rfl ?_
      show Steps p.tables e below (T46.setTop (mkF m 94 #[.val (.int p0), .val (.int (5 : Int32)), .val (.ref a_GREATER), .val (.int (1 : Int32)), .val (.int (1 : Int32)), .val (.ref y_0), .val (.int (1 : Int32)), .val (.int (1 : Int32))] [(.int (1 : Int32))])) _
      refine XS.iload X46.here hx rfl (hb hby at_94) rfl ?_
      exact kt
    refine own_via (A' := T46.setTop (mkF m 99 #[.val (.int p0), .val (.int (5 : Int32)), .val (.ref a_GREATER), .val (.int (1 : Int32)), .val (.int (1 : Int32)), .val (.ref y_0), .val (.int (1 : Int32)), .val (.int (1 : Int32))] [])) (fun target kt => XS.icmpNo X46.here hx rfl (hb hby at_96) rfl (teq ((by decide) : (1 : Int32) = (1 : Int32))).2 kt) ?_
    refine own_via (A' := T46.setTop (mkF m 102 #[.val (.int p0), .val (.int (5 : Int32)), .val (.ref a_GREATER), .val (.int (1 : Int32)), .val (.int (1 : Int32)), .val (.ref y_0), .val (.int (1 : Int32)), .val (.int (1 : Int32))] [(.int (1 : Int32)), (.int (1 : Int32))])) (fun target kt => ?_) ?_
    · show Steps p.tables e below (T46.setTop (mkF m 99 #[.val (.int p0), .val (.int (5 : Int32)), .val (.ref a_GREATER), .val (.int (1 : Int32)), .val (.int (1 : Int32)), .val (.ref y_0), .val (.int (1 : Int32)), .val (.int (1 : Int32))] [])) _
      refine XS.iloadN X46.here hx rfl (hb hby at_99) rfl ?_
      show Steps p.tables e below (T46.setTop (mkF m 100 #[.val (.int p0), .val (.int (5 : Int32)), .val (.ref a_GREATER), .val (.int (1 : Int32)), .val (.int (1 : Int32)), .val (.ref y_0), .val (.int (1 : Int32)), .val (.int (1 : Int32))] [(.int (1 : Int32))])) _
      refine XS.iload X46.here hx rfl (hb hby at_100) rfl ?_
      exact kt
    refine own_via (A' := T46.setTop (mkF m 105 #[.val (.int p0), .val (.int (5 : Int32)), .val (.ref a_GREATER), .val (.int (1 : Int32)), .val (.int (1 : Int32)), .val (.ref y_0), .val (.int (1 : Int32)), .val (.int (1 : Int32))] [])) (fun target kt => XS.icmpNo X46.here hx rfl (hb hby at_102) rfl (teq ((by decide) : (1 : Int32) = (1 : Int32))).2 kt) ?_
    refine own_via (A' := T46.setTop (mkF m 108 #[.val (.int p0), .val (.int (5 : Int32)), .val (.ref a_GREATER), .val (.int (1 : Int32)), .val (.int (1 : Int32)), .val (.ref y_0), .val (.int (1 : Int32)), .val (.int (1 : Int32))] [(.int (1 : Int32)), (.int (1 : Int32))])) (fun target kt => ?_) ?_
    · show Steps p.tables e below (T46.setTop (mkF m 105 #[.val (.int p0), .val (.int (5 : Int32)), .val (.ref a_GREATER), .val (.int (1 : Int32)), .val (.int (1 : Int32)), .val (.ref y_0), .val (.int (1 : Int32)), .val (.int (1 : Int32))] [])) _
      refine XS.iloadN X46.here hx rfl (hb hby at_105) rfl ?_
      show Steps p.tables e below (T46.setTop (mkF m 106 #[.val (.int p0), .val (.int (5 : Int32)), .val (.ref a_GREATER), .val (.int (1 : Int32)), .val (.int (1 : Int32)), .val (.ref y_0), .val (.int (1 : Int32)), .val (.int (1 : Int32))] [(.int (1 : Int32))])) _
      refine XS.iload X46.here hx rfl (hb hby at_106) rfl ?_
      exact kt
    refine own_via (A' := T46.setTop (mkF m 111 #[.val (.int p0), .val (.int (5 : Int32)), .val (.ref a_GREATER), .val (.int (1 : Int32)), .val (.int (1 : Int32)), .val (.ref y_0), .val (.int (1 : Int32)), .val (.int (1 : Int32))] [])) (fun target kt => XS.icmpNo X46.here hx rfl (hb hby at_108) rfl (teq ((by decide) : (1 : Int32) = (1 : Int32))).2 kt) ?_
    refine own_via (A' := T46.setTop (mkF m 116 #[.val (.int p0), .val (.int (5 : Int32)), .val (.ref a_GREATER), .val (.int (1 : Int32)), .val (.int (1 : Int32)), .val (.ref y_0), .val (.int (1 : Int32)), .val (.int (1 : Int32))] [(.int (1 : Int32))])) (fun target kt => ?_) ?_
    · show Steps p.tables e below (T46.setTop (mkF m 111 #[.val (.int p0), .val (.int (5 : Int32)), .val (.ref a_GREATER), .val (.int (1 : Int32)), .val (.int (1 : Int32)), .val (.ref y_0), .val (.int (1 : Int32)), .val (.int (1 : Int32))] [])) _
      refine XS.iconst X46.here hx rfl (hb hby at_111) ?_
      show Steps p.tables e below (T46.setTop (mkF m 112 #[.val (.int p0), .val (.int (5 : Int32)), .val (.ref a_GREATER), .val (.int (1 : Int32)), .val (.int (1 : Int32)), .val (.ref y_0), .val (.int (1 : Int32)), .val (.int (1 : Int32))] [(.int (1 : Int32))])) _
      refine XS.goto X46.here hx rfl (pc0 := 112) (pc' := 116) rfl (hb hby at_112) (by decide) (by decide) ?_
      exact kt
    exact own_retN X46 Bd.notSynchronized hx (t := .boolean) Bd.returns (by simp) (hb hby at_116) (show Q0 Z p0 a_EQUAL a_NOT_EQUAL a_LESS_OR_EQUAL a_LESS a_GREATER_OR_EQUAL a_GREATER vf wcs h0 n0 _ _ _ from ⟨rfl, N46⟩) (by decide) (by decide)
theorem own_length {args : Array Value} {s : State} {t : Term} {n : Int32} {a : Addr} {cl : Cell} {ty : FieldType} (et : t.eval args s none [] s = some (.ref a)) (A : Arr s s.heap a cl ty) (h : (Jvm.Cond.eq (Term.length t) (Term.int n)).value args s none s [] = some true) : cl.slots.size.toInt32 = n := by
  obtain ⟨x, y, e1, e2, -, -⟩ := cmp_v (Or.inl h)
  obtain ⟨b, cell, f1, f2, f3⟩ := Term.length_spec e1
  cases et.symm.trans f1
  cases (Arr.fin (Vm.Alike.refl _) A).symm.trans f2
  subst f3
  exact gotT (Cond.eq_ints e1 (Term.int_eval n)) h
theorem own_elem {args : Array Value} {s : State} {t : Term} {j n : Int32} {a : Addr} {cl : Cell} {ty : FieldType} (et : t.eval args s none [] s = some (.ref a)) (A : Arr s s.heap a cl ty) (h : (Jvm.Cond.eq (Term.elem t (Term.int j)) (Term.int n)).value args s none s [] = some true) : ¬ (j < 0 ∨ cl.slots.size ≤ j.toNatClampNeg) ∧ cl.slots[j.toNatClampNeg]? = some (.int n) := by
  obtain ⟨x, y, e1, e2, k1, k2⟩ := cmp_v (Or.inl h)
  have e3 : y = .int n := Option.some.inj (e2.symm.trans (Term.int_eval n))
  subst e3
  obtain ⟨z, rfl⟩ := k2
  have e4 : z = n := gotT (Cond.eq_ints e1 e2) h
  subst e4
  exact elem_in e1 et (Term.int_eval j) A.1
set_option maxRecDepth 65536 in
set_option maxHeartbeats 40000000 in
theorem comes_1 {Post : Tables → Env → Array Value → State → Outcome → State → Prop} (hpost : ∀ tb e args s v u, (limb_1_1.after args s (.returned v) u = true ∧ limb_1_2.after args s (.returned v) u = true ∧ True) → FrameEnd s (.returned v) u (Jvm.fieldLocs frame_1_writes args s ++ Jvm.arrayLocs frame_1_arrays args s ++ Jvm.staticLocs frame_1_statics s) 0 0 → Post tb e args s (.returned v) u) :
    ArmFor flags0 classFile x code maxLocals ret World_1 tables_1 room_1 Calls_1 rest_1 Pre_1 Post := by
  intro l hfl _ _ p e ha hc hk s m args below hf hA hF happ hP
  obtain ⟨hcalls, hrest, hpre⟩ := hP
  obtain ⟨-, -, -, hnamed, -, -, -, hat⟩ := (Spec.applies_iff hf).mp happ
  obtain ⟨hg, hn⟩ := and_e (Cond.before_iff.mp (show (Jvm.Cond.and given_1 narrow_1).before args s = true from hpre))
  obtain ⟨h1, g0⟩ := and_e hg
  obtain ⟨w0, rfl⟩ : ∃ w0 : Value, args = #[w0] := by
    have hs : args.size = 1 := by simpa [Cond.value, given_1] using h1
    obtain ⟨L⟩ := args
    match L, hs with
    | [w0], _ => exact ⟨w0, rfl⟩
  have hw := fun d (hd : d ∈ tables_1) => atoms_spec (ws := Jvm.Cond.code x code maxLocals ret :: tables_1) hat d (List.mem_cons_of_mem _ hd)
  obtain ⟨i0, ei0⟩ := is_v g0
  obtain rfl : w0 = (.int i0) := Option.some.inj ei0
  obtain ⟨c0, t0⟩ := and_e hn
  obtain ⟨c1, t1⟩ := and_e t0
  obtain ⟨c2, t2⟩ := and_e t1
  obtain ⟨c3, t3⟩ := and_e t2
  obtain ⟨c4, t4⟩ := and_e t3
  obtain ⟨c5, t5⟩ := and_e t4
  obtain ⟨c6, t6⟩ := and_e t5
  obtain ⟨c7, t7⟩ := and_e t6
  obtain ⟨c8, t8⟩ := and_e t7
  obtain ⟨c9, t9⟩ := and_e t8
  obtain ⟨c10, t10⟩ := and_e t9
  obtain ⟨c11, t11⟩ := and_e t10
  obtain ⟨c12, t12⟩ := and_e t11
  obtain ⟨c13, t13⟩ := and_e t12
  obtain ⟨c14, t14⟩ := and_e t13
  obtain ⟨c15, t15⟩ := and_e t14
  obtain ⟨c16, t16⟩ := and_e t15
  obtain ⟨c17, t17⟩ := and_e t16
  obtain ⟨c18, t18⟩ := and_e t17
  obtain ⟨c19, t19⟩ := and_e t18
  obtain ⟨c20, t20⟩ := and_e t19
  obtain ⟨c21, t21⟩ := and_e t20
  obtain ⟨c22, t22⟩ := and_e t21
  obtain ⟨c23, t23⟩ := and_e t22
  obtain ⟨c24, t24⟩ := and_e t23
  obtain ⟨c25, t25⟩ := and_e t24
  obtain ⟨c26, t26⟩ := and_e t25
  obtain ⟨c27, t27⟩ := and_e t26
  obtain ⟨c28, t28⟩ := and_e t27
  obtain ⟨c29, t29⟩ := and_e t28
  obtain ⟨c30, t30⟩ := and_e t29
  obtain ⟨c31, t31⟩ := and_e t30
  obtain ⟨c32, t32⟩ := and_e t31
  obtain ⟨c33, t33⟩ := and_e t32
  obtain ⟨c34, t34⟩ := and_e t33
  obtain ⟨c35, t35⟩ := and_e t34
  obtain ⟨c36, t36⟩ := and_e t35
  obtain ⟨c37, t37⟩ := and_e t36
  obtain ⟨c38, t38⟩ := and_e t37
  obtain ⟨c39, t39⟩ := and_e t38
  obtain ⟨c40, t40⟩ := and_e t39
  obtain ⟨c41, t41⟩ := and_e t40
  obtain ⟨c42, t42⟩ := and_e t41
  obtain ⟨c43, t43⟩ := and_e t42
  obtain ⟨a_EQUAL, e_EQUAL⟩ := exa_v c0
  have S_EQUAL : Sta s s.heap "com/example/resultree/resultree/xpath/Comparison" "EQUAL" "Lcom/example/resultree/resultree/xpath/Comparison;" (.ref a_EQUAL) := Sta.start e_EQUAL (Or.inr ⟨(hw _ (List.mem_of_getElem? (i := 6) rfl)), (hw _ (List.mem_of_getElem? (i := 7) rfl))⟩)
  have E_EQUAL : Exa s s.heap a_EQUAL "com/example/resultree/resultree/xpath/Comparison" := Exa.start e_EQUAL c0
  obtain ⟨a_LESS, e_LESS⟩ := exa_v c7
  have S_LESS : Sta s s.heap "com/example/resultree/resultree/xpath/Comparison" "LESS" "Lcom/example/resultree/resultree/xpath/Comparison;" (.ref a_LESS) := Sta.start e_LESS (Or.inr ⟨(hw _ (List.mem_of_getElem? (i := 6) rfl)), (hw _ (List.mem_of_getElem? (i := 69) rfl))⟩)
  have E_LESS : Exa s s.heap a_LESS "com/example/resultree/resultree/xpath/Comparison" := Exa.start e_LESS c7
  obtain ⟨a_NOT_EQUAL, e_NOT_EQUAL⟩ := exa_v c9
  have S_NOT_EQUAL : Sta s s.heap "com/example/resultree/resultree/xpath/Comparison" "NOT_EQUAL" "Lcom/example/resultree/resultree/xpath/Comparison;" (.ref a_NOT_EQUAL) := Sta.start e_NOT_EQUAL (Or.inr ⟨(hw _ (List.mem_of_getElem? (i := 6) rfl)), (hw _ (List.mem_of_getElem? (i := 71) rfl))⟩)
  have E_NOT_EQUAL : Exa s s.heap a_NOT_EQUAL "com/example/resultree/resultree/xpath/Comparison" := Exa.start e_NOT_EQUAL c9
  obtain ⟨a_LESS_OR_EQUAL, e_LESS_OR_EQUAL⟩ := exa_v c16
  have S_LESS_OR_EQUAL : Sta s s.heap "com/example/resultree/resultree/xpath/Comparison" "LESS_OR_EQUAL" "Lcom/example/resultree/resultree/xpath/Comparison;" (.ref a_LESS_OR_EQUAL) := Sta.start e_LESS_OR_EQUAL (Or.inr ⟨(hw _ (List.mem_of_getElem? (i := 6) rfl)), (hw _ (List.mem_of_getElem? (i := 73) rfl))⟩)
  have E_LESS_OR_EQUAL : Exa s s.heap a_LESS_OR_EQUAL "com/example/resultree/resultree/xpath/Comparison" := Exa.start e_LESS_OR_EQUAL c16
  obtain ⟨a_GREATER, e_GREATER⟩ := exa_v c28
  have S_GREATER : Sta s s.heap "com/example/resultree/resultree/xpath/Comparison" "GREATER" "Lcom/example/resultree/resultree/xpath/Comparison;" (.ref a_GREATER) := Sta.start e_GREATER (Or.inr ⟨(hw _ (List.mem_of_getElem? (i := 6) rfl)), (hw _ (List.mem_of_getElem? (i := 76) rfl))⟩)
  have E_GREATER : Exa s s.heap a_GREATER "com/example/resultree/resultree/xpath/Comparison" := Exa.start e_GREATER c28
  obtain ⟨a_GREATER_OR_EQUAL, e_GREATER_OR_EQUAL⟩ := exa_v c35
  have S_GREATER_OR_EQUAL : Sta s s.heap "com/example/resultree/resultree/xpath/Comparison" "GREATER_OR_EQUAL" "Lcom/example/resultree/resultree/xpath/Comparison;" (.ref a_GREATER_OR_EQUAL) := Sta.start e_GREATER_OR_EQUAL (Or.inr ⟨(hw _ (List.mem_of_getElem? (i := 6) rfl)), (hw _ (List.mem_of_getElem? (i := 78) rfl))⟩)
  have E_GREATER_OR_EQUAL : Exa s s.heap a_GREATER_OR_EQUAL "com/example/resultree/resultree/xpath/Comparison" := Exa.start e_GREATER_OR_EQUAL c35
  have F_EQUAL_ordinal : Fld s s.heap a_EQUAL "java/lang/Enum" "ordinal" "I" (.int (0 : Int32)) := own_fld e_EQUAL c1
  have F_LESS_ordinal : Fld s s.heap a_LESS "java/lang/Enum" "ordinal" "I" (.int (3 : Int32)) := own_fld e_LESS c8
  have F_NOT_EQUAL_ordinal : Fld s s.heap a_NOT_EQUAL "java/lang/Enum" "ordinal" "I" (.int (1 : Int32)) := own_fld e_NOT_EQUAL c10
  have F_LESS_OR_EQUAL_ordinal : Fld s s.heap a_LESS_OR_EQUAL "java/lang/Enum" "ordinal" "I" (.int (2 : Int32)) := own_fld e_LESS_OR_EQUAL c17
  have F_GREATER_ordinal : Fld s s.heap a_GREATER "java/lang/Enum" "ordinal" "I" (.int (5 : Int32)) := own_fld e_GREATER c29
  have F_GREATER_OR_EQUAL_ordinal : Fld s s.heap a_GREATER_OR_EQUAL "java/lang/Enum" "ordinal" "I" (.int (4 : Int32)) := own_fld e_GREATER_OR_EQUAL c36
  obtain ⟨y_EQUAL, ey_EQUAL⟩ := exa_v c2
  obtain ⟨v_EQUAL, ev_EQUAL⟩ := arr_v c3
  obtain ⟨l_EQUAL, A_EQUAL⟩ := Arr.start ev_EQUAL c3
  have z_EQUAL := own_length ev_EQUAL A_EQUAL c4
  have q_EQUAL := own_elem ev_EQUAL A_EQUAL c6
  have K_EQUAL : own_K s s.heap a_EQUAL (0 : Int32) (61 : Int32) := ⟨E_EQUAL, F_EQUAL_ordinal, y_EQUAL, v_EQUAL, l_EQUAL, (1 : Int32), Fld.start ((fld_at e_EQUAL).symm.trans ey_EQUAL), Exa.start ey_EQUAL c2, Fld.start ((fld_at ey_EQUAL).symm.trans ev_EQUAL), own_fld ey_EQUAL c5, A_EQUAL, z_EQUAL, by decide, by decide, q_EQUAL.1, q_EQUAL.2⟩
  obtain ⟨y_NOT_EQUAL, ey_NOT_EQUAL⟩ := exa_v c23
  obtain ⟨v_NOT_EQUAL, ev_NOT_EQUAL⟩ := arr_v c24
  obtain ⟨l_NOT_EQUAL, A_NOT_EQUAL⟩ := Arr.start ev_NOT_EQUAL c24
  have z_NOT_EQUAL := own_length ev_NOT_EQUAL A_NOT_EQUAL c25
  have q_NOT_EQUAL := own_elem ev_NOT_EQUAL A_NOT_EQUAL c27
  have K_NOT_EQUAL : own_K s s.heap a_NOT_EQUAL (1 : Int32) (33 : Int32) := ⟨E_NOT_EQUAL, F_NOT_EQUAL_ordinal, y_NOT_EQUAL, v_NOT_EQUAL, l_NOT_EQUAL, (2 : Int32), Fld.start ((fld_at e_NOT_EQUAL).symm.trans ey_NOT_EQUAL), Exa.start ey_NOT_EQUAL c23, Fld.start ((fld_at ey_NOT_EQUAL).symm.trans ev_NOT_EQUAL), own_fld ey_NOT_EQUAL c26, A_NOT_EQUAL, z_NOT_EQUAL, by decide, by decide, q_NOT_EQUAL.1, q_NOT_EQUAL.2⟩
  obtain ⟨y_LESS_OR_EQUAL, ey_LESS_OR_EQUAL⟩ := exa_v c18
  obtain ⟨v_LESS_OR_EQUAL, ev_LESS_OR_EQUAL⟩ := arr_v c19
  obtain ⟨l_LESS_OR_EQUAL, A_LESS_OR_EQUAL⟩ := Arr.start ev_LESS_OR_EQUAL c19
  have z_LESS_OR_EQUAL := own_length ev_LESS_OR_EQUAL A_LESS_OR_EQUAL c20
  have q_LESS_OR_EQUAL := own_elem ev_LESS_OR_EQUAL A_LESS_OR_EQUAL c22
  have K_LESS_OR_EQUAL : own_K s s.heap a_LESS_OR_EQUAL (2 : Int32) (60 : Int32) := ⟨E_LESS_OR_EQUAL, F_LESS_OR_EQUAL_ordinal, y_LESS_OR_EQUAL, v_LESS_OR_EQUAL, l_LESS_OR_EQUAL, (2 : Int32), Fld.start ((fld_at e_LESS_OR_EQUAL).symm.trans ey_LESS_OR_EQUAL), Exa.start ey_LESS_OR_EQUAL c18, Fld.start ((fld_at ey_LESS_OR_EQUAL).symm.trans ev_LESS_OR_EQUAL), own_fld ey_LESS_OR_EQUAL c21, A_LESS_OR_EQUAL, z_LESS_OR_EQUAL, by decide, by decide, q_LESS_OR_EQUAL.1, q_LESS_OR_EQUAL.2⟩
  obtain ⟨y_LESS, ey_LESS⟩ := exa_v c11
  obtain ⟨v_LESS, ev_LESS⟩ := arr_v c12
  obtain ⟨l_LESS, A_LESS⟩ := Arr.start ev_LESS c12
  have z_LESS := own_length ev_LESS A_LESS c13
  have q_LESS := own_elem ev_LESS A_LESS c15
  have K_LESS : own_K s s.heap a_LESS (3 : Int32) (60 : Int32) := ⟨E_LESS, F_LESS_ordinal, y_LESS, v_LESS, l_LESS, (1 : Int32), Fld.start ((fld_at e_LESS).symm.trans ey_LESS), Exa.start ey_LESS c11, Fld.start ((fld_at ey_LESS).symm.trans ev_LESS), own_fld ey_LESS c14, A_LESS, z_LESS, by decide, by decide, q_LESS.1, q_LESS.2⟩
  obtain ⟨y_GREATER_OR_EQUAL, ey_GREATER_OR_EQUAL⟩ := exa_v c37
  obtain ⟨v_GREATER_OR_EQUAL, ev_GREATER_OR_EQUAL⟩ := arr_v c38
  obtain ⟨l_GREATER_OR_EQUAL, A_GREATER_OR_EQUAL⟩ := Arr.start ev_GREATER_OR_EQUAL c38
  have z_GREATER_OR_EQUAL := own_length ev_GREATER_OR_EQUAL A_GREATER_OR_EQUAL c39
  have q_GREATER_OR_EQUAL := own_elem ev_GREATER_OR_EQUAL A_GREATER_OR_EQUAL c41
  have K_GREATER_OR_EQUAL : own_K s s.heap a_GREATER_OR_EQUAL (4 : Int32) (62 : Int32) := ⟨E_GREATER_OR_EQUAL, F_GREATER_OR_EQUAL_ordinal, y_GREATER_OR_EQUAL, v_GREATER_OR_EQUAL, l_GREATER_OR_EQUAL, (2 : Int32), Fld.start ((fld_at e_GREATER_OR_EQUAL).symm.trans ey_GREATER_OR_EQUAL), Exa.start ey_GREATER_OR_EQUAL c37, Fld.start ((fld_at ey_GREATER_OR_EQUAL).symm.trans ev_GREATER_OR_EQUAL), own_fld ey_GREATER_OR_EQUAL c40, A_GREATER_OR_EQUAL, z_GREATER_OR_EQUAL, by decide, by decide, q_GREATER_OR_EQUAL.1, q_GREATER_OR_EQUAL.2⟩
  obtain ⟨y_GREATER, ey_GREATER⟩ := exa_v c30
  obtain ⟨v_GREATER, ev_GREATER⟩ := arr_v c31
  obtain ⟨l_GREATER, A_GREATER⟩ := Arr.start ev_GREATER c31
  have z_GREATER := own_length ev_GREATER A_GREATER c32
  have q_GREATER := own_elem ev_GREATER A_GREATER c34
  have K_GREATER : own_K s s.heap a_GREATER (5 : Int32) (62 : Int32) := ⟨E_GREATER, F_GREATER_ordinal, y_GREATER, v_GREATER, l_GREATER, (1 : Int32), Fld.start ((fld_at e_GREATER).symm.trans ey_GREATER), Exa.start ey_GREATER c30, Fld.start ((fld_at ey_GREATER).symm.trans ev_GREATER), own_fld ey_GREATER c33, A_GREATER, z_GREATER, by decide, by decide, q_GREATER.1, q_GREATER.2⟩
  obtain ⟨hsets, hown0⟩ := atoms_of _ (rest_1_c_eq ▸ (show rest_1_c.before _ s = true from hrest))
  have n5 := not_v (Cond.before_iff.mp (hsets _ (List.mem_of_getElem? (i := 2) rfl)))
  obtain ⟨wcs, e10⟩ := is_v (Cond.before_iff.mp (hsets _ (List.mem_of_getElem? (i := 1) rfl)))
  have S_CS : Sta s s.heap "java/lang/String" "COMPACT_STRINGS" "Z" (.int wcs) := Sta.start e10 (Or.inl (hsets _ (List.mem_of_getElem? (i := 0) rfl)))
  obtain ⟨vf, e14, r15⟩ := isR_v (Cond.before_iff.mp (hsets _ (List.mem_of_getElem? (i := 8) rfl)))
  have S_FM : Sta s s.heap "jdk/internal/util/Preconditions" "SIOOBE_FORMATTER" "Ljava/util/function/BiFunction;" vf := Sta.start e14 (Or.inl (hsets _ (List.mem_of_getElem? (i := 7) rfl)))
  have hcs : ¬ (wcs = (0 : Int32)) := gotF (Cond.eq_ints e10 (Term.int_eval (0))) n5
  obtain ⟨n, o, h1, h2, h3, _, L, rfl, ⟨rfl, N⟩, hq⟩ := rm0 l s _ hw tables_1 i0 a_EQUAL a_NOT_EQUAL a_LESS_OR_EQUAL a_LESS a_GREATER_OR_EQUAL a_GREATER vf wcs s.heap s.heap.size (Nat.le_refl _) S_EQUAL S_NOT_EQUAL S_LESS_OR_EQUAL S_LESS S_GREATER_OR_EQUAL S_GREATER S_FM r15 S_CS hcs K_EQUAL K_NOT_EQUAL K_LESS_OR_EQUAL K_LESS K_GREATER_OR_EQUAL K_GREATER p e ha hc hk s m _ below hf ((Spec.applies_iff_loose hf).mp happ).1 ⟨rfl, State.Warmed39.refl s, rfl⟩ trivial
  refine ⟨n, _, h1, h2, h3, hpost _ _ _ _ _ _ ⟨Cond.after_iff.mpr rfl, Cond.after_iff.mpr (eq_i res_at (Term.int_eval (1)) rfl), trivial⟩ ⟨hq.1, hq.2.1, (hq.2.2.sift fun y hy => Or.inr (N y hy)).mono (by decide) (by decide)⟩⟩
theorem main_1_1 : Claimed_1_1 := comes_1 fun _ _ _ _ _ _ h hF => ⟨h.1, hF⟩
theorem main_1_2 : Claimed_1_2 := comes_1 fun _ _ _ _ _ _ h hF => ⟨h.2.1, hF⟩
end Jvm.Pilot.@@N@@
namespace Jvm.Pilot.@@N@@
open Jvm Jvm.ClassFile Sem Op Lib Jvm.Free Jvm.Stand Jvm.Pilot.@@N@@.Jvm.D
/-! MADE BY PROGRAM (witnessworld.py) out of the Statement's table words and the real class files: 18 classes; the members and pool entries that the words name. The judged class is class 1, her method 2. -/
namespace start1
open Jvm.ClassFile
def u (s : String) : CpInfo := .utf8 (stringToUtf16 s)
/-- a pool by its gaps: so many unusable entries, then the entry; so many at the end -/
def gap : Nat → List CpInfo → List CpInfo
  | 0, r => r
  | n + 1, r => .unusable :: gap n r
def poolList (es : List (Nat × CpInfo)) (last : Nat) : List CpInfo := es.foldr (fun e r => gap e.1 (e.2 :: r)) (gap last [])
def pool (es : List (Nat × CpInfo)) (last : Nat) : Array CpInfo := ⟨poolList es last⟩
def fileOf (pool : Array CpInfo) (this : Nat) (attrs : Array Attribute := #[]) (ms : Array MethodInfo := #[]) (fl : Nat := 33) (sup : Nat := 0) (ifs : Array Nat := #[]) (fds : Array FieldInfo := #[]) : ClassFile where
  minorVersion := 0
  majorVersion := 65
  constantPool := pool
  accessFlags := fl
  thisClass := this
  superClass := sup
  interfaces := ifs
  fields := fds
  methods := ms
  attributes := attrs
def plain (name : String) (sup : Option ClassId) : Class where
  name := name
  kind := .ordinary
  loader := none
  accessFlags := 33
  super := sup
  interfaces := #[]
  cf := none
  fields := #[]
  methods := #[]
  instanceTypes := #[]
  staticTypes := #[]
  resolved := #[]
  callSites := []
  init := .initialized
  statics := none
  mirror := none

def pool0 : Array CpInfo := pool [(5, u "<init>"), (0, u "()V"), (1, .class_ 10), (1, u "java/lang/Object")] 113

def k0m0 : Method := { name := "<init>", desc := "()V", sig := { parameters := [], returnType := none }, accessFlags := 1, code := none }
/-- java/lang/Object -/
def k0 : Class := { plain "java/lang/Object" none with
  accessFlags := 33
  interfaces := #[]
  cf := some (fileOf pool0 8 #[] #[{ accessFlags := 1, nameIndex := 5, descriptorIndex := 6, attributes := #[] }] 33 0 #[] #[])
  fields := #[]
  methods := #[k0m0]
  instanceTypes := #[]
  staticTypes := #[]
  resolved := Array.replicate 124 none
  statics := none }

def pool1 : Array CpInfo := pool [(2, .class_ 4), (1, u "java/lang/Object"), (0, u "<init>"), (0, u "()V"), (0, .fieldref 8 9), (0, .class_ 10), (0, .nameAndType 11 12), (0, u "com/example/resultree/resultree/xpath/Comparison"), (0, u "EQUAL"), (0, u "Lcom/example/resultree/resultree/xpath/Comparison;"), (0, .fieldref 8 14), (0, .nameAndType 15 12), (0, u "NOT_EQUAL"), (0, .fieldref 8 17), (0, .nameAndType 18 12), (0, u "LESS_OR_EQUAL"), (0, .fieldref 8 20), (0, .nameAndType 21 12), (0, u "LESS"), (0, .fieldref 8 23), (0, .nameAndType 24 12), (0, u "GREATER_OR_EQUAL"), (0, .fieldref 8 26), (0, .nameAndType 27 12), (0, u "GREATER"), (0, .integer 2147483647), (0, .methodref 30 31), (0, .class_ 32), (0, .nameAndType 33 34), (0, u "com/example/resultree/resultree/xpath/ComparisonIsOrderingPinLaw"), (0, u "pick"), (0, u "(I)Lcom/example/resultree/resultree/xpath/Comparison;"), (0, .methodref 8 36), (0, .nameAndType 37 38), (0, u "isOrdering"), (0, u "()Z"), (0, .methodref 8 40), (0, .nameAndType 41 42), (0, u "holds"), (0, u "(I)Z"), (0, .methodref 8 44), (0, .nameAndType 45 46), (0, u "symbol"), (0, u "()Ljava/lang/String;"), (0, .methodref 48 49), (0, .class_ 50), (0, .nameAndType 51 38), (0, u "java/lang/String"), (0, u "isEmpty"), (0, .methodref 48 53), (0, .nameAndType 54 55), (0, u "charAt"), (0, u "(I)C"), (3, u "law")] 2

def k1m0 : Method := { name := "<init>", desc := "()V", sig := { parameters := [], returnType := none }, accessFlags := 2, code := none }
def k1c1 : Code := { maxStack := 2, maxLocals := 1, code := method_2_code, exceptionTable := #[], attributes := #[] }
def k1m1 : Method := { name := "pick", desc := "(I)Lcom/example/resultree/resultree/xpath/Comparison;", sig := { parameters := [.int], returnType := some (.object "com/example/resultree/resultree/xpath/Comparison") }, accessFlags := 10, code := some k1c1 }
def k1c2 : Code := { maxStack := 3, maxLocals := 8, code := code, exceptionTable := #[], attributes := #[] }
def k1m2 : Method := { name := "law", desc := "(I)Z", sig := { parameters := [.int], returnType := some .boolean }, accessFlags := 9, code := some k1c2 }
/-- com/example/resultree/resultree/xpath/ComparisonIsOrderingPinLaw -/
def k1 : Class := { plain "com/example/resultree/resultree/xpath/ComparisonIsOrderingPinLaw" (some 0) with
  accessFlags := 49
  interfaces := #[]
  cf := some (fileOf pool1 30 #[] #[{ accessFlags := 2, nameIndex := 5, descriptorIndex := 6, attributes := #[] }, { accessFlags := 10, nameIndex := 33, descriptorIndex := 34, attributes := #[] }, { accessFlags := 9, nameIndex := 59, descriptorIndex := 42, attributes := #[] }] 49 2 #[] #[])
  fields := #[]
  methods := #[k1m0, k1m1, k1m2]
  instanceTypes := #[]
  staticTypes := #[]
  resolved := Array.replicate 62 none
  statics := none }

def pool2 : Array CpInfo := pool [(1, .class_ 2), (0, u "java/lang/constant/Constable"), (0, .class_ 4), (0, u "java/lang/Object")] 6

/-- java/lang/constant/Constable -/
def k2 : Class := { plain "java/lang/constant/Constable" (some 0) with
  accessFlags := 1537
  interfaces := #[]
  cf := some (fileOf pool2 1 #[] #[] 1537 3 #[] #[])
  fields := #[]
  methods := #[]
  instanceTypes := #[]
  staticTypes := #[]
  resolved := Array.replicate 11 none
  statics := none }

def pool3 : Array CpInfo := pool [(1, .class_ 2), (0, u "java/lang/Comparable"), (0, .class_ 4), (0, u "java/lang/Object")] 7

/-- java/lang/Comparable -/
def k3 : Class := { plain "java/lang/Comparable" (some 0) with
  accessFlags := 1537
  interfaces := #[]
  cf := some (fileOf pool3 1 #[] #[] 1537 3 #[] #[])
  fields := #[]
  methods := #[]
  instanceTypes := #[]
  staticTypes := #[]
  resolved := Array.replicate 12 none
  statics := none }

def pool4 : Array CpInfo := pool [(1, .class_ 2), (0, u "java/io/Serializable"), (0, .class_ 4), (0, u "java/lang/Object")] 2

/-- java/io/Serializable -/
def k4 : Class := { plain "java/io/Serializable" (some 0) with
  accessFlags := 1537
  interfaces := #[]
  cf := some (fileOf pool4 1 #[] #[] 1537 3 #[] #[])
  fields := #[]
  methods := #[]
  instanceTypes := #[]
  staticTypes := #[]
  resolved := Array.replicate 7 none
  statics := none }

def pool5 : Array CpInfo := pool [(2, .class_ 4), (1, u "java/lang/Enum"), (0, u "name"), (0, u "Ljava/lang/String;"), (0, .fieldref 2 8), (0, .nameAndType 9 10), (0, u "ordinal"), (0, u "I"), (1, .class_ 14), (1, u "java/lang/Object"), (4, u "hash"), (86, .class_ 108), (1, u "java/lang/Enum$EnumDesc"), (2, .class_ 112), (0, u "java/lang/constant/Constable"), (0, .class_ 114), (0, u "java/lang/Comparable"), (0, .class_ 116), (0, u "java/io/Serializable"), (9, u "()I")] 77

def k5c0 : Code := { maxStack := 1, maxLocals := 1, code := jdk_37_method_2_code, exceptionTable := #[], attributes := #[] }
def k5m0 : Method := { name := "ordinal", desc := "()I", sig := { parameters := [], returnType := some .int }, accessFlags := 17, code := some k5c0 }
/-- java/lang/Enum -/
def k5 : Class := { plain "java/lang/Enum" (some 0) with
  accessFlags := 1057
  interfaces := #[2, 3, 4]
  cf := some (fileOf pool5 2 #[.nestMembers #[106]] #[{ accessFlags := 17, nameIndex := 9, descriptorIndex := 126, attributes := #[] }] 1057 12 #[111, 113, 115] #[{ accessFlags := 18, nameIndex := 5, descriptorIndex := 6, attributes := #[] }, { accessFlags := 18, nameIndex := 9, descriptorIndex := 10, attributes := #[] }, { accessFlags := 2, nameIndex := 19, descriptorIndex := 10, attributes := #[] }])
  fields := #[{ name := "name", type := (.object "java/lang/String"), accessFlags := 18, slot := 0, constantValue := 0 }, { name := "ordinal", type := .int, accessFlags := 18, slot := 1, constantValue := 0 }, { name := "hash", type := .int, accessFlags := 2, slot := 2, constantValue := 0 }]
  methods := #[k5m0]
  instanceTypes := #[(.object "java/lang/String"), .int, .int]
  staticTypes := #[]
  resolved := Array.replicate 204 none
  statics := none }

def pool6 : Array CpInfo := pool [(1, .class_ 2), (0, u "com/example/resultree/resultree/xpath/Comparison"), (0, .fieldref 1 4), (0, .nameAndType 5 6), (0, u "EQUAL"), (0, u "Lcom/example/resultree/resultree/xpath/Comparison;"), (0, .fieldref 1 8), (0, .nameAndType 9 6), (0, u "NOT_EQUAL"), (2, u "LESS_OR_EQUAL"), (2, u "LESS"), (2, u "GREATER_OR_EQUAL"), (2, u "GREATER"), (2, u "$VALUES"), (0, u "[Lcom/example/resultree/resultree/xpath/Comparison;"), (6, .class_ 34), (1, u "java/lang/Enum"), (6, .fieldref 1 42), (0, .nameAndType 43 44), (0, u "symbol"), (0, u "Ljava/lang/String;"), (2, u "keyword"), (0, .methodref 1 49), (0, .nameAndType 50 51), (0, u "ordinal"), (0, u "()I"), (44, u "()Ljava/lang/String;"), (0, u "isOrdering"), (0, u "()Z"), (1, u "holds"), (0, u "(I)Z")] 5

def k6c0 : Code := { maxStack := 1, maxLocals := 1, code := prog_113_method_4_code, exceptionTable := #[], attributes := #[] }
def k6m0 : Method := { name := "symbol", desc := "()Ljava/lang/String;", sig := { parameters := [], returnType := some (.object "java/lang/String") }, accessFlags := 0, code := some k6c0 }
def k6c1 : Code := { maxStack := 2, maxLocals := 1, code := prog_113_method_6_code, exceptionTable := #[], attributes := #[] }
def k6m1 : Method := { name := "isOrdering", desc := "()Z", sig := { parameters := [], returnType := some .boolean }, accessFlags := 0, code := some k6c1 }
def k6c2 : Code := { maxStack := 1, maxLocals := 2, code := prog_113_method_7_code, exceptionTable := #[], attributes := #[] }
def k6m2 : Method := { name := "holds", desc := "(I)Z", sig := { parameters := [.int], returnType := some .boolean }, accessFlags := 0, code := some k6c2 }
/-- com/example/resultree/resultree/xpath/Comparison -/
def k6 : Class := { plain "com/example/resultree/resultree/xpath/Comparison" (some 5) with
  accessFlags := 16432
  interfaces := #[]
  cf := some (fileOf pool6 1 #[] #[{ accessFlags := 0, nameIndex := 43, descriptorIndex := 96, attributes := #[] }, { accessFlags := 0, nameIndex := 97, descriptorIndex := 98, attributes := #[] }, { accessFlags := 0, nameIndex := 100, descriptorIndex := 101, attributes := #[] }] 16432 32 #[] #[{ accessFlags := 16409, nameIndex := 5, descriptorIndex := 6, attributes := #[] }, { accessFlags := 16409, nameIndex := 9, descriptorIndex := 6, attributes := #[] }, { accessFlags := 16409, nameIndex := 12, descriptorIndex := 6, attributes := #[] }, { accessFlags := 16409, nameIndex := 15, descriptorIndex := 6, attributes := #[] }, { accessFlags := 16409, nameIndex := 18, descriptorIndex := 6, attributes := #[] }, { accessFlags := 16409, nameIndex := 21, descriptorIndex := 6, attributes := #[] }, { accessFlags := 18, nameIndex := 43, descriptorIndex := 44, attributes := #[] }, { accessFlags := 18, nameIndex := 47, descriptorIndex := 44, attributes := #[] }, { accessFlags := 4122, nameIndex := 24, descriptorIndex := 25, attributes := #[] }])
  fields := #[{ name := "EQUAL", type := (.object "com/example/resultree/resultree/xpath/Comparison"), accessFlags := 16409, slot := 0, constantValue := 0 }, { name := "NOT_EQUAL", type := (.object "com/example/resultree/resultree/xpath/Comparison"), accessFlags := 16409, slot := 1, constantValue := 0 }, { name := "LESS_OR_EQUAL", type := (.object "com/example/resultree/resultree/xpath/Comparison"), accessFlags := 16409, slot := 2, constantValue := 0 }, { name := "LESS", type := (.object "com/example/resultree/resultree/xpath/Comparison"), accessFlags := 16409, slot := 3, constantValue := 0 }, { name := "GREATER_OR_EQUAL", type := (.object "com/example/resultree/resultree/xpath/Comparison"), accessFlags := 16409, slot := 4, constantValue := 0 }, { name := "GREATER", type := (.object "com/example/resultree/resultree/xpath/Comparison"), accessFlags := 16409, slot := 5, constantValue := 0 }, { name := "symbol", type := (.object "java/lang/String"), accessFlags := 18, slot := 3, constantValue := 0 }, { name := "keyword", type := (.object "java/lang/String"), accessFlags := 18, slot := 4, constantValue := 0 }, { name := "$VALUES", type := (.array (.object "com/example/resultree/resultree/xpath/Comparison")), accessFlags := 4122, slot := 6, constantValue := 0 }]
  methods := #[k6m0, k6m1, k6m2]
  instanceTypes := #[(.object "java/lang/String"), .int, .int, (.object "java/lang/String"), (.object "java/lang/String")]
  staticTypes := #[(.object "com/example/resultree/resultree/xpath/Comparison"), (.object "com/example/resultree/resultree/xpath/Comparison"), (.object "com/example/resultree/resultree/xpath/Comparison"), (.object "com/example/resultree/resultree/xpath/Comparison"), (.object "com/example/resultree/resultree/xpath/Comparison"), (.object "com/example/resultree/resultree/xpath/Comparison"), (.array (.object "com/example/resultree/resultree/xpath/Comparison"))]
  resolved := Array.replicate 107 none
  statics := some 0 }

def pool7 : Array CpInfo := pool [(2, .class_ 4), (1, u "java/lang/CharSequence"), (42, .class_ 48), (0, u "java/lang/CharSequence$1CodePointIterator"), (10, .class_ 60), (0, u "java/lang/CharSequence$1CharIterator"), (5, .class_ 67), (0, u "java/lang/Object")] 63

/-- java/lang/CharSequence -/
def k7 : Class := { plain "java/lang/CharSequence" (some 0) with
  accessFlags := 1537
  interfaces := #[]
  cf := some (fileOf pool7 2 #[.nestMembers #[47, 59]] #[] 1537 66 #[] #[])
  fields := #[]
  methods := #[]
  instanceTypes := #[]
  staticTypes := #[]
  resolved := Array.replicate 131 none
  statics := none }

def pool8 : Array CpInfo := pool [(1, .class_ 2), (0, u "java/lang/constant/ConstantDesc"), (0, .class_ 4), (0, u "java/lang/Object")] 32

/-- java/lang/constant/ConstantDesc -/
def k8 : Class := { plain "java/lang/constant/ConstantDesc" (some 0) with
  accessFlags := 1537
  interfaces := #[]
  cf := some (fileOf pool8 1 #[] #[] 1537 3 #[] #[])
  fields := #[]
  methods := #[]
  instanceTypes := #[]
  staticTypes := #[]
  resolved := Array.replicate 37 none
  statics := none }

def pool9 : Array CpInfo := pool [(2, .class_ 4), (1, u "java/lang/Object"), (0, u "<init>"), (0, u "()V"), (2, .fieldref 10 11), (0, .class_ 12), (0, .nameAndType 13 14), (0, u "java/lang/String"), (0, u "value"), (0, u "[B"), (0, .fieldref 10 16), (0, .nameAndType 17 18), (0, u "coder"), (0, u "B"), (2, u "hash"), (0, u "I"), (2, u "hashIsZero"), (0, u "Z"), (11, .fieldref 10 39), (0, .nameAndType 40 26), (0, u "COMPACT_STRINGS"), (66, .class_ 109), (1, u "java/lang/StringLatin1"), (32, u "()Z"), (220, u "([BI)C"), (27, u "(II)V"), (35, u "(I)C"), (64, .methodref 10 493), (0, .nameAndType 494 142), (0, u "isLatin1"), (0, .methodref 107 496), (0, .nameAndType 497 363), (0, u "charAt"), (3, u "checkIndex"), (73, .class_ 576), (0, u "java/lang/CharSequence"), (22, u "CASE_INSENSITIVE_ORDER"), (0, u "Ljava/util/Comparator;"), (91, u "isEmpty"), (360, .fieldref 1054 1055), (0, .class_ 1056), (0, .nameAndType 1057 1058), (0, u "jdk/internal/util/Preconditions"), (0, u "SIOOBE_FORMATTER"), (0, u "Ljava/util/function/BiFunction;"), (0, .methodref 1054 1060), (0, .nameAndType 501 1061), (0, u "(IILjava/util/function/BiFunction;)I"), (39, u "serialPersistentFields"), (0, u "[Ljava/io/ObjectStreamField;"), (0, .class_ 1104), (0, u "java/lang/String$CaseInsensitiveComparator"), (1, .class_ 1107), (0, u "java/io/Serializable"), (0, .class_ 1109), (0, u "java/lang/Comparable"), (0, .class_ 1111), (0, u "java/lang/constant/Constable"), (0, .class_ 1113), (0, u "java/lang/constant/ConstantDesc"), (2, u "serialVersionUID"), (0, u "J"), (3, u "REPL"), (0, u "C"), (2, u "LATIN1"), (1, u "UTF16")] 323

def k9m0 : Method := { name := "<init>", desc := "()V", sig := { parameters := [], returnType := none }, accessFlags := 1, code := none }
def k9c1 : Code := { maxStack := 1, maxLocals := 1, code := jdk_42_method_55_code, exceptionTable := #[], attributes := #[] }
def k9m1 : Method := { name := "isEmpty", desc := "()Z", sig := { parameters := [], returnType := some .boolean }, accessFlags := 1, code := some k9c1 }
def k9c2 : Code := { maxStack := 2, maxLocals := 2, code := jdk_42_method_56_code, exceptionTable := #[], attributes := #[] }
def k9m2 : Method := { name := "charAt", desc := "(I)C", sig := { parameters := [.int], returnType := some .char }, accessFlags := 1, code := some k9c2 }
def k9c3 : Code := { maxStack := 1, maxLocals := 1, code := jdk_42_method_154_code, exceptionTable := #[], attributes := #[] }
def k9m3 : Method := { name := "isLatin1", desc := "()Z", sig := { parameters := [], returnType := some .boolean }, accessFlags := 0, code := some k9c3 }
def k9c4 : Code := { maxStack := 3, maxLocals := 2, code := jdk_42_method_155_code, exceptionTable := #[], attributes := #[] }
def k9m4 : Method := { name := "checkIndex", desc := "(II)V", sig := { parameters := [.int, .int], returnType := none }, accessFlags := 8, code := some k9c4 }
/-- java/lang/String -/
def k9 : Class := { plain "java/lang/String" (some 0) with
  accessFlags := 49
  interfaces := #[4, 3, 7, 2, 8]
  cf := some (fileOf pool9 10 #[.nestMembers #[1103]] #[{ accessFlags := 1, nameIndex := 5, descriptorIndex := 6, attributes := #[] }, { accessFlags := 1, nameIndex := 692, descriptorIndex := 142, attributes := #[] }, { accessFlags := 1, nameIndex := 497, descriptorIndex := 427, attributes := #[] }, { accessFlags := 0, nameIndex := 494, descriptorIndex := 142, attributes := #[] }, { accessFlags := 8, nameIndex := 501, descriptorIndex := 391, attributes := #[] }] 49 2 #[1106, 1108, 575, 1110, 1112] #[{ accessFlags := 18, nameIndex := 13, descriptorIndex := 14, attributes := #[] }, { accessFlags := 18, nameIndex := 17, descriptorIndex := 18, attributes := #[] }, { accessFlags := 2, nameIndex := 21, descriptorIndex := 22, attributes := #[] }, { accessFlags := 2, nameIndex := 25, descriptorIndex := 26, attributes := #[] }, { accessFlags := 26, nameIndex := 1116, descriptorIndex := 1117, attributes := #[] }, { accessFlags := 24, nameIndex := 40, descriptorIndex := 26, attributes := #[] }, { accessFlags := 26, nameIndex := 1101, descriptorIndex := 1102, attributes := #[] }, { accessFlags := 26, nameIndex := 1121, descriptorIndex := 1122, attributes := #[] }, { accessFlags := 25, nameIndex := 599, descriptorIndex := 600, attributes := #[] }, { accessFlags := 24, nameIndex := 1125, descriptorIndex := 18, attributes := #[] }, { accessFlags := 24, nameIndex := 1127, descriptorIndex := 18, attributes := #[] }])
  fields := #[{ name := "value", type := (.array .byte), accessFlags := 18, slot := 0, constantValue := 0 }, { name := "coder", type := .byte, accessFlags := 18, slot := 1, constantValue := 0 }, { name := "hash", type := .int, accessFlags := 2, slot := 2, constantValue := 0 }, { name := "hashIsZero", type := .boolean, accessFlags := 2, slot := 3, constantValue := 0 }, { name := "serialVersionUID", type := .long, accessFlags := 26, slot := 0, constantValue := 0 }, { name := "COMPACT_STRINGS", type := .boolean, accessFlags := 24, slot := 1, constantValue := 0 }, { name := "serialPersistentFields", type := (.array (.object "java/io/ObjectStreamField")), accessFlags := 26, slot := 2, constantValue := 0 }, { name := "REPL", type := .char, accessFlags := 26, slot := 3, constantValue := 0 }, { name := "CASE_INSENSITIVE_ORDER", type := (.object "java/util/Comparator"), accessFlags := 25, slot := 4, constantValue := 0 }, { name := "LATIN1", type := .byte, accessFlags := 24, slot := 5, constantValue := 0 }, { name := "UTF16", type := .byte, accessFlags := 24, slot := 6, constantValue := 0 }]
  methods := #[k9m0, k9m1, k9m2, k9m3, k9m4]
  instanceTypes := #[(.array .byte), .byte, .int, .boolean]
  staticTypes := #[.long, .boolean, (.array (.object "java/io/ObjectStreamField")), .char, (.object "java/util/Comparator"), .byte, .byte]
  resolved := Array.replicate 1451 none
  statics := some 1 }

def pool10 : Array CpInfo := pool [(1, .class_ 2), (0, u "java/lang/String"), (1, .class_ 6), (1, u "java/lang/Object"), (0, u "<init>"), (0, u "()V"), (0, .methodref 1 10), (0, .nameAndType 11 12), (0, u "checkIndex"), (0, u "(II)V"), (1, .class_ 16), (1, u "java/lang/StringLatin1"), (36, u "([BI)C"), (67, u "$assertionsDisabled"), (0, u "Z"), (98, .class_ 223), (1, u "java/lang/StringLatin1$LinesSpliterator"), (28, u "charAt"), (137, .class_ 391), (0, u "java/lang/StringLatin1$CharsSpliterator")] 3

def k10m0 : Method := { name := "<init>", desc := "()V", sig := { parameters := [], returnType := none }, accessFlags := 0, code := none }
def k10c1 : Code := { maxStack := 2, maxLocals := 2, code := jdk_43_method_2_code, exceptionTable := #[], attributes := #[] }
def k10m1 : Method := { name := "charAt", desc := "([BI)C", sig := { parameters := [(.array .byte), .int], returnType := some .char }, accessFlags := 9, code := some k10c1 }
/-- java/lang/StringLatin1 -/
def k10 : Class := { plain "java/lang/StringLatin1" (some 0) with
  accessFlags := 48
  interfaces := #[]
  cf := some (fileOf pool10 14 #[.nestMembers #[390, 221]] #[{ accessFlags := 0, nameIndex := 7, descriptorIndex := 8, attributes := #[] }, { accessFlags := 9, nameIndex := 252, descriptorIndex := 53, attributes := #[] }] 48 4 #[] #[{ accessFlags := 4120, nameIndex := 121, descriptorIndex := 122, attributes := #[] }])
  fields := #[{ name := "$assertionsDisabled", type := .boolean, accessFlags := 4120, slot := 0, constantValue := 0 }]
  methods := #[k10m0, k10m1]
  instanceTypes := #[]
  staticTypes := #[.boolean]
  resolved := Array.replicate 395 none
  statics := none }

def pool11 : Array CpInfo := pool [(2, .class_ 4), (1, u "java/lang/Object"), (0, u "<init>"), (0, u "()V"), (17, .class_ 26), (1, u "jdk/internal/util/Preconditions"), (6, u "checkIndex"), (21, .class_ 56), (0, u "jdk/internal/util/Preconditions$4"), (57, .class_ 115), (0, u "jdk/internal/util/Preconditions$1"), (7, u "SIOOBE_FORMATTER"), (0, u "Ljava/util/function/BiFunction;"), (0, .class_ 126), (0, u "jdk/internal/util/Preconditions$2"), (3, u "AIOOBE_FORMATTER"), (0, .class_ 132), (0, u "jdk/internal/util/Preconditions$3"), (3, u "IOOBE_FORMATTER"), (41, u "(IILjava/util/function/BiFunction;)I")] 15

def k11m0 : Method := { name := "<init>", desc := "()V", sig := { parameters := [], returnType := none }, accessFlags := 1, code := none }
def k11c1 : Code := { maxStack := 3, maxLocals := 3, code := jdk_41_method_11_code, exceptionTable := #[], attributes := #[] }
def k11m1 : Method := { name := "checkIndex", desc := "(IILjava/util/function/BiFunction;)I", sig := { parameters := [.int, .int, (.object "java/util/function/BiFunction")], returnType := some .int }, accessFlags := 9, code := some k11c1 }
/-- jdk/internal/util/Preconditions -/
def k11 : Class := { plain "jdk/internal/util/Preconditions" (some 0) with
  accessFlags := 33
  interfaces := #[]
  cf := some (fileOf pool11 24 #[.nestMembers #[55, 131, 125, 114]] #[{ accessFlags := 1, nameIndex := 5, descriptorIndex := 6, attributes := #[] }, { accessFlags := 9, nameIndex := 33, descriptorIndex := 178, attributes := #[] }] 33 2 #[] #[{ accessFlags := 25, nameIndex := 123, descriptorIndex := 124, attributes := #[] }, { accessFlags := 25, nameIndex := 130, descriptorIndex := 124, attributes := #[] }, { accessFlags := 25, nameIndex := 136, descriptorIndex := 124, attributes := #[] }])
  fields := #[{ name := "SIOOBE_FORMATTER", type := (.object "java/util/function/BiFunction"), accessFlags := 25, slot := 0, constantValue := 0 }, { name := "AIOOBE_FORMATTER", type := (.object "java/util/function/BiFunction"), accessFlags := 25, slot := 1, constantValue := 0 }, { name := "IOOBE_FORMATTER", type := (.object "java/util/function/BiFunction"), accessFlags := 25, slot := 2, constantValue := 0 }]
  methods := #[k11m0, k11m1]
  instanceTypes := #[]
  staticTypes := #[(.object "java/util/function/BiFunction"), (.object "java/util/function/BiFunction"), (.object "java/util/function/BiFunction")]
  resolved := Array.replicate 194 none
  statics := some 2 }

def pool12 : Array CpInfo := pool [(9, u "<init>"), (6, .class_ 18), (1, u "java/lang/Object"), (0, u "()V"), (1, .class_ 23), (1, u "jdk/internal/util/ArraysSupport"), (0, u "LOG2_ARRAY_LONG_INDEX_SCALE"), (0, u "I"), (2, u "U"), (0, u "Ljdk/internal/misc/Unsafe;"), (8, u "BIG_ENDIAN"), (0, u "Z"), (8, u "LOG2_BYTE_BIT_SIZE"), (4, u "LOG2_ARRAY_INT_INDEX_SCALE"), (54, u "JLA"), (0, u "Ljdk/internal/access/JavaLangAccess;"), (11, u "LOG2_ARRAY_BOOLEAN_INDEX_SCALE"), (9, u "LOG2_ARRAY_BYTE_INDEX_SCALE"), (5, u "LOG2_ARRAY_CHAR_INDEX_SCALE"), (5, u "LOG2_ARRAY_SHORT_INDEX_SCALE"), (18, u "LOG2_ARRAY_FLOAT_INDEX_SCALE"), (24, u "LOG2_ARRAY_DOUBLE_INDEX_SCALE"), (89, u "T_BOOLEAN"), (2, u "T_CHAR"), (1, u "T_FLOAT"), (1, u "T_DOUBLE"), (1, u "T_BYTE"), (1, u "T_SHORT"), (1, u "T_INT"), (1, u "T_LONG"), (1, u "SOFT_MAX_ARRAY_LENGTH")] 83

def k12m0 : Method := { name := "<init>", desc := "()V", sig := { parameters := [], returnType := none }, accessFlags := 2, code := none }
/-- jdk/internal/util/ArraysSupport -/
def k12 : Class := { plain "jdk/internal/util/ArraysSupport" (some 0) with
  accessFlags := 33
  interfaces := #[]
  cf := some (fileOf pool12 21 #[] #[{ accessFlags := 2, nameIndex := 9, descriptorIndex := 19, attributes := #[] }] 33 16 #[] #[{ accessFlags := 24, nameIndex := 28, descriptorIndex := 29, attributes := #[] }, { accessFlags := 26, nameIndex := 38, descriptorIndex := 39, attributes := #[] }, { accessFlags := 25, nameIndex := 121, descriptorIndex := 25, attributes := #[] }, { accessFlags := 25, nameIndex := 131, descriptorIndex := 25, attributes := #[] }, { accessFlags := 25, nameIndex := 137, descriptorIndex := 25, attributes := #[] }, { accessFlags := 25, nameIndex := 143, descriptorIndex := 25, attributes := #[] }, { accessFlags := 25, nameIndex := 53, descriptorIndex := 25, attributes := #[] }, { accessFlags := 25, nameIndex := 24, descriptorIndex := 25, attributes := #[] }, { accessFlags := 25, nameIndex := 162, descriptorIndex := 25, attributes := #[] }, { accessFlags := 25, nameIndex := 187, descriptorIndex := 25, attributes := #[] }, { accessFlags := 26, nameIndex := 48, descriptorIndex := 25, attributes := #[] }, { accessFlags := 25, nameIndex := 277, descriptorIndex := 25, attributes := #[] }, { accessFlags := 25, nameIndex := 280, descriptorIndex := 25, attributes := #[] }, { accessFlags := 25, nameIndex := 282, descriptorIndex := 25, attributes := #[] }, { accessFlags := 25, nameIndex := 284, descriptorIndex := 25, attributes := #[] }, { accessFlags := 25, nameIndex := 286, descriptorIndex := 25, attributes := #[] }, { accessFlags := 25, nameIndex := 288, descriptorIndex := 25, attributes := #[] }, { accessFlags := 25, nameIndex := 290, descriptorIndex := 25, attributes := #[] }, { accessFlags := 25, nameIndex := 292, descriptorIndex := 25, attributes := #[] }, { accessFlags := 26, nameIndex := 108, descriptorIndex := 109, attributes := #[] }, { accessFlags := 25, nameIndex := 294, descriptorIndex := 25, attributes := #[] }])
  fields := #[{ name := "U", type := (.object "jdk/internal/misc/Unsafe"), accessFlags := 24, slot := 0, constantValue := 0 }, { name := "BIG_ENDIAN", type := .boolean, accessFlags := 26, slot := 1, constantValue := 0 }, { name := "LOG2_ARRAY_BOOLEAN_INDEX_SCALE", type := .int, accessFlags := 25, slot := 2, constantValue := 0 }, { name := "LOG2_ARRAY_BYTE_INDEX_SCALE", type := .int, accessFlags := 25, slot := 3, constantValue := 0 }, { name := "LOG2_ARRAY_CHAR_INDEX_SCALE", type := .int, accessFlags := 25, slot := 4, constantValue := 0 }, { name := "LOG2_ARRAY_SHORT_INDEX_SCALE", type := .int, accessFlags := 25, slot := 5, constantValue := 0 }, { name := "LOG2_ARRAY_INT_INDEX_SCALE", type := .int, accessFlags := 25, slot := 6, constantValue := 0 }, { name := "LOG2_ARRAY_LONG_INDEX_SCALE", type := .int, accessFlags := 25, slot := 7, constantValue := 0 }, { name := "LOG2_ARRAY_FLOAT_INDEX_SCALE", type := .int, accessFlags := 25, slot := 8, constantValue := 0 }, { name := "LOG2_ARRAY_DOUBLE_INDEX_SCALE", type := .int, accessFlags := 25, slot := 9, constantValue := 0 }, { name := "LOG2_BYTE_BIT_SIZE", type := .int, accessFlags := 26, slot := 10, constantValue := 0 }, { name := "T_BOOLEAN", type := .int, accessFlags := 25, slot := 11, constantValue := 0 }, { name := "T_CHAR", type := .int, accessFlags := 25, slot := 12, constantValue := 0 }, { name := "T_FLOAT", type := .int, accessFlags := 25, slot := 13, constantValue := 0 }, { name := "T_DOUBLE", type := .int, accessFlags := 25, slot := 14, constantValue := 0 }, { name := "T_BYTE", type := .int, accessFlags := 25, slot := 15, constantValue := 0 }, { name := "T_SHORT", type := .int, accessFlags := 25, slot := 16, constantValue := 0 }, { name := "T_INT", type := .int, accessFlags := 25, slot := 17, constantValue := 0 }, { name := "T_LONG", type := .int, accessFlags := 25, slot := 18, constantValue := 0 }, { name := "JLA", type := (.object "jdk/internal/access/JavaLangAccess"), accessFlags := 26, slot := 19, constantValue := 0 }, { name := "SOFT_MAX_ARRAY_LENGTH", type := .int, accessFlags := 25, slot := 20, constantValue := 0 }]
  methods := #[k12m0]
  instanceTypes := #[]
  staticTypes := #[(.object "jdk/internal/misc/Unsafe"), .boolean, .int, .int, .int, .int, .int, .int, .int, .int, .int, .int, .int, .int, .int, .int, .int, .int, .int, (.object "jdk/internal/access/JavaLangAccess"), .int]
  resolved := Array.replicate 378 none
  statics := none }

def pool13 : Array CpInfo := pool [(1, u "java/lang/Cloneable"), (0, .class_ 1), (0, u "java/lang/Object"), (0, .class_ 3)] 3

/-- java/lang/Cloneable -/
def k13 : Class := { plain "java/lang/Cloneable" (some 0) with
  accessFlags := 1537
  interfaces := #[]
  cf := some (fileOf pool13 2 #[] #[] 1537 4 #[] #[])
  fields := #[]
  methods := #[]
  instanceTypes := #[]
  staticTypes := #[]
  resolved := Array.replicate 8 none
  statics := none }

/-- the primitive byte -/
def k14 : Class := { plain "byte" none with kind := .primitive 'B', accessFlags := 0x411 }
/-- [B -/
def k15 : Class := { plain "[B" (some 0) with kind := .array 14 .byte, interfaces := #[13, 4], accessFlags := 1041 }

/-- the primitive int -/
def k16 : Class := { plain "int" none with kind := .primitive 'I', accessFlags := 0x411 }
/-- [I -/
def k17 : Class := { plain "[I" (some 0) with kind := .array 16 .int, interfaces := #[13, 4], accessFlags := 1041 }

def heap : Heap := #[{ cls := 6, slots := #[.ref 3, .ref 4, .ref 5, .ref 6, .ref 7, .ref 8, .null], vm := .statics 6 },
  { cls := 9, slots := #[.long 0, .int 1, .null, .int 0, .null, .int 0, .int 0], vm := .statics 9 },
  { cls := 11, slots := #[.null, .null, .null], vm := .statics 11 },
  { cls := 6, slots := #[.null, .int 0, .int 0, .ref 9, .null], vm := .none },
  { cls := 6, slots := #[.null, .int 1, .int 0, .ref 10, .null], vm := .none },
  { cls := 6, slots := #[.null, .int 2, .int 0, .ref 11, .null], vm := .none },
  { cls := 6, slots := #[.null, .int 3, .int 0, .ref 12, .null], vm := .none },
  { cls := 6, slots := #[.null, .int 4, .int 0, .ref 13, .null], vm := .none },
  { cls := 6, slots := #[.null, .int 5, .int 0, .ref 14, .null], vm := .none },
  { cls := 9, slots := #[.ref 15, .int 0, .int 0, .int 0], vm := .none },
  { cls := 9, slots := #[.ref 16, .int 0, .int 0, .int 0], vm := .none },
  { cls := 9, slots := #[.ref 17, .int 0, .int 0, .int 0], vm := .none },
  { cls := 9, slots := #[.ref 18, .int 0, .int 0, .int 0], vm := .none },
  { cls := 9, slots := #[.ref 19, .int 0, .int 0, .int 0], vm := .none },
  { cls := 9, slots := #[.ref 20, .int 0, .int 0, .int 0], vm := .none },
  { cls := 15, slots := #[.int 61], vm := .none },
  { cls := 15, slots := #[.int 33, .int 61], vm := .none },
  { cls := 15, slots := #[.int 60, .int 61], vm := .none },
  { cls := 15, slots := #[.int 60], vm := .none },
  { cls := 15, slots := #[.int 62, .int 61], vm := .none },
  { cls := 15, slots := #[.int 62], vm := .none }]
def classes : Array Class := #[k0, k1, k2, k3, k4, k5, k6, k7, k8, k9, k10, k11, k12, k13, k14, k15, k16, k17]
def interned : List (Array UInt16 × Addr) := []
def slotsUsed : Nat := 80
def theMethod : MethodId := ⟨1, 2⟩
def args0 : Array Value := #[.int 3]
def aboutOver (below : List Frame) : State where
  vm := { classes := classes, interned := interned.toArray }
  heap := heap
  slotsUsed := slotsUsed
  threads := #[{ frames := .invoking theMethod args0 :: below }]
def below0 : List Frame := [.native { method := ⟨0, 0⟩, args := #[] }]
def about1 : State := aboutOver below0
def p0 : Program := .bare "" "" ""
def e0 : Env := launch0.env 0 0 0
theorem w_frames : about1.frames = Frame.invoking theMethod args0 :: below0 := rfl
set_option maxRecDepth 65536 in
theorem w_args : argsFit about1.vm theMethod args0 = true := by decide +kernel
set_option maxRecDepth 65536 in
theorem w_heap : heapFits about1 = true := by decide +kernel
set_option maxRecDepth 65536 in
theorem w_runnable : about1.curStatus? = some .runnable := by decide +kernel
set_option maxRecDepth 65536 in
theorem w_alone : about1.alone = true := by decide +kernel
set_option maxRecDepth 65536 in
theorem w_named : about1.methodNamed? x = some theMethod := by decide +kernel
set_option maxRecDepth 65536 in
theorem w_hears : about1.hears theMethod below0 = true := by decide +kernel
set_option maxRecDepth 65536 in
theorem w_ripe : about1.ripe theMethod args0 below0 = true := by decide +kernel
theorem w_running : about1.status = .running := rfl
set_option maxRecDepth 65536 in
theorem w_room : about1.hasRoom e0.platform room_1 = true :=
  launch0.hasRoom_least _ room_1 (by decide +kernel) (by decide +kernel) (by decide +kernel) (by decide +kernel) (by decide +kernel) (by decide +kernel)
theorem allAtoms_all (ts : List Jvm.Cond) (a : Array Jvm.Value) (st : Jvm.State) : (allAtoms ts).before a st = ts.all (fun c => c.before a st) := by
  induction ts with
  | nil => rfl
  | cons c t ih =>
    show (Jvm.Cond.and c (allAtoms t)).before a st = _
    rw [Jvm.Cond.before_and, ih, List.all_cons]
def words1 : List Jvm.Cond := Jvm.Cond.code x code maxLocals ret :: tables_1
/-- a 'code' word, met by the world's own term for the bytes: nothing is compared byte by byte -/
theorem code_word {y : MethodName} {bytes : ByteArray} {mx : Nat} {rt : Option FieldType} {a : Array Value} {s : State} {m : MethodId} {meth : Method} {c : Code} (h1 : s.methodNamed? y = some m) (h2 : s.vm.method? m = some meth) (h3 : meth.code = some c) (h4 : c.code = bytes)
    (h5 : (c.maxLocals == mx && c.exceptionTable.isEmpty && decide (c.maxStack ≤ mostOperands) && decide (meth.sig.returnType = rt) && !meth.locks && decide (parseMethodDescriptor y.desc = some meth.sig)) = true) : (Jvm.Cond.code y bytes mx rt).before a s = true := by
  simp only [Bool.and_eq_true, beq_iff_eq, Bool.not_eq_true', decide_eq_true_eq] at h5
  obtain ⟨⟨⟨⟨⟨g1, g2⟩, g3⟩, g4⟩, g5⟩, g6⟩ := h5
  simp [Cond.before, Cond.holds, Cond.value, h1, h2, h3, h4, g1, g2, g3, g4, g5, g6]
def isCode : Jvm.Cond → Bool
  | .code _ _ _ _ => true
  | _ => false
theorem all_split {L : List Jvm.Cond} {P : Jvm.Cond → Bool} (h1 : L.all (fun c => isCode c || P c) = true) (h2 : ∀ c ∈ L.filter isCode, P c = true) : L.all P = true := by
  refine List.all_eq_true.mpr fun c hc => ?_
  have h := List.all_eq_true.mp h1 c hc
  rcases Bool.eq_false_or_eq_true (isCode c) with hi | hi
  · exact h2 c (List.mem_filter.mpr ⟨hc, hi⟩)
  · simpa [hi] using h
set_option maxRecDepth 65536 in
theorem w_c0 : (Jvm.Cond.code x code maxLocals ret).before args0 about1 = true := code_word (m := ⟨1, 2⟩) (meth := k1m2) (c := k1c2) (by decide +kernel) rfl rfl rfl (by decide +kernel)
set_option maxRecDepth 65536 in
theorem w_c1 : (Jvm.Cond.code ({ cls := "com/example/resultree/resultree/xpath/ComparisonIsOrderingPinLaw", name := "pick", desc := "(I)Lcom/example/resultree/resultree/xpath/Comparison;" } : Jvm.MethodName) method_2_code (1 : Nat) (Option.some (Jvm.ClassFile.FieldType.object "com/example/resultree/resultree/xpath/Comparison"))).before args0 about1 = true := code_word (m := ⟨1, 1⟩) (meth := k1m1) (c := k1c1) (by decide +kernel) rfl rfl rfl (by decide +kernel)
set_option maxRecDepth 65536 in
theorem w_c2 : (Jvm.Cond.code ({ cls := "com/example/resultree/resultree/xpath/Comparison", name := "isOrdering", desc := "()Z" } : Jvm.MethodName) prog_113_method_6_code (1 : Nat) (Option.some Jvm.ClassFile.FieldType.boolean)).before args0 about1 = true := code_word (m := ⟨6, 1⟩) (meth := k6m1) (c := k6c1) (by decide +kernel) rfl rfl rfl (by decide +kernel)
set_option maxRecDepth 65536 in
theorem w_c3 : (Jvm.Cond.code ({ cls := "com/example/resultree/resultree/xpath/Comparison", name := "holds", desc := "(I)Z" } : Jvm.MethodName) prog_113_method_7_code (2 : Nat) (Option.some Jvm.ClassFile.FieldType.boolean)).before args0 about1 = true := code_word (m := ⟨6, 2⟩) (meth := k6m2) (c := k6c2) (by decide +kernel) rfl rfl rfl (by decide +kernel)
set_option maxRecDepth 65536 in
theorem w_c4 : (Jvm.Cond.code ({ cls := "java/lang/Enum", name := "ordinal", desc := "()I" } : Jvm.MethodName) jdk_37_method_2_code (1 : Nat) (Option.some Jvm.ClassFile.FieldType.int)).before args0 about1 = true := code_word (m := ⟨5, 0⟩) (meth := k5m0) (c := k5c0) (by decide +kernel) rfl rfl rfl (by decide +kernel)
set_option maxRecDepth 65536 in
theorem w_c5 : (Jvm.Cond.code ({ cls := "com/example/resultree/resultree/xpath/Comparison", name := "symbol", desc := "()Ljava/lang/String;" } : Jvm.MethodName) prog_113_method_4_code (1 : Nat) (Option.some (Jvm.ClassFile.FieldType.object "java/lang/String"))).before args0 about1 = true := code_word (m := ⟨6, 0⟩) (meth := k6m0) (c := k6c0) (by decide +kernel) rfl rfl rfl (by decide +kernel)
set_option maxRecDepth 65536 in
theorem w_c6 : (Jvm.Cond.code ({ cls := "java/lang/String", name := "isEmpty", desc := "()Z" } : Jvm.MethodName) jdk_42_method_55_code (1 : Nat) (Option.some Jvm.ClassFile.FieldType.boolean)).before args0 about1 = true := code_word (m := ⟨9, 1⟩) (meth := k9m1) (c := k9c1) (by decide +kernel) rfl rfl rfl (by decide +kernel)
set_option maxRecDepth 65536 in
theorem w_c7 : (Jvm.Cond.code ({ cls := "java/lang/String", name := "charAt", desc := "(I)C" } : Jvm.MethodName) jdk_42_method_56_code (2 : Nat) (Option.some Jvm.ClassFile.FieldType.char)).before args0 about1 = true := code_word (m := ⟨9, 2⟩) (meth := k9m2) (c := k9c2) (by decide +kernel) rfl rfl rfl (by decide +kernel)
set_option maxRecDepth 65536 in
theorem w_c8 : (Jvm.Cond.code ({ cls := "java/lang/String", name := "isLatin1", desc := "()Z" } : Jvm.MethodName) jdk_42_method_154_code (1 : Nat) (Option.some Jvm.ClassFile.FieldType.boolean)).before args0 about1 = true := code_word (m := ⟨9, 3⟩) (meth := k9m3) (c := k9c3) (by decide +kernel) rfl rfl rfl (by decide +kernel)
set_option maxRecDepth 65536 in
theorem w_c9 : (Jvm.Cond.code ({ cls := "java/lang/StringLatin1", name := "charAt", desc := "([BI)C" } : Jvm.MethodName) jdk_43_method_2_code (2 : Nat) (Option.some Jvm.ClassFile.FieldType.char)).before args0 about1 = true := code_word (m := ⟨10, 1⟩) (meth := k10m1) (c := k10c1) (by decide +kernel) rfl rfl rfl (by decide +kernel)
set_option maxRecDepth 65536 in
theorem w_c10 : (Jvm.Cond.code ({ cls := "java/lang/String", name := "checkIndex", desc := "(II)V" } : Jvm.MethodName) jdk_42_method_155_code (2 : Nat) (Option.none : Option Jvm.ClassFile.FieldType)).before args0 about1 = true := code_word (m := ⟨9, 4⟩) (meth := k9m4) (c := k9c4) (by decide +kernel) rfl rfl rfl (by decide +kernel)
set_option maxRecDepth 65536 in
theorem w_c11 : (Jvm.Cond.code ({ cls := "jdk/internal/util/Preconditions", name := "checkIndex", desc := "(IILjava/util/function/BiFunction;)I" } : Jvm.MethodName) jdk_41_method_11_code (3 : Nat) (Option.some Jvm.ClassFile.FieldType.int)).before args0 about1 = true := code_word (m := ⟨11, 1⟩) (meth := k11m1) (c := k11c1) (by decide +kernel) rfl rfl rfl (by decide +kernel)
def codes1 : List Jvm.Cond := [Jvm.Cond.code x code maxLocals ret, Jvm.Cond.code ({ cls := "com/example/resultree/resultree/xpath/ComparisonIsOrderingPinLaw", name := "pick", desc := "(I)Lcom/example/resultree/resultree/xpath/Comparison;" } : Jvm.MethodName) method_2_code (1 : Nat) (Option.some (Jvm.ClassFile.FieldType.object "com/example/resultree/resultree/xpath/Comparison")), Jvm.Cond.code ({ cls := "com/example/resultree/resultree/xpath/Comparison", name := "isOrdering", desc := "()Z" } : Jvm.MethodName) prog_113_method_6_code (1 : Nat) (Option.some Jvm.ClassFile.FieldType.boolean), Jvm.Cond.code ({ cls := "com/example/resultree/resultree/xpath/Comparison", name := "holds", desc := "(I)Z" } : Jvm.MethodName) prog_113_method_7_code (2 : Nat) (Option.some Jvm.ClassFile.FieldType.boolean), Jvm.Cond.code ({ cls := "java/lang/Enum", name := "ordinal", desc := "()I" } : Jvm.MethodName) jdk_37_method_2_code (1 : Nat) (Option.some Jvm.ClassFile.FieldType.int), Jvm.Cond.code ({ cls := "com/example/resultree/resultree/xpath/Comparison", name := "symbol", desc := "()Ljava/lang/String;" } : Jvm.MethodName) prog_113_method_4_code (1 : Nat) (Option.some (Jvm.ClassFile.FieldType.object "java/lang/String")), Jvm.Cond.code ({ cls := "java/lang/String", name := "isEmpty", desc := "()Z" } : Jvm.MethodName) jdk_42_method_55_code (1 : Nat) (Option.some Jvm.ClassFile.FieldType.boolean), Jvm.Cond.code ({ cls := "java/lang/String", name := "charAt", desc := "(I)C" } : Jvm.MethodName) jdk_42_method_56_code (2 : Nat) (Option.some Jvm.ClassFile.FieldType.char), Jvm.Cond.code ({ cls := "java/lang/String", name := "isLatin1", desc := "()Z" } : Jvm.MethodName) jdk_42_method_154_code (1 : Nat) (Option.some Jvm.ClassFile.FieldType.boolean), Jvm.Cond.code ({ cls := "java/lang/StringLatin1", name := "charAt", desc := "([BI)C" } : Jvm.MethodName) jdk_43_method_2_code (2 : Nat) (Option.some Jvm.ClassFile.FieldType.char), Jvm.Cond.code ({ cls := "java/lang/String", name := "checkIndex", desc := "(II)V" } : Jvm.MethodName) jdk_42_method_155_code (2 : Nat) (Option.none : Option Jvm.ClassFile.FieldType), Jvm.Cond.code ({ cls := "jdk/internal/util/Preconditions", name := "checkIndex", desc := "(IILjava/util/function/BiFunction;)I" } : Jvm.MethodName) jdk_41_method_11_code (3 : Nat) (Option.some Jvm.ClassFile.FieldType.int)]
set_option maxRecDepth 65536 in
theorem codes_eq : words1.filter isCode = codes1 := rfl
theorem w_codes : ∀ c ∈ words1.filter isCode, c.before args0 about1 = true := by
  rw [codes_eq]
  intro c hc
  simp only [codes1, List.mem_cons, List.not_mem_nil, or_false] at hc
  rcases hc with rfl | rfl | rfl | rfl | rfl | rfl | rfl | rfl | rfl | rfl | rfl | rfl
  · exact w_c0
  · exact w_c1
  · exact w_c2
  · exact w_c3
  · exact w_c4
  · exact w_c5
  · exact w_c6
  · exact w_c7
  · exact w_c8
  · exact w_c9
  · exact w_c10
  · exact w_c11
set_option maxRecDepth 65536 in
theorem w_t1 : (words1.take 24).all (fun c => isCode c || c.before args0 about1) = true := by decide +kernel
set_option maxRecDepth 65536 in
theorem w_t2 : ((words1.drop 24).take 24).all (fun c => isCode c || c.before args0 about1) = true := by decide +kernel
set_option maxRecDepth 65536 in
theorem w_t3 : (((words1.drop 24).drop 24).take 24).all (fun c => isCode c || c.before args0 about1) = true := by decide +kernel
set_option maxRecDepth 65536 in
theorem w_t4 : (((words1.drop 24).drop 24).drop 24).all (fun c => isCode c || c.before args0 about1) = true := by decide +kernel
theorem w_tables : (allAtoms (Jvm.Cond.code x code maxLocals ret :: tables_1)).before args0 about1 = true := by
  rw [allAtoms_all]
  show words1.all (fun c => c.before args0 about1) = true
  refine all_split ?_ w_codes
  rw [← List.take_append_drop 24 words1, List.all_append, w_t1, ← List.take_append_drop 24 (words1.drop 24), List.all_append, w_t2, ← List.take_append_drop 24 ((words1.drop 24).drop 24), List.all_append, w_t3, w_t4]
  rfl
set_option maxRecDepth 65536 in
theorem w_rest : rest_1_c.before args0 about1 = true := by decide +kernel
set_option maxRecDepth 65536 in
theorem w_case : (Jvm.Cond.and given_1 narrow_1).before args0 about1 = true := by decide +kernel
theorem w_applies : (headSpec (Jvm.Cond.code x code maxLocals ret :: tables_1) room_1).applies x e0.platform about1 = true :=
  (Spec.applies_iff w_frames).mpr ⟨w_running, w_runnable, w_alone, w_named, w_hears, w_ripe, w_room, w_tables⟩
theorem atStart : AtStart classFile x code maxLocals ret World_1 tables_1 room_1 Calls_1 rest_1 Pre_1 launch0 p0 e0 about1 theMethod args0 below0 :=
  ⟨lists_1, trivial, launch0.admits_env _ _ _, launch0.least_env, fairChoices_fair.cas, fairChoices_fair.clock, w_frames, w_args, w_heap, w_applies, trivial, w_rest, w_case⟩
end start1
theorem witness_1 : WitnessClaimed_1 := ⟨start1.p0, start1.e0, start1.about1, start1.theMethod, start1.args0, start1.below0, start1.atStart⟩
end Jvm.Pilot.@@N@@
