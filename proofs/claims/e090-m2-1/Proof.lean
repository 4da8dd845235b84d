import JvmDerived
import JvmDerived.Pilot.@@N@@Statement
import JvmDerived.Pilot.@@N@@Code
set_option linter.unusedVariables false
set_option linter.unusedSimpArgs false
namespace Jvm.RoadKit
open Sem ClassFile Op Lib Jvm.Stand Jvm.Free Jvm.LawKit
section New
variable {p : Program} {l : Launch} {e : Env} {R : Room} {s : State} {m : MethodId} {args : Array Value} {below : List Frame} {meth : Method} {c : Code} {T : State} {locs : List Loc} {cells slots : Nat}
theorem retI (X : Stand p l e R s m args below meth c T locs cells slots) (hx : p.tables.exec = Jvm.exec) {pc : Nat} {Ls : Array Slot} {z : Int32} {rest : List Value} (hret : meth.sig.returnType = some .int) (hd : decode c.code pc = .ok (.ireturn, 1)) {fs : List Frame}
    (hl : ∀ (f : JFrame) (acts : List Action), f.method = m → f.locked = none → f.entered = [] → (doReturn e (T.setTop f) acts (some (.int z))).1 = T.setFrames fs) : Steps p.tables e below (T.setTop (mkF m pc Ls (.int z :: rest))) (T.setFrames fs) := by
  have hm' : T.vm.method? m = some meth := X.method'
  have hn : narrow .int (.int z) = .int z := rfl
  show Steps p.tables e below (T.setTop { method := m, pc := pc, locals := Ls, stack := _ :: rest, locked := none }) _
  jvm_step X.here [X.here.top, hx, hd, hm', hret, hn]
  first | (intro acts; rw [hl _ acts rfl rfl rfl]) | rw [hl _ _ rfl rfl rfl]
  exact Steps.refl _
/-- what a body leaves -/
def own_P (s : State) (Q : Option Value → Heap → List Loc → Prop) (k n : Nat) (s₂ : State) (o : Outcome) : Prop := ∃ v L, o = .returned v ∧ Q v s₂.heap L ∧ FrameEnd s o s₂ L k n
/-- from A the run comes to an end that P allows -/
def own_G (p : Program) (e : Env) (below : List Frame) (P : State → Outcome → Prop) (A : State) : Prop := ∃ s₂ o, Steps p.tables e below A s₂ ∧ s₂.status = .running ∧ Ended s₂ below o ∧ P s₂ o
theorem own_via {P : State → Outcome → Prop} {A A' : State} (h : ∀ t, Steps p.tables e below A' t → Steps p.tables e below A t) (k : own_G p e below P A') : own_G p e below P A := by
  obtain ⟨s₂, o, h1, h2⟩ := k
  exact ⟨s₂, o, h _ h1, h2⟩
theorem own_retN (X : Stand p l e R s m args below meth c T locs cells slots) (hlocks : meth.locks = false) (hx : p.tables.exec = Jvm.exec) {pc : Nat} {Ls : Array Slot} {z : Int32} {t : FieldType} {rest : List Value} {K N : Nat} {Q : Option Value → Heap → List Loc → Prop} (hret : meth.sig.returnType = some t) (ht : t = .boolean ∨ t = .byte ∨ t = .char ∨ t = .short)
    (hd : decode c.code pc = .ok (.ireturn, 1)) (hq : Q (some (.int (nar t z))) T.heap locs) (hK : cells ≤ K) (hN : slots ≤ N) : own_G p e below (own_P s Q K N) (T.setTop (mkF m pc Ls (.int z :: rest))) := by
  obtain ⟨fs, hr, hrun, hended, hW, hsame⟩ := X.leave (v := some (.int (nar t z))) (fun h => by rw [hret] at h; cases h) hlocks
  exact ⟨_, _, retN X hx hret ht hd hr, hrun, hended, _, _, rfl, hq, ⟨_, rfl⟩, hW, hsame.mono hK hN⟩
theorem own_retI (X : Stand p l e R s m args below meth c T locs cells slots) (hlocks : meth.locks = false) (hx : p.tables.exec = Jvm.exec) {pc : Nat} {Ls : Array Slot} {z : Int32} {rest : List Value} {K N : Nat} {Q : Option Value → Heap → List Loc → Prop} (hret : meth.sig.returnType = some .int)
    (hd : decode c.code pc = .ok (.ireturn, 1)) (hq : Q (some (.int z)) T.heap locs) (hK : cells ≤ K) (hN : slots ≤ N) : own_G p e below (own_P s Q K N) (T.setTop (mkF m pc Ls (.int z :: rest))) := by
  obtain ⟨fs, hr, hrun, hended, hW, hsame⟩ := X.leave (v := some (.int z)) (fun h => by rw [hret] at h; cases h) hlocks
  exact ⟨_, _, retI X hx hret hd hr, hrun, hended, _, _, rfl, hq, ⟨_, rfl⟩, hW, hsame.mono hK hN⟩
theorem own_retA (X : Stand p l e R s m args below meth c T locs cells slots) (hlocks : meth.locks = false) (hx : p.tables.exec = Jvm.exec) {pc : Nat} {Ls : Array Slot} {w : Value} {C : String} {rest : List Value} {K N : Nat} {Q : Option Value → Heap → List Loc → Prop} (hret : meth.sig.returnType = some (.object C)) (hw : w.isRef = true)
    (hd : decode c.code pc = .ok (.areturn, 1)) (hq : Q (some w) T.heap locs) (hK : cells ≤ K) (hN : slots ≤ N) : own_G p e below (own_P s Q K N) (T.setTop (mkF m pc Ls (w :: rest))) := by
  obtain ⟨fs, hr, hrun, hended, hW, hsame⟩ := X.leave (v := some w) (fun h => by rw [hret] at h; cases h) hlocks
  have hn : narrow (.object C) w = w := by cases w <;> rfl
  exact ⟨_, _, retOut X hx hret hn (Or.inr (Or.inr (Or.inr (Or.inr ⟨rfl, rfl, hw⟩)))) hd hr, hrun, hended, _, _, rfl, hq, ⟨_, rfl⟩, hW, hsame.mono hK hN⟩
theorem own_retV (X : Stand p l e R s m args below meth c T locs cells slots) (hlocks : meth.locks = false) (hx : p.tables.exec = Jvm.exec) {pc : Nat} {Ls : Array Slot} {K N : Nat} {Q : Option Value → Heap → List Loc → Prop} (hret : meth.sig.returnType = none)
    (hd : decode c.code pc = .ok (.return_, 1)) (hq : Q none T.heap locs) (hK : cells ≤ K) (hN : slots ≤ N) : own_G p e below (own_P s Q K N) (T.setTop (mkF m pc Ls [])) := by
  obtain ⟨fs, hr, hrun, hended, hW, hsame⟩ := X.leave (v := none) (fun _ => rfl) hlocks
  exact ⟨_, _, X.returnOut hx hret hd hr, hrun, hended, _, _, rfl, hq, ⟨_, rfl⟩, hW, hsame.mono hK hN⟩
end New
end Jvm.RoadKit
namespace Jvm.Pilot.@@N@@
open Jvm Jvm.ClassFile Sem Op Lib Jvm.Free Jvm.Stand Jvm.LawKit Jvm.RoadKit Bundle Jvm.Pilot.@@N@@.Jvm.D
theorem own_shift (x : Int32) (i : Nat) (k : Int32) (hi : i < 32) (hk : (k &&& 31).toUInt32.toNat = i) : (((x.toUInt32 >>> (k &&& 31).toUInt32).toInt32 &&& (1 : Int32)) = 0 ↔ x.toBitVec.getLsbD i = false) ∧ (((x.toUInt32 >>> (k &&& 31).toUInt32).toInt32 &&& (1 : Int32)) = 1 ↔ x.toBitVec.getLsbD i = true) := by
  have e : ((x.toUInt32 >>> (k &&& 31).toUInt32).toInt32 &&& (1 : Int32)).toBitVec = BitVec.setWidth 32 (BitVec.ofBool (x.toBitVec.getLsbD i)) := by
    have h1 : ((x.toUInt32 >>> (k &&& 31).toUInt32).toInt32 &&& (1 : Int32)).toBitVec = (x.toBitVec >>> i) &&& 1#32 := by
      show (x.toBitVec >>> ((k &&& 31).toUInt32.toBitVec % 32#32)) &&& 1#32 = _
      have h2 : ((k &&& 31).toUInt32.toBitVec % 32#32) = BitVec.ofNat 32 i := by
        apply BitVec.eq_of_toNat_eq
        have h3 : (k &&& 31).toUInt32.toBitVec.toNat = i := hk
        rw [BitVec.toNat_umod, h3]
        simp [Nat.mod_eq_of_lt hi, Nat.mod_eq_of_lt (Nat.lt_trans hi (by decide : 32 < 2 ^ 32))]
      rw [h2]
      have h4 : (BitVec.ofNat 32 i).toNat = i := by simp [Nat.mod_eq_of_lt (Nat.lt_trans hi (by decide : 32 < 2 ^ 32))]
      show (x.toBitVec >>> (BitVec.ofNat 32 i).toNat) &&& 1#32 = _
      rw [h4]
    rw [h1, BitVec.and_one_eq_setWidth_ofBool_getLsbD, BitVec.getLsbD_ushiftRight]
    simp
  constructor
  · rw [← Int32.toBitVec_inj, e]
    cases x.toBitVec.getLsbD i <;> decide
  · rw [← Int32.toBitVec_inj, e]
    cases x.toBitVec.getLsbD i <;> decide
theorem own_mask (x : Int32) (i : Nat) (b : Int32) (hb : b.toBitVec = BitVec.twoPow 32 i) (hi : i < 32) : (x &&& b) = 0 ↔ x.toBitVec.getLsbD i = false := by
  rw [← Int32.toBitVec_inj]
  show x.toBitVec &&& b.toBitVec = 0#32 ↔ _
  rw [hb, BitVec.and_twoPow]
  cases h : x.toBitVec.getLsbD i
  · simp
  · simp
    intro q
    have : (BitVec.twoPow 32 i).getLsbD i = (0#32).getLsbD i := by rw [q]
    simp [BitVec.getLsbD_twoPow, hi] at this

theorem own_nn (p : Int32) : 0 ≤ (p &&& (2147483647 : Int32)).toInt := by
  have h : (p &&& (2147483647 : Int32)).toBitVec.msb = false := by
    show (p.toBitVec &&& 2147483647#32).msb = false
    rw [BitVec.msb_and, show (2147483647#32).msb = false from by decide, Bool.and_false]
  have := BitVec.toInt_eq_toNat_of_msb h
  show 0 ≤ (p &&& (2147483647 : Int32)).toBitVec.toInt
  omega
def own_holds (a c : Int32) : Int32 := if c = 4096 then 1 else if ((c &&& a) &&& (-8193 : Int32)) = 0 then (if a &&& 8192 = 0 then 0 else 1) else (if a &&& 8192 = 0 then 1 else 0)
def own_Ix (i : Int32) : Prop := ∃ k : Fin 12, i = Int32.ofNat k.val
theorem own_idx (p : Int32) : own_Ix ((p &&& (2147483647 : Int32)) % (12 : Int32)) := by
  have h1 : 0 ≤ (p &&& (2147483647 : Int32)).toInt := by
    have := own_nn p
    omega
  have e : ((p &&& (2147483647 : Int32)) % (12 : Int32)).toInt = (p &&& (2147483647 : Int32)).toInt % 12 := by
    rw [Int32.toInt_mod, Int.tmod_eq_emod_of_nonneg h1]; rfl
  refine ⟨⟨((p &&& (2147483647 : Int32)).toInt % 12).toNat, by omega⟩, ?_⟩
  apply Int32.toInt_inj.mp
  rw [e, Int32.toInt_ofNat_small (by show ((p &&& (2147483647 : Int32)).toInt % 12).toNat < _; omega)]
  show _ = ((((p &&& (2147483647 : Int32)).toInt % 12).toNat : Nat) : Int)
  omega
theorem own_c1 : ∀ k : Fin 12, ((Int32.ofNat k.val) &&& 31).toUInt32.toNat = k.val := by decide +kernel
theorem own_c2 : ∀ k : Fin 12, ((1 : Int32) <<< ((Int32.ofNat k.val) &&& 31)).toBitVec = BitVec.twoPow 32 k.val := by decide +kernel
theorem own_c3 : ∀ k : Fin 12, ((1 : Int32) <<< ((Int32.ofNat k.val) &&& 31)) &&& (-8193 : Int32) = ((1 : Int32) <<< ((Int32.ofNat k.val) &&& 31)) := by decide +kernel
theorem own_c4 : ∀ k : Fin 12, ((1 : Int32) <<< ((Int32.ofNat k.val) &&& 31)) &&& (8192 : Int32) = 0 := by decide +kernel
theorem own_c5 : ∀ k : Fin 12, (((1 : Int32) <<< ((Int32.ofNat k.val) &&& 31)) ||| (8192 : Int32)) &&& (-8193 : Int32) = ((1 : Int32) <<< ((Int32.ofNat k.val) &&& 31)) := by decide +kernel
theorem own_c6 : ∀ k : Fin 12, ¬ (((1 : Int32) <<< ((Int32.ofNat k.val) &&& 31)) ||| (8192 : Int32)) &&& (8192 : Int32) = 0 := by decide +kernel
theorem own_x {c : Int32} : ¬ (c &&& (4095 : Int32)) = 4096 := fun h => by
  have h1 : (c &&& (4095 : Int32)) &&& 4096 = 4096 := by rw [h]; decide
  rw [Int32.and_assoc, show (4095 : Int32) &&& 4096 = 0 from by decide, Int32.and_zero] at h1
  revert h1; decide
theorem own_pos {i x : Int32} (hi : own_Ix i) (hx : ¬ x = 4096) : own_holds ((1 : Int32) <<< (i &&& 31)) x = if (((x.toUInt32 >>> (i &&& 31).toUInt32).toInt32) &&& (1 : Int32)) = 1 then 1 else 0 := by
  obtain ⟨k, rfl⟩ := hi
  have h1 := (own_shift x k.val (Int32.ofNat k.val) (by omega) (own_c1 k)).2
  have h2 := own_mask x k.val ((1 : Int32) <<< ((Int32.ofNat k.val) &&& 31)) (own_c2 k) (by omega)
  have h3 : (x &&& ((1 : Int32) <<< ((Int32.ofNat k.val) &&& 31))) &&& (-8193 : Int32) = x &&& ((1 : Int32) <<< ((Int32.ofNat k.val) &&& 31)) := by rw [Int32.and_assoc, own_c3]
  unfold own_holds
  rw [if_neg hx, h3, own_c4, if_pos rfl, if_pos rfl]
  cases hb : x.toBitVec.getLsbD k.val
  · rw [if_pos (h2.mpr hb), if_neg (fun q => by rw [h1.mp q] at hb; cases hb)]
  · rw [if_neg (fun q => by rw [h2.mp q] at hb; cases hb), if_pos (h1.mpr hb)]
theorem own_neg {i x : Int32} (hi : own_Ix i) (hx : ¬ x = 4096) : own_holds (((1 : Int32) <<< (i &&& 31)) ||| (8192 : Int32)) x = if (((x.toUInt32 >>> (i &&& 31).toUInt32).toInt32) &&& (1 : Int32)) = 1 then 0 else 1 := by
  obtain ⟨k, rfl⟩ := hi
  have h1 := (own_shift x k.val (Int32.ofNat k.val) (by omega) (own_c1 k)).2
  have h2 := own_mask x k.val ((1 : Int32) <<< ((Int32.ofNat k.val) &&& 31)) (own_c2 k) (by omega)
  have h3 : (x &&& (((1 : Int32) <<< ((Int32.ofNat k.val) &&& 31)) ||| (8192 : Int32))) &&& (-8193 : Int32) = x &&& ((1 : Int32) <<< ((Int32.ofNat k.val) &&& 31)) := by rw [Int32.and_assoc, own_c5]
  unfold own_holds
  rw [if_neg hx, h3, if_neg (own_c6 k), if_neg (own_c6 k)]
  cases hb : x.toBitVec.getLsbD k.val
  · rw [if_pos (h2.mpr hb), if_neg (fun q => by rw [h1.mp q] at hb; cases hb)]
  · rw [if_neg (fun q => by rw [h2.mp q] at hb; cases hb), if_pos (h1.mpr hb)]
theorem own_any (a : Int32) : own_holds a 4096 = 1 := by simp [own_holds]
theorem d1_0 : decode prog_9_method_2_code 0 = .ok (.iload_n 1, 1) := by decide +kernel
theorem d1_1 : decode prog_9_method_2_code 1 = .ok (.sipush 4096, 3) := by decide +kernel
theorem d1_4 : decode prog_9_method_2_code 4 = .ok (.if_icmp .eq 34, 3) := by decide +kernel
theorem d1_7 : decode prog_9_method_2_code 7 = .ok (.iload_n 1, 1) := by decide +kernel
theorem d1_8 : decode prog_9_method_2_code 8 = .ok (.iload_n 0, 1) := by decide +kernel
theorem d1_9 : decode prog_9_method_2_code 9 = .ok (.iand, 1) := by decide +kernel
theorem d1_10 : decode prog_9_method_2_code 10 = .ok (.sipush (-8193), 3) := by decide +kernel
theorem d1_13 : decode prog_9_method_2_code 13 = .ok (.iand, 1) := by decide +kernel
theorem d1_14 : decode prog_9_method_2_code 14 = .ok (.ifCond .eq 7, 3) := by decide +kernel
theorem d1_17 : decode prog_9_method_2_code 17 = .ok (.iconst 1, 1) := by decide +kernel
theorem d1_18 : decode prog_9_method_2_code 18 = .ok (.goto 4, 3) := by decide +kernel
theorem d1_21 : decode prog_9_method_2_code 21 = .ok (.iconst 0, 1) := by decide +kernel
theorem d1_22 : decode prog_9_method_2_code 22 = .ok (.iload_n 0, 1) := by decide +kernel
theorem d1_23 : decode prog_9_method_2_code 23 = .ok (.sipush 8192, 3) := by decide +kernel
theorem d1_26 : decode prog_9_method_2_code 26 = .ok (.iand, 1) := by decide +kernel
theorem d1_27 : decode prog_9_method_2_code 27 = .ok (.ifCond .ne 7, 3) := by decide +kernel
theorem d1_30 : decode prog_9_method_2_code 30 = .ok (.iconst 1, 1) := by decide +kernel
theorem d1_31 : decode prog_9_method_2_code 31 = .ok (.goto 4, 3) := by decide +kernel
theorem d1_34 : decode prog_9_method_2_code 34 = .ok (.iconst 0, 1) := by decide +kernel
theorem d1_35 : decode prog_9_method_2_code 35 = .ok (.if_icmp .ne 7, 3) := by decide +kernel
theorem d1_38 : decode prog_9_method_2_code 38 = .ok (.iconst 1, 1) := by decide +kernel
theorem d1_39 : decode prog_9_method_2_code 39 = .ok (.goto 4, 3) := by decide +kernel
theorem d1_42 : decode prog_9_method_2_code 42 = .ok (.iconst 0, 1) := by decide +kernel
theorem d1_43 : decode prog_9_method_2_code 43 = .ok (.ireturn, 1) := by decide +kernel
theorem pn_1 : plainName "holdfast/Context" = true := by first | (simp [plainName, overriddenIn]; done) | decide +kernel
theorem ef_1 (m : MethodId) (p0 : Int32) (p1 : Int32) : entryFrame m #[(.int p0), (.int p1)] 2 = mkF m 0 #[.val (.int p0), .val (.int p1)] [] := by first | (simp [entryFrame, mkF, argsToLocals, Value.category]; done) | rfl
def Q1 (Z : State) (p0 : Int32) (p1 : Int32)  (h0 : Heap) (n0 : Nat) (v : Option Value) (h : Heap) (L : List Loc) : Prop := v = some (.int (own_holds p0 p1)) ∧ Fr n0 L ∧ h = h0
set_option maxRecDepth 65536 in
set_option maxHeartbeats 40000000 in
theorem rm1 (l : Launch) (Z : State) (a0 : Array Value) (hw : ∀ d ∈ tables_1, d.before a0 Z = true) (ws : List Jvm.Cond) (p0 : Int32) (p1 : Int32)  (h0 : Heap) (n0 : Nat) (Z0 : n0 ≤ h0.size)  :
    MetFree l (⟨"holdfast/Context", "holds", "(II)Z"⟩ : MethodName) (head1 (Jvm.Cond.code (⟨"holdfast/Context", "holds", "(II)Z"⟩ : MethodName) prog_9_method_2_code 2 (some .boolean) :: ws) ({ frames := 0, cells := 0, slots := 0, locals := 0 } : Room)) (fun a U => a = #[(.int p0), (.int p1)] ∧ Z.Warmed39 U.vm ∧ U.heap = h0) (fun _ _ _ _ _ => True) (fun _ U o U' => ∃ v L, o = .returned v ∧ Q1 Z p0 p1 h0 n0 v U'.heap L ∧ FrameEnd U o U' L ({ frames := 0, cells := 0, slots := 0, locals := 0 } : Room).cells ({ frames := 0, cells := 0, slots := 0, locals := 0 } : Room).slots) := by
  refine MetFree.of_bodySF (plainFor_of_name pn_1) hisR ?_
  intro p e s m args below meth c s₁ Bd hml0 hP hK
  obtain ⟨rfl, hZ, hh⟩ := hP
  have hx := Bd.exec
  have hby := Bd.bytes
  have hml : c.maxLocals = 2 := hml0
  have hown : s.vm.findClass "holdfast/Context" = some m.cls := findClass_of_methodNamed Bd.named
  have X0 : Stand p l e ({ frames := 0, cells := 0, slots := 0, locals := 0 } : Room) s m #[(.int p0), (.int p1)] below meth c s₁ [] 0 0 := Stand.of_body Bd
  have e0 : s₁.heap = h0 := by rw [← hh, Bd.state]; rfl
  have N0 := Fr.nil n0
  show own_G p e below (own_P s (Q1 Z p0 p1 h0 n0) 0 0) _
  refine own_via (A' := s₁.setTop (mkF m 0 #[.val (.int p0), .val (.int p1)] [])) (fun t k => castTop (ef_1 m p0 p1) k) ?_
  refine own_via (A' := s₁.setTop (mkF m 4 #[.val (.int p0), .val (.int p1)] [(.int (4096 : Int32)), (.int p1)])) (fun target kt => ?_) ?_
  · show Steps p.tables e below (s₁.setTop (mkF m 0 #[.val (.int p0), .val (.int p1)] [])) _
    refine XS.iloadN X0.here hx rfl (hb hby d1_0) rfl ?_
    show Steps p.tables e below (s₁.setTop (mkF m 1 #[.val (.int p0), .val (.int p1)] [(.int p1)])) _
    refine XS.sipush X0.here hx rfl (hb hby d1_1) ?_
    exact kt
  by_cases hc4 : p1 = (4096 : Int32)
  · refine own_via (A' := s₁.setTop (mkF m 38 #[.val (.int p0), .val (.int p1)] [])) (fun target kt => XS.icmpYes X0.here hx rfl (pc0 := 4) (pc' := 38) rfl (hb hby d1_4) rfl (teq hc4).1 (by decide) (by decide) kt) ?_
    refine own_via (A' := s₁.setTop (mkF m 43 #[.val (.int p0), .val (.int p1)] [(.int (1 : Int32))])) (fun target kt => ?_) ?_
    · show Steps p.tables e below (s₁.setTop (mkF m 38 #[.val (.int p0), .val (.int p1)] [])) _
      refine XS.iconst X0.here hx rfl (hb hby d1_38) ?_
      show Steps p.tables e below (s₁.setTop (mkF m 39 #[.val (.int p0), .val (.int p1)] [(.int (1 : Int32))])) _
      refine XS.goto X0.here hx rfl (pc0 := 39) (pc' := 43) rfl (hb hby d1_39) (by decide) (by decide) ?_
      exact kt
    exact own_retN X0 Bd.notSynchronized hx (t := .boolean) Bd.returns (by simp) (hb hby d1_43) (show Q1 Z p0 p1 h0 n0 _ _ _ from ⟨by rw [show own_holds p0 p1 = 1 from by simp [own_holds, hc4]] <;> rfl, N0, e0⟩) (by decide) (by decide)
  · refine own_via (A' := s₁.setTop (mkF m 7 #[.val (.int p0), .val (.int p1)] [])) (fun target kt => XS.icmpNo X0.here hx rfl (hb hby d1_4) rfl (feq hc4).1 kt) ?_
    refine own_via (A' := s₁.setTop (mkF m 14 #[.val (.int p0), .val (.int p1)] [(.int ((p1 &&& p0) &&& (-8193 : Int32)))])) (fun target kt => ?_) ?_
    · show Steps p.tables e below (s₁.setTop (mkF m 7 #[.val (.int p0), .val (.int p1)] [])) _
      refine XS.iloadN X0.here hx rfl (hb hby d1_7) rfl ?_
      show Steps p.tables e below (s₁.setTop (mkF m 8 #[.val (.int p0), .val (.int p1)] [(.int p1)])) _
      refine XS.iloadN X0.here hx rfl (hb hby d1_8) rfl ?_
      show Steps p.tables e below (s₁.setTop (mkF m 9 #[.val (.int p0), .val (.int p1)] [(.int p0), (.int p1)])) _
      refine XS.iand X0.here hx rfl (hb hby d1_9) rfl ?_
      show Steps p.tables e below (s₁.setTop (mkF m 10 #[.val (.int p0), .val (.int p1)] [(.int (p1 &&& p0))])) _
      refine XS.sipush X0.here hx rfl (hb hby d1_10) ?_
      show Steps p.tables e below (s₁.setTop (mkF m 13 #[.val (.int p0), .val (.int p1)] [(.int (-8193 : Int32)), (.int (p1 &&& p0))])) _
      refine XS.iand X0.here hx rfl (hb hby d1_13) rfl ?_
      exact kt
    by_cases hc14 : ((p1 &&& p0) &&& (-8193 : Int32)) = (0 : Int32)
    · refine own_via (A' := s₁.setTop (mkF m 21 #[.val (.int p0), .val (.int p1)] [])) (fun target kt => XS.ifYes X0.here hx rfl (pc0 := 14) (pc' := 21) rfl (hb hby d1_14) rfl ((if0 _ _).trans (teq hc14).1) (by decide) (by decide) kt) ?_
      refine own_via (A' := s₁.setTop (mkF m 27 #[.val (.int p0), .val (.int p1)] [(.int (p0 &&& (8192 : Int32))), (.int (0 : Int32))])) (fun target kt => ?_) ?_
      · show Steps p.tables e below (s₁.setTop (mkF m 21 #[.val (.int p0), .val (.int p1)] [])) _
        refine XS.iconst X0.here hx rfl (hb hby d1_21) ?_
        show Steps p.tables e below (s₁.setTop (mkF m 22 #[.val (.int p0), .val (.int p1)] [(.int (0 : Int32))])) _
        refine XS.iloadN X0.here hx rfl (hb hby d1_22) rfl ?_
        show Steps p.tables e below (s₁.setTop (mkF m 23 #[.val (.int p0), .val (.int p1)] [(.int p0), (.int (0 : Int32))])) _
        refine XS.sipush X0.here hx rfl (hb hby d1_23) ?_
        show Steps p.tables e below (s₁.setTop (mkF m 26 #[.val (.int p0), .val (.int p1)] [(.int (8192 : Int32)), (.int p0), (.int (0 : Int32))])) _
        refine XS.iand X0.here hx rfl (hb hby d1_26) rfl ?_
        exact kt
      by_cases hc27 : (p0 &&& (8192 : Int32)) = (0 : Int32)
      · refine own_via (A' := s₁.setTop (mkF m 30 #[.val (.int p0), .val (.int p1)] [(.int (0 : Int32))])) (fun target kt => XS.ifNo X0.here hx rfl (hb hby d1_27) rfl ((if0 _ _).trans (teq hc27).2) kt) ?_
        refine own_via (A' := s₁.setTop (mkF m 35 #[.val (.int p0), .val (.int p1)] [(.int (1 : Int32)), (.int (0 : Int32))])) (fun target kt => ?_) ?_
        · show Steps p.tables e below (s₁.setTop (mkF m 30 #[.val (.int p0), .val (.int p1)] [(.int (0 : Int32))])) _
          refine XS.iconst X0.here hx rfl (hb hby d1_30) ?_
          show Steps p.tables e below (s₁.setTop (mkF m 31 #[.val (.int p0), .val (.int p1)] [(.int (1 : Int32)), (.int (0 : Int32))])) _
          refine XS.goto X0.here hx rfl (pc0 := 31) (pc' := 35) rfl (hb hby d1_31) (by decide) (by decide) ?_
          exact kt
        refine own_via (A' := s₁.setTop (mkF m 42 #[.val (.int p0), .val (.int p1)] [])) (fun target kt => XS.icmpYes X0.here hx rfl (pc0 := 35) (pc' := 42) rfl (hb hby d1_35) rfl (feq ((by decide) : ¬ ((0 : Int32) = (1 : Int32)))).2 (by decide) (by decide) kt) ?_
        refine own_via (A' := s₁.setTop (mkF m 43 #[.val (.int p0), .val (.int p1)] [(.int (0 : Int32))])) (fun target kt => ?_) ?_
        · show Steps p.tables e below (s₁.setTop (mkF m 42 #[.val (.int p0), .val (.int p1)] [])) _
          refine XS.iconst X0.here hx rfl (hb hby d1_42) ?_
          exact kt
        exact own_retN X0 Bd.notSynchronized hx (t := .boolean) Bd.returns (by simp) (hb hby d1_43) (show Q1 Z p0 p1 h0 n0 _ _ _ from ⟨by rw [show own_holds p0 p1 = 0 from by simp [own_holds, hc4, hc14, hc27]] <;> rfl, N0, e0⟩) (by decide) (by decide)
      · refine own_via (A' := s₁.setTop (mkF m 34 #[.val (.int p0), .val (.int p1)] [(.int (0 : Int32))])) (fun target kt => XS.ifYes X0.here hx rfl (pc0 := 27) (pc' := 34) rfl (hb hby d1_27) rfl ((if0 _ _).trans (feq hc27).2) (by decide) (by decide) kt) ?_
        refine own_via (A' := s₁.setTop (mkF m 35 #[.val (.int p0), .val (.int p1)] [(.int (0 : Int32)), (.int (0 : Int32))])) (fun target kt => ?_) ?_
        · show Steps p.tables e below (s₁.setTop (mkF m 34 #[.val (.int p0), .val (.int p1)] [(.int (0 : Int32))])) _
          refine XS.iconst X0.here hx rfl (hb hby d1_34) ?_
          exact kt
        refine own_via (A' := s₁.setTop (mkF m 38 #[.val (.int p0), .val (.int p1)] [])) (fun target kt => XS.icmpNo X0.here hx rfl (hb hby d1_35) rfl (teq ((by decide) : (0 : Int32) = (0 : Int32))).2 kt) ?_
        refine own_via (A' := s₁.setTop (mkF m 43 #[.val (.int p0), .val (.int p1)] [(.int (1 : Int32))])) (fun target kt => ?_) ?_
        · show Steps p.tables e below (s₁.setTop (mkF m 38 #[.val (.int p0), .val (.int p1)] [])) _
          refine XS.iconst X0.here hx rfl (hb hby d1_38) ?_
          show Steps p.tables e below (s₁.setTop (mkF m 39 #[.val (.int p0), .val (.int p1)] [(.int (1 : Int32))])) _
          refine XS.goto X0.here hx rfl (pc0 := 39) (pc' := 43) rfl (hb hby d1_39) (by decide) (by decide) ?_
          exact kt
        exact own_retN X0 Bd.notSynchronized hx (t := .boolean) Bd.returns (by simp) (hb hby d1_43) (show Q1 Z p0 p1 h0 n0 _ _ _ from ⟨by rw [show own_holds p0 p1 = 1 from by simp [own_holds, hc4, hc14, hc27]] <;> rfl, N0, e0⟩) (by decide) (by decide)
    · refine own_via (A' := s₁.setTop (mkF m 17 #[.val (.int p0), .val (.int p1)] [])) (fun target kt => XS.ifNo X0.here hx rfl (hb hby d1_14) rfl ((if0 _ _).trans (feq hc14).1) kt) ?_
      refine own_via (A' := s₁.setTop (mkF m 27 #[.val (.int p0), .val (.int p1)] [(.int (p0 &&& (8192 : Int32))), (.int (1 : Int32))])) (fun target kt => ?_) ?_
      · show Steps p.tables e below (s₁.setTop (mkF m 17 #[.val (.int p0), .val (.int p1)] [])) _
        refine XS.iconst X0.here hx rfl (hb hby d1_17) ?_
        show Steps p.tables e below (s₁.setTop (mkF m 18 #[.val (.int p0), .val (.int p1)] [(.int (1 : Int32))])) _
        refine XS.goto X0.here hx rfl (pc0 := 18) (pc' := 22) rfl (hb hby d1_18) (by decide) (by decide) ?_
        show Steps p.tables e below (s₁.setTop (mkF m 22 #[.val (.int p0), .val (.int p1)] [(.int (1 : Int32))])) _
        refine XS.iloadN X0.here hx rfl (hb hby d1_22) rfl ?_
        show Steps p.tables e below (s₁.setTop (mkF m 23 #[.val (.int p0), .val (.int p1)] [(.int p0), (.int (1 : Int32))])) _
        refine XS.sipush X0.here hx rfl (hb hby d1_23) ?_
        show Steps p.tables e below (s₁.setTop (mkF m 26 #[.val (.int p0), .val (.int p1)] [(.int (8192 : Int32)), (.int p0), (.int (1 : Int32))])) _
        refine XS.iand X0.here hx rfl (hb hby d1_26) rfl ?_
        exact kt
      by_cases hc27 : (p0 &&& (8192 : Int32)) = (0 : Int32)
      · refine own_via (A' := s₁.setTop (mkF m 30 #[.val (.int p0), .val (.int p1)] [(.int (1 : Int32))])) (fun target kt => XS.ifNo X0.here hx rfl (hb hby d1_27) rfl ((if0 _ _).trans (teq hc27).2) kt) ?_
        refine own_via (A' := s₁.setTop (mkF m 35 #[.val (.int p0), .val (.int p1)] [(.int (1 : Int32)), (.int (1 : Int32))])) (fun target kt => ?_) ?_
        · show Steps p.tables e below (s₁.setTop (mkF m 30 #[.val (.int p0), .val (.int p1)] [(.int (1 : Int32))])) _
          refine XS.iconst X0.here hx rfl (hb hby d1_30) ?_
          show Steps p.tables e below (s₁.setTop (mkF m 31 #[.val (.int p0), .val (.int p1)] [(.int (1 : Int32)), (.int (1 : Int32))])) _
          refine XS.goto X0.here hx rfl (pc0 := 31) (pc' := 35) rfl (hb hby d1_31) (by decide) (by decide) ?_
          exact kt
        refine own_via (A' := s₁.setTop (mkF m 38 #[.val (.int p0), .val (.int p1)] [])) (fun target kt => XS.icmpNo X0.here hx rfl (hb hby d1_35) rfl (teq ((by decide) : (1 : Int32) = (1 : Int32))).2 kt) ?_
        refine own_via (A' := s₁.setTop (mkF m 43 #[.val (.int p0), .val (.int p1)] [(.int (1 : Int32))])) (fun target kt => ?_) ?_
        · show Steps p.tables e below (s₁.setTop (mkF m 38 #[.val (.int p0), .val (.int p1)] [])) _
          refine XS.iconst X0.here hx rfl (hb hby d1_38) ?_
          show Steps p.tables e below (s₁.setTop (mkF m 39 #[.val (.int p0), .val (.int p1)] [(.int (1 : Int32))])) _
          refine XS.goto X0.here hx rfl (pc0 := 39) (pc' := 43) rfl (hb hby d1_39) (by decide) (by decide) ?_
          exact kt
        exact own_retN X0 Bd.notSynchronized hx (t := .boolean) Bd.returns (by simp) (hb hby d1_43) (show Q1 Z p0 p1 h0 n0 _ _ _ from ⟨by rw [show own_holds p0 p1 = 1 from by simp [own_holds, hc4, hc14, hc27]] <;> rfl, N0, e0⟩) (by decide) (by decide)
      · refine own_via (A' := s₁.setTop (mkF m 34 #[.val (.int p0), .val (.int p1)] [(.int (1 : Int32))])) (fun target kt => XS.ifYes X0.here hx rfl (pc0 := 27) (pc' := 34) rfl (hb hby d1_27) rfl ((if0 _ _).trans (feq hc27).2) (by decide) (by decide) kt) ?_
        refine own_via (A' := s₁.setTop (mkF m 35 #[.val (.int p0), .val (.int p1)] [(.int (0 : Int32)), (.int (1 : Int32))])) (fun target kt => ?_) ?_
        · show Steps p.tables e below (s₁.setTop (mkF m 34 #[.val (.int p0), .val (.int p1)] [(.int (1 : Int32))])) _
          refine XS.iconst X0.here hx rfl (hb hby d1_34) ?_
          exact kt
        refine own_via (A' := s₁.setTop (mkF m 42 #[.val (.int p0), .val (.int p1)] [])) (fun target kt => XS.icmpYes X0.here hx rfl (pc0 := 35) (pc' := 42) rfl (hb hby d1_35) rfl (feq ((by decide) : ¬ ((1 : Int32) = (0 : Int32)))).2 (by decide) (by decide) kt) ?_
        refine own_via (A' := s₁.setTop (mkF m 43 #[.val (.int p0), .val (.int p1)] [(.int (0 : Int32))])) (fun target kt => ?_) ?_
        · show Steps p.tables e below (s₁.setTop (mkF m 42 #[.val (.int p0), .val (.int p1)] [])) _
          refine XS.iconst X0.here hx rfl (hb hby d1_42) ?_
          exact kt
        exact own_retN X0 Bd.notSynchronized hx (t := .boolean) Bd.returns (by simp) (hb hby d1_43) (show Q1 Z p0 p1 h0 n0 _ _ _ from ⟨by rw [show own_holds p0 p1 = 0 from by simp [own_holds, hc4, hc14, hc27]] <;> rfl, N0, e0⟩) (by decide) (by decide)
theorem pn_0 : plainName "holdfast/ContextHoldsPinLaw" = true := by first | (simp [plainName, overriddenIn]; done) | decide +kernel
theorem pd_0_0 : parseMethodDescriptor "(II)Z" = some ⟨[.int, .int], some .boolean⟩ := by decide +kernel
theorem ef_0 (m : MethodId) (p0 : Int32) (p1 : Int32) (p2 : Int32) : entryFrame m #[(.int p0), (.int p1), (.int p2)] maxLocals = mkF m 0 #[.val (.int p0), .val (.int p1), .val (.int p2), .unset, .unset, .unset, .unset, .unset, .unset, .unset, .unset] [] := by first | (simp [entryFrame, mkF, argsToLocals, Value.category, maxLocals]; done) | rfl
def Q0 (Z : State) (p0 : Int32) (p1 : Int32) (p2 : Int32)  (h0 : Heap) (n0 : Nat) (v : Option Value) (h : Heap) (L : List Loc) : Prop := v = some (.int 1) ∧ Fr n0 L
set_option maxRecDepth 65536 in
set_option maxHeartbeats 40000000 in
theorem rm0 (l : Launch) (Z : State) (a0 : Array Value) (hw : ∀ d ∈ tables_1, d.before a0 Z = true) (ws : List Jvm.Cond) (p0 : Int32) (p1 : Int32) (p2 : Int32)  (h0 : Heap) (n0 : Nat) (Z0 : n0 ≤ h0.size)  :
    MetFree l x (head1 (Jvm.Cond.code x code maxLocals ret :: ws) room_1) (fun a U => a = #[(.int p0), (.int p1), (.int p2)] ∧ Z.Warmed39 U.vm ∧ U.heap = h0) (fun _ _ _ _ _ => True) (fun _ U o U' => ∃ v L, o = .returned v ∧ Q0 Z p0 p1 p2 h0 n0 v U'.heap L ∧ FrameEnd U o U' L 0 0) := by
  refine MetFree.of_bodySF (plainFor_of_name pn_0) hisR ?_
  intro p e s m args below meth c s₁ Bd hml0 hP hK
  obtain ⟨rfl, hZ, hh⟩ := hP
  have hx := Bd.exec
  have hby := Bd.bytes
  have hml : c.maxLocals = 11 := hml0
  have hown : s.vm.findClass "holdfast/ContextHoldsPinLaw" = some m.cls := findClass_of_methodNamed Bd.named
  have X0 : Stand p l e room_1 s m #[(.int p0), (.int p1), (.int p2)] below meth c s₁ [] 0 0 := Stand.of_body Bd
  have e0 : s₁.heap = h0 := by rw [← hh, Bd.state]; rfl
  have N0 := Fr.nil n0
  show own_G p e below (own_P s (Q0 Z p0 p1 p2 h0 n0) 0 0) _
  refine own_via (A' := s₁.setTop (mkF m 0 #[.val (.int p0), .val (.int p1), .val (.int p2), .unset, .unset, .unset, .unset, .unset, .unset, .unset, .unset] [])) (fun t k => castTop (ef_0 m p0 p1 p2) k) ?_
  refine own_via (A' := s₁.setTop (mkF m 8 #[.val (.int p0), .val (.int p1), .val (.int p2), .val (.int ((p0 &&& (2147483647 : Int32)) % (12 : Int32))), .unset, .unset, .unset, .unset, .unset, .unset, .unset] [])) (fun target kt => ?_) ?_
  · show Steps p.tables e below (s₁.setTop (mkF m 0 #[.val (.int p0), .val (.int p1), .val (.int p2), .unset, .unset, .unset, .unset, .unset, .unset, .unset, .unset] [])) _
    refine XS.iloadN X0.here hx rfl (hb hby at_0) rfl ?_
    show Steps p.tables e below (s₁.setTop (mkF m 1 #[.val (.int p0), .val (.int p1), .val (.int p2), .unset, .unset, .unset, .unset, .unset, .unset, .unset, .unset] [(.int p0)])) _
    refine X0.ldcInt hx hown (mvT hZ (hw _ (List.mem_of_getElem? (i := 0) rfl))) (g := (mkF m 1 #[.val (.int p0), .val (.int p1), .val (.int p2), .unset, .unset, .unset, .unset, .unset, .unset, .unset, .unset] [(.int p0)])) rfl (hb hby at_1) _ ?_
    show Steps p.tables e below (s₁.setTop (mkF m 3 #[.val (.int p0), .val (.int p1), .val (.int p2), .unset, .unset, .unset, .unset, .unset, .unset, .unset, .unset] [(.int (2147483647 : Int32)), (.int p0)])) _
    refine XS.iand X0.here hx rfl (hb hby at_3) rfl ?_
    show Steps p.tables e below (s₁.setTop (mkF m 4 #[.val (.int p0), .val (.int p1), .val (.int p2), .unset, .unset, .unset, .unset, .unset, .unset, .unset, .unset] [(.int (p0 &&& (2147483647 : Int32)))])) _
    refine XS.bipush X0.here hx rfl (hb hby at_4) ?_
    show Steps p.tables e below (s₁.setTop (mkF m 6 #[.val (.int p0), .val (.int p1), .val (.int p2), .unset, .unset, .unset, .unset, .unset, .unset, .unset, .unset] [(.int (12 : Int32)), (.int (p0 &&& (2147483647 : Int32)))])) _
    refine iremM X0 hx rfl (hb hby at_6) rfl (by decide) ?_
    show Steps p.tables e below (s₁.setTop (mkF m 7 #[.val (.int p0), .val (.int p1), .val (.int p2), .unset, .unset, .unset, .unset, .unset, .unset, .unset, .unset] [(.int ((p0 &&& (2147483647 : Int32)) % (12 : Int32)))])) _
    refine XS.istoreN X0.here hx rfl (hb hby at_7) rfl (l' := #[.val (.int p0), .val (.int p1), .val (.int p2), .val (.int ((p0 &&& (2147483647 : Int32)) % (12 : Int32))), .unset, .unset, .unset, .unset, .unset, .unset, .unset]) rfl ?_
    exact kt
  have hi := own_idx p0
  generalize ((p0 &&& (2147483647 : Int32)) % (12 : Int32)) = i at hi ⊢
  refine own_via (A' := s₁.setTop (mkF m 11 #[.val (.int p0), .val (.int p1), .val (.int p2), .val (.int i), .unset, .unset, .unset, .unset, .unset, .unset, .unset] [(.int (p2 &&& (1 : Int32)))])) (fun target kt => ?_) ?_
  · show Steps p.tables e below (s₁.setTop (mkF m 8 #[.val (.int p0), .val (.int p1), .val (.int p2), .val (.int i), .unset, .unset, .unset, .unset, .unset, .unset, .unset] [])) _
    refine XS.iloadN X0.here hx rfl (hb hby at_8) rfl ?_
    show Steps p.tables e below (s₁.setTop (mkF m 9 #[.val (.int p0), .val (.int p1), .val (.int p2), .val (.int i), .unset, .unset, .unset, .unset, .unset, .unset, .unset] [(.int p2)])) _
    refine XS.iconst X0.here hx rfl (hb hby at_9) ?_
    show Steps p.tables e below (s₁.setTop (mkF m 10 #[.val (.int p0), .val (.int p1), .val (.int p2), .val (.int i), .unset, .unset, .unset, .unset, .unset, .unset, .unset] [(.int (1 : Int32)), (.int p2)])) _
    refine XS.iand X0.here hx rfl (hb hby at_10) rfl ?_
    exact kt
  by_cases hc11 : (p2 &&& (1 : Int32)) = (0 : Int32)
  · refine own_via (A' := s₁.setTop (mkF m 18 #[.val (.int p0), .val (.int p1), .val (.int p2), .val (.int i), .unset, .unset, .unset, .unset, .unset, .unset, .unset] [])) (fun target kt => XS.ifYes X0.here hx rfl (pc0 := 11) (pc' := 18) rfl (hb hby at_11) rfl ((if0 _ _).trans (teq hc11).1) (by decide) (by decide) kt) ?_
    refine own_via (A' := s₁.setTop (mkF m 25 #[.val (.int p0), .val (.int p1), .val (.int p2), .val (.int i), .val (.int (0 : Int32)), .unset, .unset, .unset, .unset, .unset, .unset] [(.int (p2 &&& (6 : Int32)))])) (fun target kt => ?_) ?_
    · show Steps p.tables e below (s₁.setTop (mkF m 18 #[.val (.int p0), .val (.int p1), .val (.int p2), .val (.int i), .unset, .unset, .unset, .unset, .unset, .unset, .unset] [])) _
      refine XS.iconst X0.here hx rfl (hb hby at_18) ?_
      show Steps p.tables e below (s₁.setTop (mkF m 19 #[.val (.int p0), .val (.int p1), .val (.int p2), .val (.int i), .unset, .unset, .unset, .unset, .unset, .unset, .unset] [(.int (0 : Int32))])) _
      refine XS.istore X0.here hx rfl (hb hby at_19) rfl (l' := #[.val (.int p0), .val (.int p1), .val (.int p2), .val (.int i), .val (.int (0 : Int32)), .unset, .unset, .unset, .unset, .unset, .unset]) rfl ?_
      show Steps p.tables e below (s₁.setTop (mkF m 21 #[.val (.int p0), .val (.int p1), .val (.int p2), .val (.int i), .val (.int (0 : Int32)), .unset, .unset, .unset, .unset, .unset, .unset] [])) _
      refine XS.iloadN X0.here hx rfl (hb hby at_21) rfl ?_
      show Steps p.tables e below (s₁.setTop (mkF m 22 #[.val (.int p0), .val (.int p1), .val (.int p2), .val (.int i), .val (.int (0 : Int32)), .unset, .unset, .unset, .unset, .unset, .unset] [(.int p2)])) _
      refine XS.bipush X0.here hx rfl (hb hby at_22) ?_
      show Steps p.tables e below (s₁.setTop (mkF m 24 #[.val (.int p0), .val (.int p1), .val (.int p2), .val (.int i), .val (.int (0 : Int32)), .unset, .unset, .unset, .unset, .unset, .unset] [(.int (6 : Int32)), (.int p2)])) _
      refine XS.iand X0.here hx rfl (hb hby at_24) rfl ?_
      exact kt
    by_cases hc25 : (p2 &&& (6 : Int32)) = (0 : Int32)
    · refine own_via (A' := s₁.setTop (mkF m 28 #[.val (.int p0), .val (.int p1), .val (.int p2), .val (.int i), .val (.int (0 : Int32)), .unset, .unset, .unset, .unset, .unset, .unset] [])) (fun target kt => XS.ifNo X0.here hx rfl (hb hby at_25) rfl ((if0 _ _).trans (teq hc25).2) kt) ?_
      refine own_via (A' := s₁.setTop (mkF m 42 #[.val (.int p0), .val (.int p1), .val (.int p2), .val (.int i), .val (.int (0 : Int32)), .val (.int (1 : Int32)), .val (.int ((1 : Int32) <<< (i &&& 31))), .unset, .unset, .unset, .unset] [(.int (0 : Int32))])) (fun target kt => ?_) ?_
      · show Steps p.tables e below (s₁.setTop (mkF m 28 #[.val (.int p0), .val (.int p1), .val (.int p2), .val (.int i), .val (.int (0 : Int32)), .unset, .unset, .unset, .unset, .unset, .unset] [])) _
        refine XS.iconst X0.here hx rfl (hb hby at_28) ?_
        show Steps p.tables e below (s₁.setTop (mkF m 29 #[.val (.int p0), .val (.int p1), .val (.int p2), .val (.int i), .val (.int (0 : Int32)), .unset, .unset, .unset, .unset, .unset, .unset] [(.int (1 : Int32))])) _
        refine XS.goto X0.here hx rfl (pc0 := 29) (pc' := 33) rfl (hb hby at_29) (by decide) (by decide) ?_
        show Steps p.tables e below (s₁.setTop (mkF m 33 #[.val (.int p0), .val (.int p1), .val (.int p2), .val (.int i), .val (.int (0 : Int32)), .unset, .unset, .unset, .unset, .unset, .unset] [(.int (1 : Int32))])) _
        refine XS.istore X0.here hx rfl (hb hby at_33) rfl (l' := #[.val (.int p0), .val (.int p1), .val (.int p2), .val (.int i), .val (.int (0 : Int32)), .val (.int (1 : Int32)), .unset, .unset, .unset, .unset, .unset]) rfl ?_
        show Steps p.tables e below (s₁.setTop (mkF m 35 #[.val (.int p0), .val (.int p1), .val (.int p2), .val (.int i), .val (.int (0 : Int32)), .val (.int (1 : Int32)), .unset, .unset, .unset, .unset, .unset] [])) _
        refine XS.iconst X0.here hx rfl (hb hby at_35) ?_
        show Steps p.tables e below (s₁.setTop (mkF m 36 #[.val (.int p0), .val (.int p1), .val (.int p2), .val (.int i), .val (.int (0 : Int32)), .val (.int (1 : Int32)), .unset, .unset, .unset, .unset, .unset] [(.int (1 : Int32))])) _
        refine XS.iloadN X0.here hx rfl (hb hby at_36) rfl ?_
        show Steps p.tables e below (s₁.setTop (mkF m 37 #[.val (.int p0), .val (.int p1), .val (.int p2), .val (.int i), .val (.int (0 : Int32)), .val (.int (1 : Int32)), .unset, .unset, .unset, .unset, .unset] [(.int i), (.int (1 : Int32))])) _
        refine XS.ishl X0.here hx rfl (hb hby at_37) rfl ?_
        show Steps p.tables e below (s₁.setTop (mkF m 38 #[.val (.int p0), .val (.int p1), .val (.int p2), .val (.int i), .val (.int (0 : Int32)), .val (.int (1 : Int32)), .unset, .unset, .unset, .unset, .unset] [(.int ((1 : Int32) <<< (i &&& 31)))])) _
        refine XS.istore X0.here hx rfl (hb hby at_38) rfl (l' := #[.val (.int p0), .val (.int p1), .val (.int p2), .val (.int i), .val (.int (0 : Int32)), .val (.int (1 : Int32)), .val (.int ((1 : Int32) <<< (i &&& 31))), .unset, .unset, .unset, .unset]) rfl ?_
        show Steps p.tables e below (s₁.setTop (mkF m 40 #[.val (.int p0), .val (.int p1), .val (.int p2), .val (.int i), .val (.int (0 : Int32)), .val (.int (1 : Int32)), .val (.int ((1 : Int32) <<< (i &&& 31))), .unset, .unset, .unset, .unset] [])) _
        refine XS.iload X0.here hx rfl (hb hby at_40) rfl ?_
        exact kt
      refine own_via (A' := s₁.setTop (mkF m 54 #[.val (.int p0), .val (.int p1), .val (.int p2), .val (.int i), .val (.int (0 : Int32)), .val (.int (1 : Int32)), .val (.int ((1 : Int32) <<< (i &&& 31))), .unset, .unset, .unset, .unset] [])) (fun target kt => XS.ifYes X0.here hx rfl (pc0 := 42) (pc' := 54) rfl (hb hby at_42) rfl ((if0 _ _).trans (teq ((by decide) : (0 : Int32) = (0 : Int32))).1) (by decide) (by decide) kt) ?_
      refine own_via (A' := s₁.setTop (mkF m 60 #[.val (.int p0), .val (.int p1), .val (.int p2), .val (.int i), .val (.int (0 : Int32)), .val (.int (1 : Int32)), .val (.int ((1 : Int32) <<< (i &&& 31))), .val (.int ((1 : Int32) <<< (i &&& 31))), .unset, .unset, .unset] [(.int (1 : Int32))])) (fun target kt => ?_) ?_
      · show Steps p.tables e below (s₁.setTop (mkF m 54 #[.val (.int p0), .val (.int p1), .val (.int p2), .val (.int i), .val (.int (0 : Int32)), .val (.int (1 : Int32)), .val (.int ((1 : Int32) <<< (i &&& 31))), .unset, .unset, .unset, .unset] [])) _
        refine XS.iload X0.here hx rfl (hb hby at_54) rfl ?_
        show Steps p.tables e below (s₁.setTop (mkF m 56 #[.val (.int p0), .val (.int p1), .val (.int p2), .val (.int i), .val (.int (0 : Int32)), .val (.int (1 : Int32)), .val (.int ((1 : Int32) <<< (i &&& 31))), .unset, .unset, .unset, .unset] [(.int ((1 : Int32) <<< (i &&& 31)))])) _
        refine XS.istore X0.here hx rfl (hb hby at_56) rfl (l' := #[.val (.int p0), .val (.int p1), .val (.int p2), .val (.int i), .val (.int (0 : Int32)), .val (.int (1 : Int32)), .val (.int ((1 : Int32) <<< (i &&& 31))), .val (.int ((1 : Int32) <<< (i &&& 31))), .unset, .unset, .unset]) rfl ?_
        show Steps p.tables e below (s₁.setTop (mkF m 58 #[.val (.int p0), .val (.int p1), .val (.int p2), .val (.int i), .val (.int (0 : Int32)), .val (.int (1 : Int32)), .val (.int ((1 : Int32) <<< (i &&& 31))), .val (.int ((1 : Int32) <<< (i &&& 31))), .unset, .unset, .unset] [])) _
        refine XS.iload X0.here hx rfl (hb hby at_58) rfl ?_
        exact kt
      refine own_via (A' := s₁.setTop (mkF m 63 #[.val (.int p0), .val (.int p1), .val (.int p2), .val (.int i), .val (.int (0 : Int32)), .val (.int (1 : Int32)), .val (.int ((1 : Int32) <<< (i &&& 31))), .val (.int ((1 : Int32) <<< (i &&& 31))), .unset, .unset, .unset] [])) (fun target kt => XS.ifNo X0.here hx rfl (hb hby at_60) rfl ((if0 _ _).trans (feq ((by decide) : ¬ ((1 : Int32) = (0 : Int32)))).1) kt) ?_
      refine own_via (A' := s₁.setTop (mkF m 83 #[.val (.int p0), .val (.int p1), .val (.int p2), .val (.int i), .val (.int (0 : Int32)), .val (.int (1 : Int32)), .val (.int ((1 : Int32) <<< (i &&& 31))), .val (.int ((1 : Int32) <<< (i &&& 31))), .val (.int (4096 : Int32)), .unset, .unset] [(.int (1 : Int32)), (.int ((((4096 : Int32).toUInt32 >>> (i &&& 31).toUInt32).toInt32) &&& (1 : Int32)))])) (fun target kt => ?_) ?_
      · show Steps p.tables e below (s₁.setTop (mkF m 63 #[.val (.int p0), .val (.int p1), .val (.int p2), .val (.int i), .val (.int (0 : Int32)), .val (.int (1 : Int32)), .val (.int ((1 : Int32) <<< (i &&& 31))), .val (.int ((1 : Int32) <<< (i &&& 31))), .unset, .unset, .unset] [])) _
        refine XS.sipush X0.here hx rfl (hb hby at_63) ?_
        show Steps p.tables e below (s₁.setTop (mkF m 66 #[.val (.int p0), .val (.int p1), .val (.int p2), .val (.int i), .val (.int (0 : Int32)), .val (.int (1 : Int32)), .val (.int ((1 : Int32) <<< (i &&& 31))), .val (.int ((1 : Int32) <<< (i &&& 31))), .unset, .unset, .unset] [(.int (4096 : Int32))])) _
        refine XS.goto X0.here hx rfl (pc0 := 66) (pc' := 74) rfl (hb hby at_66) (by decide) (by decide) ?_
        show Steps p.tables e below (s₁.setTop (mkF m 74 #[.val (.int p0), .val (.int p1), .val (.int p2), .val (.int i), .val (.int (0 : Int32)), .val (.int (1 : Int32)), .val (.int ((1 : Int32) <<< (i &&& 31))), .val (.int ((1 : Int32) <<< (i &&& 31))), .unset, .unset, .unset] [(.int (4096 : Int32))])) _
        refine XS.istore X0.here hx rfl (hb hby at_74) rfl (l' := #[.val (.int p0), .val (.int p1), .val (.int p2), .val (.int i), .val (.int (0 : Int32)), .val (.int (1 : Int32)), .val (.int ((1 : Int32) <<< (i &&& 31))), .val (.int ((1 : Int32) <<< (i &&& 31))), .val (.int (4096 : Int32)), .unset, .unset]) rfl ?_
        show Steps p.tables e below (s₁.setTop (mkF m 76 #[.val (.int p0), .val (.int p1), .val (.int p2), .val (.int i), .val (.int (0 : Int32)), .val (.int (1 : Int32)), .val (.int ((1 : Int32) <<< (i &&& 31))), .val (.int ((1 : Int32) <<< (i &&& 31))), .val (.int (4096 : Int32)), .unset, .unset] [])) _
        refine XS.iload X0.here hx rfl (hb hby at_76) rfl ?_
        show Steps p.tables e below (s₁.setTop (mkF m 78 #[.val (.int p0), .val (.int p1), .val (.int p2), .val (.int i), .val (.int (0 : Int32)), .val (.int (1 : Int32)), .val (.int ((1 : Int32) <<< (i &&& 31))), .val (.int ((1 : Int32) <<< (i &&& 31))), .val (.int (4096 : Int32)), .unset, .unset] [(.int (4096 : Int32))])) _
        refine XS.iloadN X0.here hx rfl (hb hby at_78) rfl ?_
        show Steps p.tables e below (s₁.setTop (mkF m 79 #[.val (.int p0), .val (.int p1), .val (.int p2), .val (.int i), .val (.int (0 : Int32)), .val (.int (1 : Int32)), .val (.int ((1 : Int32) <<< (i &&& 31))), .val (.int ((1 : Int32) <<< (i &&& 31))), .val (.int (4096 : Int32)), .unset, .unset] [(.int i), (.int (4096 : Int32))])) _
        refine XS.iushr X0.here hx rfl (hb hby at_79) rfl ?_
        show Steps p.tables e below (s₁.setTop (mkF m 80 #[.val (.int p0), .val (.int p1), .val (.int p2), .val (.int i), .val (.int (0 : Int32)), .val (.int (1 : Int32)), .val (.int ((1 : Int32) <<< (i &&& 31))), .val (.int ((1 : Int32) <<< (i &&& 31))), .val (.int (4096 : Int32)), .unset, .unset] [(.int (((4096 : Int32).toUInt32 >>> (i &&& 31).toUInt32).toInt32))])) _
        refine XS.iconst X0.here hx rfl (hb hby at_80) ?_
        show Steps p.tables e below (s₁.setTop (mkF m 81 #[.val (.int p0), .val (.int p1), .val (.int p2), .val (.int i), .val (.int (0 : Int32)), .val (.int (1 : Int32)), .val (.int ((1 : Int32) <<< (i &&& 31))), .val (.int ((1 : Int32) <<< (i &&& 31))), .val (.int (4096 : Int32)), .unset, .unset] [(.int (1 : Int32)), (.int (((4096 : Int32).toUInt32 >>> (i &&& 31).toUInt32).toInt32))])) _
        refine XS.iand X0.here hx rfl (hb hby at_81) rfl ?_
        show Steps p.tables e below (s₁.setTop (mkF m 82 #[.val (.int p0), .val (.int p1), .val (.int p2), .val (.int i), .val (.int (0 : Int32)), .val (.int (1 : Int32)), .val (.int ((1 : Int32) <<< (i &&& 31))), .val (.int ((1 : Int32) <<< (i &&& 31))), .val (.int (4096 : Int32)), .unset, .unset] [(.int ((((4096 : Int32).toUInt32 >>> (i &&& 31).toUInt32).toInt32) &&& (1 : Int32)))])) _
        refine XS.iconst X0.here hx rfl (hb hby at_82) ?_
        exact kt
      by_cases hc83 : ((((4096 : Int32).toUInt32 >>> (i &&& 31).toUInt32).toInt32) &&& (1 : Int32)) = (1 : Int32)
      · refine own_via (A' := s₁.setTop (mkF m 86 #[.val (.int p0), .val (.int p1), .val (.int p2), .val (.int i), .val (.int (0 : Int32)), .val (.int (1 : Int32)), .val (.int ((1 : Int32) <<< (i &&& 31))), .val (.int ((1 : Int32) <<< (i &&& 31))), .val (.int (4096 : Int32)), .unset, .unset] [])) (fun target kt => XS.icmpNo X0.here hx rfl (hb hby at_83) rfl (teq hc83).2 kt) ?_
        refine own_via (A' := s₁.setTop (mkF m 95 #[.val (.int p0), .val (.int p1), .val (.int p2), .val (.int i), .val (.int (0 : Int32)), .val (.int (1 : Int32)), .val (.int ((1 : Int32) <<< (i &&& 31))), .val (.int ((1 : Int32) <<< (i &&& 31))), .val (.int (4096 : Int32)), .val (.int (1 : Int32)), .unset] [(.int (1 : Int32))])) (fun target kt => ?_) ?_
        · show Steps p.tables e below (s₁.setTop (mkF m 86 #[.val (.int p0), .val (.int p1), .val (.int p2), .val (.int i), .val (.int (0 : Int32)), .val (.int (1 : Int32)), .val (.int ((1 : Int32) <<< (i &&& 31))), .val (.int ((1 : Int32) <<< (i &&& 31))), .val (.int (4096 : Int32)), .unset, .unset] [])) _
          refine XS.iconst X0.here hx rfl (hb hby at_86) ?_
          show Steps p.tables e below (s₁.setTop (mkF m 87 #[.val (.int p0), .val (.int p1), .val (.int p2), .val (.int i), .val (.int (0 : Int32)), .val (.int (1 : Int32)), .val (.int ((1 : Int32) <<< (i &&& 31))), .val (.int ((1 : Int32) <<< (i &&& 31))), .val (.int (4096 : Int32)), .unset, .unset] [(.int (1 : Int32))])) _
          refine XS.goto X0.here hx rfl (pc0 := 87) (pc' := 91) rfl (hb hby at_87) (by decide) (by decide) ?_
          show Steps p.tables e below (s₁.setTop (mkF m 91 #[.val (.int p0), .val (.int p1), .val (.int p2), .val (.int i), .val (.int (0 : Int32)), .val (.int (1 : Int32)), .val (.int ((1 : Int32) <<< (i &&& 31))), .val (.int ((1 : Int32) <<< (i &&& 31))), .val (.int (4096 : Int32)), .unset, .unset] [(.int (1 : Int32))])) _
          refine XS.istore X0.here hx rfl (hb hby at_91) rfl (l' := #[.val (.int p0), .val (.int p1), .val (.int p2), .val (.int i), .val (.int (0 : Int32)), .val (.int (1 : Int32)), .val (.int ((1 : Int32) <<< (i &&& 31))), .val (.int ((1 : Int32) <<< (i &&& 31))), .val (.int (4096 : Int32)), .val (.int (1 : Int32)), .unset]) rfl ?_
          show Steps p.tables e below (s₁.setTop (mkF m 93 #[.val (.int p0), .val (.int p1), .val (.int p2), .val (.int i), .val (.int (0 : Int32)), .val (.int (1 : Int32)), .val (.int ((1 : Int32) <<< (i &&& 31))), .val (.int ((1 : Int32) <<< (i &&& 31))), .val (.int (4096 : Int32)), .val (.int (1 : Int32)), .unset] [])) _
          refine XS.iload X0.here hx rfl (hb hby at_93) rfl ?_
          exact kt
        refine own_via (A' := s₁.setTop (mkF m 116 #[.val (.int p0), .val (.int p1), .val (.int p2), .val (.int i), .val (.int (0 : Int32)), .val (.int (1 : Int32)), .val (.int ((1 : Int32) <<< (i &&& 31))), .val (.int ((1 : Int32) <<< (i &&& 31))), .val (.int (4096 : Int32)), .val (.int (1 : Int32)), .unset] [])) (fun target kt => XS.ifYes X0.here hx rfl (pc0 := 95) (pc' := 116) rfl (hb hby at_95) rfl ((if0 _ _).trans (feq ((by decide) : ¬ ((1 : Int32) = (0 : Int32)))).2) (by decide) (by decide) kt) ?_
        refine own_via (A' := s₁.setTop (mkF m 127 #[.val (.int p0), .val (.int p1), .val (.int p2), .val (.int i), .val (.int (0 : Int32)), .val (.int (1 : Int32)), .val (.int ((1 : Int32) <<< (i &&& 31))), .val (.int ((1 : Int32) <<< (i &&& 31))), .val (.int (4096 : Int32)), .val (.int (1 : Int32)), .val (.int (1 : Int32))] [(.int (4096 : Int32)), (.int ((1 : Int32) <<< (i &&& 31)))])) (fun target kt => ?_) ?_
        · show Steps p.tables e below (s₁.setTop (mkF m 116 #[.val (.int p0), .val (.int p1), .val (.int p2), .val (.int i), .val (.int (0 : Int32)), .val (.int (1 : Int32)), .val (.int ((1 : Int32) <<< (i &&& 31))), .val (.int ((1 : Int32) <<< (i &&& 31))), .val (.int (4096 : Int32)), .val (.int (1 : Int32)), .unset] [])) _
          refine XS.iconst X0.here hx rfl (hb hby at_116) ?_
          show Steps p.tables e below (s₁.setTop (mkF m 117 #[.val (.int p0), .val (.int p1), .val (.int p2), .val (.int i), .val (.int (0 : Int32)), .val (.int (1 : Int32)), .val (.int ((1 : Int32) <<< (i &&& 31))), .val (.int ((1 : Int32) <<< (i &&& 31))), .val (.int (4096 : Int32)), .val (.int (1 : Int32)), .unset] [(.int (1 : Int32))])) _
          refine XS.goto X0.here hx rfl (pc0 := 117) (pc' := 121) rfl (hb hby at_117) (by decide) (by decide) ?_
          show Steps p.tables e below (s₁.setTop (mkF m 121 #[.val (.int p0), .val (.int p1), .val (.int p2), .val (.int i), .val (.int (0 : Int32)), .val (.int (1 : Int32)), .val (.int ((1 : Int32) <<< (i &&& 31))), .val (.int ((1 : Int32) <<< (i &&& 31))), .val (.int (4096 : Int32)), .val (.int (1 : Int32)), .unset] [(.int (1 : Int32))])) _
          refine XS.istore X0.here hx rfl (hb hby at_121) rfl (l' := #[.val (.int p0), .val (.int p1), .val (.int p2), .val (.int i), .val (.int (0 : Int32)), .val (.int (1 : Int32)), .val (.int ((1 : Int32) <<< (i &&& 31))), .val (.int ((1 : Int32) <<< (i &&& 31))), .val (.int (4096 : Int32)), .val (.int (1 : Int32)), .val (.int (1 : Int32))]) rfl ?_
          show Steps p.tables e below (s₁.setTop (mkF m 123 #[.val (.int p0), .val (.int p1), .val (.int p2), .val (.int i), .val (.int (0 : Int32)), .val (.int (1 : Int32)), .val (.int ((1 : Int32) <<< (i &&& 31))), .val (.int ((1 : Int32) <<< (i &&& 31))), .val (.int (4096 : Int32)), .val (.int (1 : Int32)), .val (.int (1 : Int32))] [])) _
          refine XS.iload X0.here hx rfl (hb hby at_123) rfl ?_
          show Steps p.tables e below (s₁.setTop (mkF m 125 #[.val (.int p0), .val (.int p1), .val (.int p2), .val (.int i), .val (.int (0 : Int32)), .val (.int (1 : Int32)), .val (.int ((1 : Int32) <<< (i &&& 31))), .val (.int ((1 : Int32) <<< (i &&& 31))), .val (.int (4096 : Int32)), .val (.int (1 : Int32)), .val (.int (1 : Int32))] [(.int ((1 : Int32) <<< (i &&& 31)))])) _
          refine XS.iload X0.here hx rfl (hb hby at_125) rfl ?_
          exact kt
        obtain ⟨_, _, ⟨T1, L1, k1, n1⟩, -, X1, ⟨Lc1, hQ1, l1, y1, z1⟩, st1⟩ := Jvm.LawKit.callS X0 hx (y := (⟨"holdfast/Context", "holds", "(II)Z"⟩ : MethodName)) hown (mvT hZ (hw _ (List.mem_of_getElem? (i := 1) rfl))) (mvT hZ (hw _ (List.mem_of_getElem? (i := 2) rfl))) (mvT hZ (hw _ (List.mem_of_getElem? (i := 3) rfl))) (mvT hZ (hw _ (List.mem_of_getElem? (i := 4) rfl))) (by decide) (backOf (W := 0) (rm1 l Z a0 hw [] ((1 : Int32) <<< (i &&& 31)) (4096 : Int32)  h0 n0 Z0 ) hZ (hw _ (List.mem_of_getElem? (i := 4) rfl)) (hw _ (List.mem_of_getElem? (i := 3) rfl)) (by decide) (by decide)) (g := (mkF m 127 #[.val (.int p0), .val (.int p1), .val (.int p2), .val (.int i), .val (.int (0 : Int32)), .val (.int (1 : Int32)), .val (.int ((1 : Int32) <<< (i &&& 31))), .val (.int ((1 : Int32) <<< (i &&& 31))), .val (.int (4096 : Int32)), .val (.int (1 : Int32)), .val (.int (1 : Int32))] [(.int (4096 : Int32)), (.int ((1 : Int32) <<< (i &&& 31)))])) rfl (by rw [hml]; rfl) (argsL := [(.int ((1 : Int32) <<< (i &&& 31))), (.int (4096 : Int32))]) (rest := []) (lenOf pd_0_0 rfl) rfl (by show 2 * 0 + _ ≤ _; exact Nat.le_of_eq rfl) (hb hby at_127) (fun _ _ => ⟨rfl, e0, (by decide : 0 + 0 ≤ _), (by decide : 0 + 0 ≤ _)⟩)
        dsimp only [Pt.U, Pt.locs, Pt.cells, Pt.slots] at X1 l1 y1 z1 st1 hQ1
        subst l1 y1 z1
        obtain ⟨rfl, N1q, e1⟩ := hQ1
        have N1 := Fr.app N0 N1q
        refine own_via (A' := T1.setTop (mkF m 130 #[.val (.int p0), .val (.int p1), .val (.int p2), .val (.int i), .val (.int (0 : Int32)), .val (.int (1 : Int32)), .val (.int ((1 : Int32) <<< (i &&& 31))), .val (.int ((1 : Int32) <<< (i &&& 31))), .val (.int (4096 : Int32)), .val (.int (1 : Int32)), .val (.int (1 : Int32))] [(.int (own_holds ((1 : Int32) <<< (i &&& 31)) (4096 : Int32)))])) st1 ?_
        refine own_via (A' := T1.setTop (mkF m 132 #[.val (.int p0), .val (.int p1), .val (.int p2), .val (.int i), .val (.int (0 : Int32)), .val (.int (1 : Int32)), .val (.int ((1 : Int32) <<< (i &&& 31))), .val (.int ((1 : Int32) <<< (i &&& 31))), .val (.int (4096 : Int32)), .val (.int (1 : Int32)), .val (.int (1 : Int32))] [(.int (1 : Int32)), (.int (own_holds ((1 : Int32) <<< (i &&& 31)) (4096 : Int32)))])) (fun target kt => ?_) ?_
        · show Steps p.tables e below (T1.setTop (mkF m 130 #[.val (.int p0), .val (.int p1), .val (.int p2), .val (.int i), .val (.int (0 : Int32)), .val (.int (1 : Int32)), .val (.int ((1 : Int32) <<< (i &&& 31))), .val (.int ((1 : Int32) <<< (i &&& 31))), .val (.int (4096 : Int32)), .val (.int (1 : Int32)), .val (.int (1 : Int32))] [(.int (own_holds ((1 : Int32) <<< (i &&& 31)) (4096 : Int32)))])) _
          refine XS.iload X1.here hx rfl (hb hby at_130) rfl ?_
          exact kt
        refine own_via (A' := T1.setTop (mkF m 135 #[.val (.int p0), .val (.int p1), .val (.int p2), .val (.int i), .val (.int (0 : Int32)), .val (.int (1 : Int32)), .val (.int ((1 : Int32) <<< (i &&& 31))), .val (.int ((1 : Int32) <<< (i &&& 31))), .val (.int (4096 : Int32)), .val (.int (1 : Int32)), .val (.int (1 : Int32))] [])) (fun target kt => XS.icmpNo X1.here hx rfl (hb hby at_132) rfl (teq (own_any _ : (own_holds ((1 : Int32) <<< (i &&& 31)) (4096 : Int32)) = (1 : Int32))).2 kt) ?_
        refine own_via (A' := T1.setTop (mkF m 140 #[.val (.int p0), .val (.int p1), .val (.int p2), .val (.int i), .val (.int (0 : Int32)), .val (.int (1 : Int32)), .val (.int ((1 : Int32) <<< (i &&& 31))), .val (.int ((1 : Int32) <<< (i &&& 31))), .val (.int (4096 : Int32)), .val (.int (1 : Int32)), .val (.int (1 : Int32))] [(.int (1 : Int32))])) (fun target kt => ?_) ?_
        · show Steps p.tables e below (T1.setTop (mkF m 135 #[.val (.int p0), .val (.int p1), .val (.int p2), .val (.int i), .val (.int (0 : Int32)), .val (.int (1 : Int32)), .val (.int ((1 : Int32) <<< (i &&& 31))), .val (.int ((1 : Int32) <<< (i &&& 31))), .val (.int (4096 : Int32)), .val (.int (1 : Int32)), .val (.int (1 : Int32))] [])) _
          refine XS.iconst X1.here hx rfl (hb hby at_135) ?_
          show Steps p.tables e below (T1.setTop (mkF m 136 #[.val (.int p0), .val (.int p1), .val (.int p2), .val (.int i), .val (.int (0 : Int32)), .val (.int (1 : Int32)), .val (.int ((1 : Int32) <<< (i &&& 31))), .val (.int ((1 : Int32) <<< (i &&& 31))), .val (.int (4096 : Int32)), .val (.int (1 : Int32)), .val (.int (1 : Int32))] [(.int (1 : Int32))])) _
          refine XS.goto X1.here hx rfl (pc0 := 136) (pc' := 140) rfl (hb hby at_136) (by decide) (by decide) ?_
          exact kt
        exact own_retN X1 Bd.notSynchronized hx (t := .boolean) Bd.returns (by simp) (hb hby at_140) (show Q0 Z p0 p1 p2 h0 n0 _ _ _ from ⟨rfl, N1⟩) (by decide) (by decide)
      · refine own_via (A' := s₁.setTop (mkF m 90 #[.val (.int p0), .val (.int p1), .val (.int p2), .val (.int i), .val (.int (0 : Int32)), .val (.int (1 : Int32)), .val (.int ((1 : Int32) <<< (i &&& 31))), .val (.int ((1 : Int32) <<< (i &&& 31))), .val (.int (4096 : Int32)), .unset, .unset] [])) (fun target kt => XS.icmpYes X0.here hx rfl (pc0 := 83) (pc' := 90) rfl (hb hby at_83) rfl (feq hc83).2 (by decide) (by decide) kt) ?_
        refine own_via (A' := s₁.setTop (mkF m 95 #[.val (.int p0), .val (.int p1), .val (.int p2), .val (.int i), .val (.int (0 : Int32)), .val (.int (1 : Int32)), .val (.int ((1 : Int32) <<< (i &&& 31))), .val (.int ((1 : Int32) <<< (i &&& 31))), .val (.int (4096 : Int32)), .val (.int (0 : Int32)), .unset] [(.int (1 : Int32))])) (fun target kt => ?_) ?_
        · show Steps p.tables e below (s₁.setTop (mkF m 90 #[.val (.int p0), .val (.int p1), .val (.int p2), .val (.int i), .val (.int (0 : Int32)), .val (.int (1 : Int32)), .val (.int ((1 : Int32) <<< (i &&& 31))), .val (.int ((1 : Int32) <<< (i &&& 31))), .val (.int (4096 : Int32)), .unset, .unset] [])) _
          refine XS.iconst X0.here hx rfl (hb hby at_90) ?_
          show Steps p.tables e below (s₁.setTop (mkF m 91 #[.val (.int p0), .val (.int p1), .val (.int p2), .val (.int i), .val (.int (0 : Int32)), .val (.int (1 : Int32)), .val (.int ((1 : Int32) <<< (i &&& 31))), .val (.int ((1 : Int32) <<< (i &&& 31))), .val (.int (4096 : Int32)), .unset, .unset] [(.int (0 : Int32))])) _
          refine XS.istore X0.here hx rfl (hb hby at_91) rfl (l' := #[.val (.int p0), .val (.int p1), .val (.int p2), .val (.int i), .val (.int (0 : Int32)), .val (.int (1 : Int32)), .val (.int ((1 : Int32) <<< (i &&& 31))), .val (.int ((1 : Int32) <<< (i &&& 31))), .val (.int (4096 : Int32)), .val (.int (0 : Int32)), .unset]) rfl ?_
          show Steps p.tables e below (s₁.setTop (mkF m 93 #[.val (.int p0), .val (.int p1), .val (.int p2), .val (.int i), .val (.int (0 : Int32)), .val (.int (1 : Int32)), .val (.int ((1 : Int32) <<< (i &&& 31))), .val (.int ((1 : Int32) <<< (i &&& 31))), .val (.int (4096 : Int32)), .val (.int (0 : Int32)), .unset] [])) _
          refine XS.iload X0.here hx rfl (hb hby at_93) rfl ?_
          exact kt
        refine own_via (A' := s₁.setTop (mkF m 116 #[.val (.int p0), .val (.int p1), .val (.int p2), .val (.int i), .val (.int (0 : Int32)), .val (.int (1 : Int32)), .val (.int ((1 : Int32) <<< (i &&& 31))), .val (.int ((1 : Int32) <<< (i &&& 31))), .val (.int (4096 : Int32)), .val (.int (0 : Int32)), .unset] [])) (fun target kt => XS.ifYes X0.here hx rfl (pc0 := 95) (pc' := 116) rfl (hb hby at_95) rfl ((if0 _ _).trans (feq ((by decide) : ¬ ((1 : Int32) = (0 : Int32)))).2) (by decide) (by decide) kt) ?_
        refine own_via (A' := s₁.setTop (mkF m 127 #[.val (.int p0), .val (.int p1), .val (.int p2), .val (.int i), .val (.int (0 : Int32)), .val (.int (1 : Int32)), .val (.int ((1 : Int32) <<< (i &&& 31))), .val (.int ((1 : Int32) <<< (i &&& 31))), .val (.int (4096 : Int32)), .val (.int (0 : Int32)), .val (.int (1 : Int32))] [(.int (4096 : Int32)), (.int ((1 : Int32) <<< (i &&& 31)))])) (fun target kt => ?_) ?_
        · show Steps p.tables e below (s₁.setTop (mkF m 116 #[.val (.int p0), .val (.int p1), .val (.int p2), .val (.int i), .val (.int (0 : Int32)), .val (.int (1 : Int32)), .val (.int ((1 : Int32) <<< (i &&& 31))), .val (.int ((1 : Int32) <<< (i &&& 31))), .val (.int (4096 : Int32)), .val (.int (0 : Int32)), .unset] [])) _
          refine XS.iconst X0.here hx rfl (hb hby at_116) ?_
          show Steps p.tables e below (s₁.setTop (mkF m 117 #[.val (.int p0), .val (.int p1), .val (.int p2), .val (.int i), .val (.int (0 : Int32)), .val (.int (1 : Int32)), .val (.int ((1 : Int32) <<< (i &&& 31))), .val (.int ((1 : Int32) <<< (i &&& 31))), .val (.int (4096 : Int32)), .val (.int (0 : Int32)), .unset] [(.int (1 : Int32))])) _
          refine XS.goto X0.here hx rfl (pc0 := 117) (pc' := 121) rfl (hb hby at_117) (by decide) (by decide) ?_
          show Steps p.tables e below (s₁.setTop (mkF m 121 #[.val (.int p0), .val (.int p1), .val (.int p2), .val (.int i), .val (.int (0 : Int32)), .val (.int (1 : Int32)), .val (.int ((1 : Int32) <<< (i &&& 31))), .val (.int ((1 : Int32) <<< (i &&& 31))), .val (.int (4096 : Int32)), .val (.int (0 : Int32)), .unset] [(.int (1 : Int32))])) _
          refine XS.istore X0.here hx rfl (hb hby at_121) rfl (l' := #[.val (.int p0), .val (.int p1), .val (.int p2), .val (.int i), .val (.int (0 : Int32)), .val (.int (1 : Int32)), .val (.int ((1 : Int32) <<< (i &&& 31))), .val (.int ((1 : Int32) <<< (i &&& 31))), .val (.int (4096 : Int32)), .val (.int (0 : Int32)), .val (.int (1 : Int32))]) rfl ?_
          show Steps p.tables e below (s₁.setTop (mkF m 123 #[.val (.int p0), .val (.int p1), .val (.int p2), .val (.int i), .val (.int (0 : Int32)), .val (.int (1 : Int32)), .val (.int ((1 : Int32) <<< (i &&& 31))), .val (.int ((1 : Int32) <<< (i &&& 31))), .val (.int (4096 : Int32)), .val (.int (0 : Int32)), .val (.int (1 : Int32))] [])) _
          refine XS.iload X0.here hx rfl (hb hby at_123) rfl ?_
          show Steps p.tables e below (s₁.setTop (mkF m 125 #[.val (.int p0), .val (.int p1), .val (.int p2), .val (.int i), .val (.int (0 : Int32)), .val (.int (1 : Int32)), .val (.int ((1 : Int32) <<< (i &&& 31))), .val (.int ((1 : Int32) <<< (i &&& 31))), .val (.int (4096 : Int32)), .val (.int (0 : Int32)), .val (.int (1 : Int32))] [(.int ((1 : Int32) <<< (i &&& 31)))])) _
          refine XS.iload X0.here hx rfl (hb hby at_125) rfl ?_
          exact kt
        obtain ⟨_, _, ⟨T2, L2, k2, n2⟩, -, X2, ⟨Lc2, hQ2, l2, y2, z2⟩, st2⟩ := Jvm.LawKit.callS X0 hx (y := (⟨"holdfast/Context", "holds", "(II)Z"⟩ : MethodName)) hown (mvT hZ (hw _ (List.mem_of_getElem? (i := 1) rfl))) (mvT hZ (hw _ (List.mem_of_getElem? (i := 2) rfl))) (mvT hZ (hw _ (List.mem_of_getElem? (i := 3) rfl))) (mvT hZ (hw _ (List.mem_of_getElem? (i := 4) rfl))) (by decide) (backOf (W := 0) (rm1 l Z a0 hw [] ((1 : Int32) <<< (i &&& 31)) (4096 : Int32)  h0 n0 Z0 ) hZ (hw _ (List.mem_of_getElem? (i := 4) rfl)) (hw _ (List.mem_of_getElem? (i := 3) rfl)) (by decide) (by decide)) (g := (mkF m 127 #[.val (.int p0), .val (.int p1), .val (.int p2), .val (.int i), .val (.int (0 : Int32)), .val (.int (1 : Int32)), .val (.int ((1 : Int32) <<< (i &&& 31))), .val (.int ((1 : Int32) <<< (i &&& 31))), .val (.int (4096 : Int32)), .val (.int (0 : Int32)), .val (.int (1 : Int32))] [(.int (4096 : Int32)), (.int ((1 : Int32) <<< (i &&& 31)))])) rfl (by rw [hml]; rfl) (argsL := [(.int ((1 : Int32) <<< (i &&& 31))), (.int (4096 : Int32))]) (rest := []) (lenOf pd_0_0 rfl) rfl (by show 2 * 0 + _ ≤ _; exact Nat.le_of_eq rfl) (hb hby at_127) (fun _ _ => ⟨rfl, e0, (by decide : 0 + 0 ≤ _), (by decide : 0 + 0 ≤ _)⟩)
        dsimp only [Pt.U, Pt.locs, Pt.cells, Pt.slots] at X2 l2 y2 z2 st2 hQ2
        subst l2 y2 z2
        obtain ⟨rfl, N2q, e2⟩ := hQ2
        have N2 := Fr.app N0 N2q
        refine own_via (A' := T2.setTop (mkF m 130 #[.val (.int p0), .val (.int p1), .val (.int p2), .val (.int i), .val (.int (0 : Int32)), .val (.int (1 : Int32)), .val (.int ((1 : Int32) <<< (i &&& 31))), .val (.int ((1 : Int32) <<< (i &&& 31))), .val (.int (4096 : Int32)), .val (.int (0 : Int32)), .val (.int (1 : Int32))] [(.int (own_holds ((1 : Int32) <<< (i &&& 31)) (4096 : Int32)))])) st2 ?_
        refine own_via (A' := T2.setTop (mkF m 132 #[.val (.int p0), .val (.int p1), .val (.int p2), .val (.int i), .val (.int (0 : Int32)), .val (.int (1 : Int32)), .val (.int ((1 : Int32) <<< (i &&& 31))), .val (.int ((1 : Int32) <<< (i &&& 31))), .val (.int (4096 : Int32)), .val (.int (0 : Int32)), .val (.int (1 : Int32))] [(.int (1 : Int32)), (.int (own_holds ((1 : Int32) <<< (i &&& 31)) (4096 : Int32)))])) (fun target kt => ?_) ?_
        · show Steps p.tables e below (T2.setTop (mkF m 130 #[.val (.int p0), .val (.int p1), .val (.int p2), .val (.int i), .val (.int (0 : Int32)), .val (.int (1 : Int32)), .val (.int ((1 : Int32) <<< (i &&& 31))), .val (.int ((1 : Int32) <<< (i &&& 31))), .val (.int (4096 : Int32)), .val (.int (0 : Int32)), .val (.int (1 : Int32))] [(.int (own_holds ((1 : Int32) <<< (i &&& 31)) (4096 : Int32)))])) _
          refine XS.iload X2.here hx rfl (hb hby at_130) rfl ?_
          exact kt
        refine own_via (A' := T2.setTop (mkF m 135 #[.val (.int p0), .val (.int p1), .val (.int p2), .val (.int i), .val (.int (0 : Int32)), .val (.int (1 : Int32)), .val (.int ((1 : Int32) <<< (i &&& 31))), .val (.int ((1 : Int32) <<< (i &&& 31))), .val (.int (4096 : Int32)), .val (.int (0 : Int32)), .val (.int (1 : Int32))] [])) (fun target kt => XS.icmpNo X2.here hx rfl (hb hby at_132) rfl (teq (own_any _ : (own_holds ((1 : Int32) <<< (i &&& 31)) (4096 : Int32)) = (1 : Int32))).2 kt) ?_
        refine own_via (A' := T2.setTop (mkF m 140 #[.val (.int p0), .val (.int p1), .val (.int p2), .val (.int i), .val (.int (0 : Int32)), .val (.int (1 : Int32)), .val (.int ((1 : Int32) <<< (i &&& 31))), .val (.int ((1 : Int32) <<< (i &&& 31))), .val (.int (4096 : Int32)), .val (.int (0 : Int32)), .val (.int (1 : Int32))] [(.int (1 : Int32))])) (fun target kt => ?_) ?_
        · show Steps p.tables e below (T2.setTop (mkF m 135 #[.val (.int p0), .val (.int p1), .val (.int p2), .val (.int i), .val (.int (0 : Int32)), .val (.int (1 : Int32)), .val (.int ((1 : Int32) <<< (i &&& 31))), .val (.int ((1 : Int32) <<< (i &&& 31))), .val (.int (4096 : Int32)), .val (.int (0 : Int32)), .val (.int (1 : Int32))] [])) _
          refine XS.iconst X2.here hx rfl (hb hby at_135) ?_
          show Steps p.tables e below (T2.setTop (mkF m 136 #[.val (.int p0), .val (.int p1), .val (.int p2), .val (.int i), .val (.int (0 : Int32)), .val (.int (1 : Int32)), .val (.int ((1 : Int32) <<< (i &&& 31))), .val (.int ((1 : Int32) <<< (i &&& 31))), .val (.int (4096 : Int32)), .val (.int (0 : Int32)), .val (.int (1 : Int32))] [(.int (1 : Int32))])) _
          refine XS.goto X2.here hx rfl (pc0 := 136) (pc' := 140) rfl (hb hby at_136) (by decide) (by decide) ?_
          exact kt
        exact own_retN X2 Bd.notSynchronized hx (t := .boolean) Bd.returns (by simp) (hb hby at_140) (show Q0 Z p0 p1 p2 h0 n0 _ _ _ from ⟨rfl, N2⟩) (by decide) (by decide)
    · refine own_via (A' := s₁.setTop (mkF m 32 #[.val (.int p0), .val (.int p1), .val (.int p2), .val (.int i), .val (.int (0 : Int32)), .unset, .unset, .unset, .unset, .unset, .unset] [])) (fun target kt => XS.ifYes X0.here hx rfl (pc0 := 25) (pc' := 32) rfl (hb hby at_25) rfl ((if0 _ _).trans (feq hc25).2) (by decide) (by decide) kt) ?_
      refine own_via (A' := s₁.setTop (mkF m 42 #[.val (.int p0), .val (.int p1), .val (.int p2), .val (.int i), .val (.int (0 : Int32)), .val (.int (0 : Int32)), .val (.int ((1 : Int32) <<< (i &&& 31))), .unset, .unset, .unset, .unset] [(.int (0 : Int32))])) (fun target kt => ?_) ?_
      · show Steps p.tables e below (s₁.setTop (mkF m 32 #[.val (.int p0), .val (.int p1), .val (.int p2), .val (.int i), .val (.int (0 : Int32)), .unset, .unset, .unset, .unset, .unset, .unset] [])) _
        refine XS.iconst X0.here hx rfl (hb hby at_32) ?_
        show Steps p.tables e below (s₁.setTop (mkF m 33 #[.val (.int p0), .val (.int p1), .val (.int p2), .val (.int i), .val (.int (0 : Int32)), .unset, .unset, .unset, .unset, .unset, .unset] [(.int (0 : Int32))])) _
        refine XS.istore X0.here hx rfl (hb hby at_33) rfl (l' := #[.val (.int p0), .val (.int p1), .val (.int p2), .val (.int i), .val (.int (0 : Int32)), .val (.int (0 : Int32)), .unset, .unset, .unset, .unset, .unset]) rfl ?_
        show Steps p.tables e below (s₁.setTop (mkF m 35 #[.val (.int p0), .val (.int p1), .val (.int p2), .val (.int i), .val (.int (0 : Int32)), .val (.int (0 : Int32)), .unset, .unset, .unset, .unset, .unset] [])) _
        refine XS.iconst X0.here hx rfl (hb hby at_35) ?_
        show Steps p.tables e below (s₁.setTop (mkF m 36 #[.val (.int p0), .val (.int p1), .val (.int p2), .val (.int i), .val (.int (0 : Int32)), .val (.int (0 : Int32)), .unset, .unset, .unset, .unset, .unset] [(.int (1 : Int32))])) _
        refine XS.iloadN X0.here hx rfl (hb hby at_36) rfl ?_
        show Steps p.tables e below (s₁.setTop (mkF m 37 #[.val (.int p0), .val (.int p1), .val (.int p2), .val (.int i), .val (.int (0 : Int32)), .val (.int (0 : Int32)), .unset, .unset, .unset, .unset, .unset] [(.int i), (.int (1 : Int32))])) _
        refine XS.ishl X0.here hx rfl (hb hby at_37) rfl ?_
        show Steps p.tables e below (s₁.setTop (mkF m 38 #[.val (.int p0), .val (.int p1), .val (.int p2), .val (.int i), .val (.int (0 : Int32)), .val (.int (0 : Int32)), .unset, .unset, .unset, .unset, .unset] [(.int ((1 : Int32) <<< (i &&& 31)))])) _
        refine XS.istore X0.here hx rfl (hb hby at_38) rfl (l' := #[.val (.int p0), .val (.int p1), .val (.int p2), .val (.int i), .val (.int (0 : Int32)), .val (.int (0 : Int32)), .val (.int ((1 : Int32) <<< (i &&& 31))), .unset, .unset, .unset, .unset]) rfl ?_
        show Steps p.tables e below (s₁.setTop (mkF m 40 #[.val (.int p0), .val (.int p1), .val (.int p2), .val (.int i), .val (.int (0 : Int32)), .val (.int (0 : Int32)), .val (.int ((1 : Int32) <<< (i &&& 31))), .unset, .unset, .unset, .unset] [])) _
        refine XS.iload X0.here hx rfl (hb hby at_40) rfl ?_
        exact kt
      refine own_via (A' := s₁.setTop (mkF m 54 #[.val (.int p0), .val (.int p1), .val (.int p2), .val (.int i), .val (.int (0 : Int32)), .val (.int (0 : Int32)), .val (.int ((1 : Int32) <<< (i &&& 31))), .unset, .unset, .unset, .unset] [])) (fun target kt => XS.ifYes X0.here hx rfl (pc0 := 42) (pc' := 54) rfl (hb hby at_42) rfl ((if0 _ _).trans (teq ((by decide) : (0 : Int32) = (0 : Int32))).1) (by decide) (by decide) kt) ?_
      refine own_via (A' := s₁.setTop (mkF m 60 #[.val (.int p0), .val (.int p1), .val (.int p2), .val (.int i), .val (.int (0 : Int32)), .val (.int (0 : Int32)), .val (.int ((1 : Int32) <<< (i &&& 31))), .val (.int ((1 : Int32) <<< (i &&& 31))), .unset, .unset, .unset] [(.int (0 : Int32))])) (fun target kt => ?_) ?_
      · show Steps p.tables e below (s₁.setTop (mkF m 54 #[.val (.int p0), .val (.int p1), .val (.int p2), .val (.int i), .val (.int (0 : Int32)), .val (.int (0 : Int32)), .val (.int ((1 : Int32) <<< (i &&& 31))), .unset, .unset, .unset, .unset] [])) _
        refine XS.iload X0.here hx rfl (hb hby at_54) rfl ?_
        show Steps p.tables e below (s₁.setTop (mkF m 56 #[.val (.int p0), .val (.int p1), .val (.int p2), .val (.int i), .val (.int (0 : Int32)), .val (.int (0 : Int32)), .val (.int ((1 : Int32) <<< (i &&& 31))), .unset, .unset, .unset, .unset] [(.int ((1 : Int32) <<< (i &&& 31)))])) _
        refine XS.istore X0.here hx rfl (hb hby at_56) rfl (l' := #[.val (.int p0), .val (.int p1), .val (.int p2), .val (.int i), .val (.int (0 : Int32)), .val (.int (0 : Int32)), .val (.int ((1 : Int32) <<< (i &&& 31))), .val (.int ((1 : Int32) <<< (i &&& 31))), .unset, .unset, .unset]) rfl ?_
        show Steps p.tables e below (s₁.setTop (mkF m 58 #[.val (.int p0), .val (.int p1), .val (.int p2), .val (.int i), .val (.int (0 : Int32)), .val (.int (0 : Int32)), .val (.int ((1 : Int32) <<< (i &&& 31))), .val (.int ((1 : Int32) <<< (i &&& 31))), .unset, .unset, .unset] [])) _
        refine XS.iload X0.here hx rfl (hb hby at_58) rfl ?_
        exact kt
      refine own_via (A' := s₁.setTop (mkF m 69 #[.val (.int p0), .val (.int p1), .val (.int p2), .val (.int i), .val (.int (0 : Int32)), .val (.int (0 : Int32)), .val (.int ((1 : Int32) <<< (i &&& 31))), .val (.int ((1 : Int32) <<< (i &&& 31))), .unset, .unset, .unset] [])) (fun target kt => XS.ifYes X0.here hx rfl (pc0 := 60) (pc' := 69) rfl (hb hby at_60) rfl ((if0 _ _).trans (teq ((by decide) : (0 : Int32) = (0 : Int32))).1) (by decide) (by decide) kt) ?_
      refine own_via (A' := s₁.setTop (mkF m 83 #[.val (.int p0), .val (.int p1), .val (.int p2), .val (.int i), .val (.int (0 : Int32)), .val (.int (0 : Int32)), .val (.int ((1 : Int32) <<< (i &&& 31))), .val (.int ((1 : Int32) <<< (i &&& 31))), .val (.int (p1 &&& (4095 : Int32))), .unset, .unset] [(.int (1 : Int32)), (.int ((((p1 &&& (4095 : Int32)).toUInt32 >>> (i &&& 31).toUInt32).toInt32) &&& (1 : Int32)))])) (fun target kt => ?_) ?_
      · show Steps p.tables e below (s₁.setTop (mkF m 69 #[.val (.int p0), .val (.int p1), .val (.int p2), .val (.int i), .val (.int (0 : Int32)), .val (.int (0 : Int32)), .val (.int ((1 : Int32) <<< (i &&& 31))), .val (.int ((1 : Int32) <<< (i &&& 31))), .unset, .unset, .unset] [])) _
        refine XS.iloadN X0.here hx rfl (hb hby at_69) rfl ?_
        show Steps p.tables e below (s₁.setTop (mkF m 70 #[.val (.int p0), .val (.int p1), .val (.int p2), .val (.int i), .val (.int (0 : Int32)), .val (.int (0 : Int32)), .val (.int ((1 : Int32) <<< (i &&& 31))), .val (.int ((1 : Int32) <<< (i &&& 31))), .unset, .unset, .unset] [(.int p1)])) _
        refine XS.sipush X0.here hx rfl (hb hby at_70) ?_
        show Steps p.tables e below (s₁.setTop (mkF m 73 #[.val (.int p0), .val (.int p1), .val (.int p2), .val (.int i), .val (.int (0 : Int32)), .val (.int (0 : Int32)), .val (.int ((1 : Int32) <<< (i &&& 31))), .val (.int ((1 : Int32) <<< (i &&& 31))), .unset, .unset, .unset] [(.int (4095 : Int32)), (.int p1)])) _
        refine XS.iand X0.here hx rfl (hb hby at_73) rfl ?_
        show Steps p.tables e below (s₁.setTop (mkF m 74 #[.val (.int p0), .val (.int p1), .val (.int p2), .val (.int i), .val (.int (0 : Int32)), .val (.int (0 : Int32)), .val (.int ((1 : Int32) <<< (i &&& 31))), .val (.int ((1 : Int32) <<< (i &&& 31))), .unset, .unset, .unset] [(.int (p1 &&& (4095 : Int32)))])) _
        refine XS.istore X0.here hx rfl (hb hby at_74) rfl (l' := #[.val (.int p0), .val (.int p1), .val (.int p2), .val (.int i), .val (.int (0 : Int32)), .val (.int (0 : Int32)), .val (.int ((1 : Int32) <<< (i &&& 31))), .val (.int ((1 : Int32) <<< (i &&& 31))), .val (.int (p1 &&& (4095 : Int32))), .unset, .unset]) rfl ?_
        show Steps p.tables e below (s₁.setTop (mkF m 76 #[.val (.int p0), .val (.int p1), .val (.int p2), .val (.int i), .val (.int (0 : Int32)), .val (.int (0 : Int32)), .val (.int ((1 : Int32) <<< (i &&& 31))), .val (.int ((1 : Int32) <<< (i &&& 31))), .val (.int (p1 &&& (4095 : Int32))), .unset, .unset] [])) _
        refine XS.iload X0.here hx rfl (hb hby at_76) rfl ?_
        show Steps p.tables e below (s₁.setTop (mkF m 78 #[.val (.int p0), .val (.int p1), .val (.int p2), .val (.int i), .val (.int (0 : Int32)), .val (.int (0 : Int32)), .val (.int ((1 : Int32) <<< (i &&& 31))), .val (.int ((1 : Int32) <<< (i &&& 31))), .val (.int (p1 &&& (4095 : Int32))), .unset, .unset] [(.int (p1 &&& (4095 : Int32)))])) _
        refine XS.iloadN X0.here hx rfl (hb hby at_78) rfl ?_
        show Steps p.tables e below (s₁.setTop (mkF m 79 #[.val (.int p0), .val (.int p1), .val (.int p2), .val (.int i), .val (.int (0 : Int32)), .val (.int (0 : Int32)), .val (.int ((1 : Int32) <<< (i &&& 31))), .val (.int ((1 : Int32) <<< (i &&& 31))), .val (.int (p1 &&& (4095 : Int32))), .unset, .unset] [(.int i), (.int (p1 &&& (4095 : Int32)))])) _
        refine XS.iushr X0.here hx rfl (hb hby at_79) rfl ?_
        show Steps p.tables e below (s₁.setTop (mkF m 80 #[.val (.int p0), .val (.int p1), .val (.int p2), .val (.int i), .val (.int (0 : Int32)), .val (.int (0 : Int32)), .val (.int ((1 : Int32) <<< (i &&& 31))), .val (.int ((1 : Int32) <<< (i &&& 31))), .val (.int (p1 &&& (4095 : Int32))), .unset, .unset] [(.int (((p1 &&& (4095 : Int32)).toUInt32 >>> (i &&& 31).toUInt32).toInt32))])) _
        refine XS.iconst X0.here hx rfl (hb hby at_80) ?_
        show Steps p.tables e below (s₁.setTop (mkF m 81 #[.val (.int p0), .val (.int p1), .val (.int p2), .val (.int i), .val (.int (0 : Int32)), .val (.int (0 : Int32)), .val (.int ((1 : Int32) <<< (i &&& 31))), .val (.int ((1 : Int32) <<< (i &&& 31))), .val (.int (p1 &&& (4095 : Int32))), .unset, .unset] [(.int (1 : Int32)), (.int (((p1 &&& (4095 : Int32)).toUInt32 >>> (i &&& 31).toUInt32).toInt32))])) _
        refine XS.iand X0.here hx rfl (hb hby at_81) rfl ?_
        show Steps p.tables e below (s₁.setTop (mkF m 82 #[.val (.int p0), .val (.int p1), .val (.int p2), .val (.int i), .val (.int (0 : Int32)), .val (.int (0 : Int32)), .val (.int ((1 : Int32) <<< (i &&& 31))), .val (.int ((1 : Int32) <<< (i &&& 31))), .val (.int (p1 &&& (4095 : Int32))), .unset, .unset] [(.int ((((p1 &&& (4095 : Int32)).toUInt32 >>> (i &&& 31).toUInt32).toInt32) &&& (1 : Int32)))])) _
        refine XS.iconst X0.here hx rfl (hb hby at_82) ?_
        exact kt
      by_cases hc83 : ((((p1 &&& (4095 : Int32)).toUInt32 >>> (i &&& 31).toUInt32).toInt32) &&& (1 : Int32)) = (1 : Int32)
      · refine own_via (A' := s₁.setTop (mkF m 86 #[.val (.int p0), .val (.int p1), .val (.int p2), .val (.int i), .val (.int (0 : Int32)), .val (.int (0 : Int32)), .val (.int ((1 : Int32) <<< (i &&& 31))), .val (.int ((1 : Int32) <<< (i &&& 31))), .val (.int (p1 &&& (4095 : Int32))), .unset, .unset] [])) (fun target kt => XS.icmpNo X0.here hx rfl (hb hby at_83) rfl (teq hc83).2 kt) ?_
        refine own_via (A' := s₁.setTop (mkF m 95 #[.val (.int p0), .val (.int p1), .val (.int p2), .val (.int i), .val (.int (0 : Int32)), .val (.int (0 : Int32)), .val (.int ((1 : Int32) <<< (i &&& 31))), .val (.int ((1 : Int32) <<< (i &&& 31))), .val (.int (p1 &&& (4095 : Int32))), .val (.int (1 : Int32)), .unset] [(.int (0 : Int32))])) (fun target kt => ?_) ?_
        · show Steps p.tables e below (s₁.setTop (mkF m 86 #[.val (.int p0), .val (.int p1), .val (.int p2), .val (.int i), .val (.int (0 : Int32)), .val (.int (0 : Int32)), .val (.int ((1 : Int32) <<< (i &&& 31))), .val (.int ((1 : Int32) <<< (i &&& 31))), .val (.int (p1 &&& (4095 : Int32))), .unset, .unset] [])) _
          refine XS.iconst X0.here hx rfl (hb hby at_86) ?_
          show Steps p.tables e below (s₁.setTop (mkF m 87 #[.val (.int p0), .val (.int p1), .val (.int p2), .val (.int i), .val (.int (0 : Int32)), .val (.int (0 : Int32)), .val (.int ((1 : Int32) <<< (i &&& 31))), .val (.int ((1 : Int32) <<< (i &&& 31))), .val (.int (p1 &&& (4095 : Int32))), .unset, .unset] [(.int (1 : Int32))])) _
          refine XS.goto X0.here hx rfl (pc0 := 87) (pc' := 91) rfl (hb hby at_87) (by decide) (by decide) ?_
          show Steps p.tables e below (s₁.setTop (mkF m 91 #[.val (.int p0), .val (.int p1), .val (.int p2), .val (.int i), .val (.int (0 : Int32)), .val (.int (0 : Int32)), .val (.int ((1 : Int32) <<< (i &&& 31))), .val (.int ((1 : Int32) <<< (i &&& 31))), .val (.int (p1 &&& (4095 : Int32))), .unset, .unset] [(.int (1 : Int32))])) _
          refine XS.istore X0.here hx rfl (hb hby at_91) rfl (l' := #[.val (.int p0), .val (.int p1), .val (.int p2), .val (.int i), .val (.int (0 : Int32)), .val (.int (0 : Int32)), .val (.int ((1 : Int32) <<< (i &&& 31))), .val (.int ((1 : Int32) <<< (i &&& 31))), .val (.int (p1 &&& (4095 : Int32))), .val (.int (1 : Int32)), .unset]) rfl ?_
          show Steps p.tables e below (s₁.setTop (mkF m 93 #[.val (.int p0), .val (.int p1), .val (.int p2), .val (.int i), .val (.int (0 : Int32)), .val (.int (0 : Int32)), .val (.int ((1 : Int32) <<< (i &&& 31))), .val (.int ((1 : Int32) <<< (i &&& 31))), .val (.int (p1 &&& (4095 : Int32))), .val (.int (1 : Int32)), .unset] [])) _
          refine XS.iload X0.here hx rfl (hb hby at_93) rfl ?_
          exact kt
        refine own_via (A' := s₁.setTop (mkF m 98 #[.val (.int p0), .val (.int p1), .val (.int p2), .val (.int i), .val (.int (0 : Int32)), .val (.int (0 : Int32)), .val (.int ((1 : Int32) <<< (i &&& 31))), .val (.int ((1 : Int32) <<< (i &&& 31))), .val (.int (p1 &&& (4095 : Int32))), .val (.int (1 : Int32)), .unset] [])) (fun target kt => XS.ifNo X0.here hx rfl (hb hby at_95) rfl ((if0 _ _).trans (teq ((by decide) : (0 : Int32) = (0 : Int32))).2) kt) ?_
        refine own_via (A' := s₁.setTop (mkF m 100 #[.val (.int p0), .val (.int p1), .val (.int p2), .val (.int i), .val (.int (0 : Int32)), .val (.int (0 : Int32)), .val (.int ((1 : Int32) <<< (i &&& 31))), .val (.int ((1 : Int32) <<< (i &&& 31))), .val (.int (p1 &&& (4095 : Int32))), .val (.int (1 : Int32)), .unset] [(.int (0 : Int32))])) (fun target kt => ?_) ?_
        · show Steps p.tables e below (s₁.setTop (mkF m 98 #[.val (.int p0), .val (.int p1), .val (.int p2), .val (.int i), .val (.int (0 : Int32)), .val (.int (0 : Int32)), .val (.int ((1 : Int32) <<< (i &&& 31))), .val (.int ((1 : Int32) <<< (i &&& 31))), .val (.int (p1 &&& (4095 : Int32))), .val (.int (1 : Int32)), .unset] [])) _
          refine XS.iload X0.here hx rfl (hb hby at_98) rfl ?_
          exact kt
        refine own_via (A' := s₁.setTop (mkF m 111 #[.val (.int p0), .val (.int p1), .val (.int p2), .val (.int i), .val (.int (0 : Int32)), .val (.int (0 : Int32)), .val (.int ((1 : Int32) <<< (i &&& 31))), .val (.int ((1 : Int32) <<< (i &&& 31))), .val (.int (p1 &&& (4095 : Int32))), .val (.int (1 : Int32)), .unset] [])) (fun target kt => XS.ifYes X0.here hx rfl (pc0 := 100) (pc' := 111) rfl (hb hby at_100) rfl ((if0 _ _).trans (teq ((by decide) : (0 : Int32) = (0 : Int32))).1) (by decide) (by decide) kt) ?_
        refine own_via (A' := s₁.setTop (mkF m 113 #[.val (.int p0), .val (.int p1), .val (.int p2), .val (.int i), .val (.int (0 : Int32)), .val (.int (0 : Int32)), .val (.int ((1 : Int32) <<< (i &&& 31))), .val (.int ((1 : Int32) <<< (i &&& 31))), .val (.int (p1 &&& (4095 : Int32))), .val (.int (1 : Int32)), .unset] [(.int (1 : Int32))])) (fun target kt => ?_) ?_
        · show Steps p.tables e below (s₁.setTop (mkF m 111 #[.val (.int p0), .val (.int p1), .val (.int p2), .val (.int i), .val (.int (0 : Int32)), .val (.int (0 : Int32)), .val (.int ((1 : Int32) <<< (i &&& 31))), .val (.int ((1 : Int32) <<< (i &&& 31))), .val (.int (p1 &&& (4095 : Int32))), .val (.int (1 : Int32)), .unset] [])) _
          refine XS.iload X0.here hx rfl (hb hby at_111) rfl ?_
          exact kt
        refine own_via (A' := s₁.setTop (mkF m 116 #[.val (.int p0), .val (.int p1), .val (.int p2), .val (.int i), .val (.int (0 : Int32)), .val (.int (0 : Int32)), .val (.int ((1 : Int32) <<< (i &&& 31))), .val (.int ((1 : Int32) <<< (i &&& 31))), .val (.int (p1 &&& (4095 : Int32))), .val (.int (1 : Int32)), .unset] [])) (fun target kt => XS.ifNo X0.here hx rfl (hb hby at_113) rfl ((if0 _ _).trans (feq ((by decide) : ¬ ((1 : Int32) = (0 : Int32)))).1) kt) ?_
        refine own_via (A' := s₁.setTop (mkF m 127 #[.val (.int p0), .val (.int p1), .val (.int p2), .val (.int i), .val (.int (0 : Int32)), .val (.int (0 : Int32)), .val (.int ((1 : Int32) <<< (i &&& 31))), .val (.int ((1 : Int32) <<< (i &&& 31))), .val (.int (p1 &&& (4095 : Int32))), .val (.int (1 : Int32)), .val (.int (1 : Int32))] [(.int (p1 &&& (4095 : Int32))), (.int ((1 : Int32) <<< (i &&& 31)))])) (fun target kt => ?_) ?_
        · show Steps p.tables e below (s₁.setTop (mkF m 116 #[.val (.int p0), .val (.int p1), .val (.int p2), .val (.int i), .val (.int (0 : Int32)), .val (.int (0 : Int32)), .val (.int ((1 : Int32) <<< (i &&& 31))), .val (.int ((1 : Int32) <<< (i &&& 31))), .val (.int (p1 &&& (4095 : Int32))), .val (.int (1 : Int32)), .unset] [])) _
          refine XS.iconst X0.here hx rfl (hb hby at_116) ?_
          show Steps p.tables e below (s₁.setTop (mkF m 117 #[.val (.int p0), .val (.int p1), .val (.int p2), .val (.int i), .val (.int (0 : Int32)), .val (.int (0 : Int32)), .val (.int ((1 : Int32) <<< (i &&& 31))), .val (.int ((1 : Int32) <<< (i &&& 31))), .val (.int (p1 &&& (4095 : Int32))), .val (.int (1 : Int32)), .unset] [(.int (1 : Int32))])) _
          refine XS.goto X0.here hx rfl (pc0 := 117) (pc' := 121) rfl (hb hby at_117) (by decide) (by decide) ?_
          show Steps p.tables e below (s₁.setTop (mkF m 121 #[.val (.int p0), .val (.int p1), .val (.int p2), .val (.int i), .val (.int (0 : Int32)), .val (.int (0 : Int32)), .val (.int ((1 : Int32) <<< (i &&& 31))), .val (.int ((1 : Int32) <<< (i &&& 31))), .val (.int (p1 &&& (4095 : Int32))), .val (.int (1 : Int32)), .unset] [(.int (1 : Int32))])) _
          refine XS.istore X0.here hx rfl (hb hby at_121) rfl (l' := #[.val (.int p0), .val (.int p1), .val (.int p2), .val (.int i), .val (.int (0 : Int32)), .val (.int (0 : Int32)), .val (.int ((1 : Int32) <<< (i &&& 31))), .val (.int ((1 : Int32) <<< (i &&& 31))), .val (.int (p1 &&& (4095 : Int32))), .val (.int (1 : Int32)), .val (.int (1 : Int32))]) rfl ?_
          show Steps p.tables e below (s₁.setTop (mkF m 123 #[.val (.int p0), .val (.int p1), .val (.int p2), .val (.int i), .val (.int (0 : Int32)), .val (.int (0 : Int32)), .val (.int ((1 : Int32) <<< (i &&& 31))), .val (.int ((1 : Int32) <<< (i &&& 31))), .val (.int (p1 &&& (4095 : Int32))), .val (.int (1 : Int32)), .val (.int (1 : Int32))] [])) _
          refine XS.iload X0.here hx rfl (hb hby at_123) rfl ?_
          show Steps p.tables e below (s₁.setTop (mkF m 125 #[.val (.int p0), .val (.int p1), .val (.int p2), .val (.int i), .val (.int (0 : Int32)), .val (.int (0 : Int32)), .val (.int ((1 : Int32) <<< (i &&& 31))), .val (.int ((1 : Int32) <<< (i &&& 31))), .val (.int (p1 &&& (4095 : Int32))), .val (.int (1 : Int32)), .val (.int (1 : Int32))] [(.int ((1 : Int32) <<< (i &&& 31)))])) _
          refine XS.iload X0.here hx rfl (hb hby at_125) rfl ?_
          exact kt
        obtain ⟨_, _, ⟨T3, L3, k3, n3⟩, -, X3, ⟨Lc3, hQ3, l3, y3, z3⟩, st3⟩ := Jvm.LawKit.callS X0 hx (y := (⟨"holdfast/Context", "holds", "(II)Z"⟩ : MethodName)) hown (mvT hZ (hw _ (List.mem_of_getElem? (i := 1) rfl))) (mvT hZ (hw _ (List.mem_of_getElem? (i := 2) rfl))) (mvT hZ (hw _ (List.mem_of_getElem? (i := 3) rfl))) (mvT hZ (hw _ (List.mem_of_getElem? (i := 4) rfl))) (by decide) (backOf (W := 0) (rm1 l Z a0 hw [] ((1 : Int32) <<< (i &&& 31)) (p1 &&& (4095 : Int32))  h0 n0 Z0 ) hZ (hw _ (List.mem_of_getElem? (i := 4) rfl)) (hw _ (List.mem_of_getElem? (i := 3) rfl)) (by decide) (by decide)) (g := (mkF m 127 #[.val (.int p0), .val (.int p1), .val (.int p2), .val (.int i), .val (.int (0 : Int32)), .val (.int (0 : Int32)), .val (.int ((1 : Int32) <<< (i &&& 31))), .val (.int ((1 : Int32) <<< (i &&& 31))), .val (.int (p1 &&& (4095 : Int32))), .val (.int (1 : Int32)), .val (.int (1 : Int32))] [(.int (p1 &&& (4095 : Int32))), (.int ((1 : Int32) <<< (i &&& 31)))])) rfl (by rw [hml]; rfl) (argsL := [(.int ((1 : Int32) <<< (i &&& 31))), (.int (p1 &&& (4095 : Int32)))]) (rest := []) (lenOf pd_0_0 rfl) rfl (by show 2 * 0 + _ ≤ _; exact Nat.le_of_eq rfl) (hb hby at_127) (fun _ _ => ⟨rfl, e0, (by decide : 0 + 0 ≤ _), (by decide : 0 + 0 ≤ _)⟩)
        dsimp only [Pt.U, Pt.locs, Pt.cells, Pt.slots] at X3 l3 y3 z3 st3 hQ3
        subst l3 y3 z3
        obtain ⟨rfl, N3q, e3⟩ := hQ3
        have N3 := Fr.app N0 N3q
        refine own_via (A' := T3.setTop (mkF m 130 #[.val (.int p0), .val (.int p1), .val (.int p2), .val (.int i), .val (.int (0 : Int32)), .val (.int (0 : Int32)), .val (.int ((1 : Int32) <<< (i &&& 31))), .val (.int ((1 : Int32) <<< (i &&& 31))), .val (.int (p1 &&& (4095 : Int32))), .val (.int (1 : Int32)), .val (.int (1 : Int32))] [(.int (own_holds ((1 : Int32) <<< (i &&& 31)) (p1 &&& (4095 : Int32))))])) st3 ?_
        refine own_via (A' := T3.setTop (mkF m 132 #[.val (.int p0), .val (.int p1), .val (.int p2), .val (.int i), .val (.int (0 : Int32)), .val (.int (0 : Int32)), .val (.int ((1 : Int32) <<< (i &&& 31))), .val (.int ((1 : Int32) <<< (i &&& 31))), .val (.int (p1 &&& (4095 : Int32))), .val (.int (1 : Int32)), .val (.int (1 : Int32))] [(.int (1 : Int32)), (.int (own_holds ((1 : Int32) <<< (i &&& 31)) (p1 &&& (4095 : Int32))))])) (fun target kt => ?_) ?_
        · show Steps p.tables e below (T3.setTop (mkF m 130 #[.val (.int p0), .val (.int p1), .val (.int p2), .val (.int i), .val (.int (0 : Int32)), .val (.int (0 : Int32)), .val (.int ((1 : Int32) <<< (i &&& 31))), .val (.int ((1 : Int32) <<< (i &&& 31))), .val (.int (p1 &&& (4095 : Int32))), .val (.int (1 : Int32)), .val (.int (1 : Int32))] [(.int (own_holds ((1 : Int32) <<< (i &&& 31)) (p1 &&& (4095 : Int32))))])) _
          refine XS.iload X3.here hx rfl (hb hby at_130) rfl ?_
          exact kt
        refine own_via (A' := T3.setTop (mkF m 135 #[.val (.int p0), .val (.int p1), .val (.int p2), .val (.int i), .val (.int (0 : Int32)), .val (.int (0 : Int32)), .val (.int ((1 : Int32) <<< (i &&& 31))), .val (.int ((1 : Int32) <<< (i &&& 31))), .val (.int (p1 &&& (4095 : Int32))), .val (.int (1 : Int32)), .val (.int (1 : Int32))] [])) (fun target kt => XS.icmpNo X3.here hx rfl (hb hby at_132) rfl (teq ((own_pos hi own_x).trans (if_pos hc83) : (own_holds ((1 : Int32) <<< (i &&& 31)) (p1 &&& (4095 : Int32))) = (1 : Int32))).2 kt) ?_
        refine own_via (A' := T3.setTop (mkF m 140 #[.val (.int p0), .val (.int p1), .val (.int p2), .val (.int i), .val (.int (0 : Int32)), .val (.int (0 : Int32)), .val (.int ((1 : Int32) <<< (i &&& 31))), .val (.int ((1 : Int32) <<< (i &&& 31))), .val (.int (p1 &&& (4095 : Int32))), .val (.int (1 : Int32)), .val (.int (1 : Int32))] [(.int (1 : Int32))])) (fun target kt => ?_) ?_
        · show Steps p.tables e below (T3.setTop (mkF m 135 #[.val (.int p0), .val (.int p1), .val (.int p2), .val (.int i), .val (.int (0 : Int32)), .val (.int (0 : Int32)), .val (.int ((1 : Int32) <<< (i &&& 31))), .val (.int ((1 : Int32) <<< (i &&& 31))), .val (.int (p1 &&& (4095 : Int32))), .val (.int (1 : Int32)), .val (.int (1 : Int32))] [])) _
          refine XS.iconst X3.here hx rfl (hb hby at_135) ?_
          show Steps p.tables e below (T3.setTop (mkF m 136 #[.val (.int p0), .val (.int p1), .val (.int p2), .val (.int i), .val (.int (0 : Int32)), .val (.int (0 : Int32)), .val (.int ((1 : Int32) <<< (i &&& 31))), .val (.int ((1 : Int32) <<< (i &&& 31))), .val (.int (p1 &&& (4095 : Int32))), .val (.int (1 : Int32)), .val (.int (1 : Int32))] [(.int (1 : Int32))])) _
          refine XS.goto X3.here hx rfl (pc0 := 136) (pc' := 140) rfl (hb hby at_136) (by decide) (by decide) ?_
          exact kt
        exact own_retN X3 Bd.notSynchronized hx (t := .boolean) Bd.returns (by simp) (hb hby at_140) (show Q0 Z p0 p1 p2 h0 n0 _ _ _ from ⟨rfl, N3⟩) (by decide) (by decide)
      · refine own_via (A' := s₁.setTop (mkF m 90 #[.val (.int p0), .val (.int p1), .val (.int p2), .val (.int i), .val (.int (0 : Int32)), .val (.int (0 : Int32)), .val (.int ((1 : Int32) <<< (i &&& 31))), .val (.int ((1 : Int32) <<< (i &&& 31))), .val (.int (p1 &&& (4095 : Int32))), .unset, .unset] [])) (fun target kt => XS.icmpYes X0.here hx rfl (pc0 := 83) (pc' := 90) rfl (hb hby at_83) rfl (feq hc83).2 (by decide) (by decide) kt) ?_
        refine own_via (A' := s₁.setTop (mkF m 95 #[.val (.int p0), .val (.int p1), .val (.int p2), .val (.int i), .val (.int (0 : Int32)), .val (.int (0 : Int32)), .val (.int ((1 : Int32) <<< (i &&& 31))), .val (.int ((1 : Int32) <<< (i &&& 31))), .val (.int (p1 &&& (4095 : Int32))), .val (.int (0 : Int32)), .unset] [(.int (0 : Int32))])) (fun target kt => ?_) ?_
        · show Steps p.tables e below (s₁.setTop (mkF m 90 #[.val (.int p0), .val (.int p1), .val (.int p2), .val (.int i), .val (.int (0 : Int32)), .val (.int (0 : Int32)), .val (.int ((1 : Int32) <<< (i &&& 31))), .val (.int ((1 : Int32) <<< (i &&& 31))), .val (.int (p1 &&& (4095 : Int32))), .unset, .unset] [])) _
          refine XS.iconst X0.here hx rfl (hb hby at_90) ?_
          show Steps p.tables e below (s₁.setTop (mkF m 91 #[.val (.int p0), .val (.int p1), .val (.int p2), .val (.int i), .val (.int (0 : Int32)), .val (.int (0 : Int32)), .val (.int ((1 : Int32) <<< (i &&& 31))), .val (.int ((1 : Int32) <<< (i &&& 31))), .val (.int (p1 &&& (4095 : Int32))), .unset, .unset] [(.int (0 : Int32))])) _
          refine XS.istore X0.here hx rfl (hb hby at_91) rfl (l' := #[.val (.int p0), .val (.int p1), .val (.int p2), .val (.int i), .val (.int (0 : Int32)), .val (.int (0 : Int32)), .val (.int ((1 : Int32) <<< (i &&& 31))), .val (.int ((1 : Int32) <<< (i &&& 31))), .val (.int (p1 &&& (4095 : Int32))), .val (.int (0 : Int32)), .unset]) rfl ?_
          show Steps p.tables e below (s₁.setTop (mkF m 93 #[.val (.int p0), .val (.int p1), .val (.int p2), .val (.int i), .val (.int (0 : Int32)), .val (.int (0 : Int32)), .val (.int ((1 : Int32) <<< (i &&& 31))), .val (.int ((1 : Int32) <<< (i &&& 31))), .val (.int (p1 &&& (4095 : Int32))), .val (.int (0 : Int32)), .unset] [])) _
          refine XS.iload X0.here hx rfl (hb hby at_93) rfl ?_
          exact kt
        refine own_via (A' := s₁.setTop (mkF m 98 #[.val (.int p0), .val (.int p1), .val (.int p2), .val (.int i), .val (.int (0 : Int32)), .val (.int (0 : Int32)), .val (.int ((1 : Int32) <<< (i &&& 31))), .val (.int ((1 : Int32) <<< (i &&& 31))), .val (.int (p1 &&& (4095 : Int32))), .val (.int (0 : Int32)), .unset] [])) (fun target kt => XS.ifNo X0.here hx rfl (hb hby at_95) rfl ((if0 _ _).trans (teq ((by decide) : (0 : Int32) = (0 : Int32))).2) kt) ?_
        refine own_via (A' := s₁.setTop (mkF m 100 #[.val (.int p0), .val (.int p1), .val (.int p2), .val (.int i), .val (.int (0 : Int32)), .val (.int (0 : Int32)), .val (.int ((1 : Int32) <<< (i &&& 31))), .val (.int ((1 : Int32) <<< (i &&& 31))), .val (.int (p1 &&& (4095 : Int32))), .val (.int (0 : Int32)), .unset] [(.int (0 : Int32))])) (fun target kt => ?_) ?_
        · show Steps p.tables e below (s₁.setTop (mkF m 98 #[.val (.int p0), .val (.int p1), .val (.int p2), .val (.int i), .val (.int (0 : Int32)), .val (.int (0 : Int32)), .val (.int ((1 : Int32) <<< (i &&& 31))), .val (.int ((1 : Int32) <<< (i &&& 31))), .val (.int (p1 &&& (4095 : Int32))), .val (.int (0 : Int32)), .unset] [])) _
          refine XS.iload X0.here hx rfl (hb hby at_98) rfl ?_
          exact kt
        refine own_via (A' := s₁.setTop (mkF m 111 #[.val (.int p0), .val (.int p1), .val (.int p2), .val (.int i), .val (.int (0 : Int32)), .val (.int (0 : Int32)), .val (.int ((1 : Int32) <<< (i &&& 31))), .val (.int ((1 : Int32) <<< (i &&& 31))), .val (.int (p1 &&& (4095 : Int32))), .val (.int (0 : Int32)), .unset] [])) (fun target kt => XS.ifYes X0.here hx rfl (pc0 := 100) (pc' := 111) rfl (hb hby at_100) rfl ((if0 _ _).trans (teq ((by decide) : (0 : Int32) = (0 : Int32))).1) (by decide) (by decide) kt) ?_
        refine own_via (A' := s₁.setTop (mkF m 113 #[.val (.int p0), .val (.int p1), .val (.int p2), .val (.int i), .val (.int (0 : Int32)), .val (.int (0 : Int32)), .val (.int ((1 : Int32) <<< (i &&& 31))), .val (.int ((1 : Int32) <<< (i &&& 31))), .val (.int (p1 &&& (4095 : Int32))), .val (.int (0 : Int32)), .unset] [(.int (0 : Int32))])) (fun target kt => ?_) ?_
        · show Steps p.tables e below (s₁.setTop (mkF m 111 #[.val (.int p0), .val (.int p1), .val (.int p2), .val (.int i), .val (.int (0 : Int32)), .val (.int (0 : Int32)), .val (.int ((1 : Int32) <<< (i &&& 31))), .val (.int ((1 : Int32) <<< (i &&& 31))), .val (.int (p1 &&& (4095 : Int32))), .val (.int (0 : Int32)), .unset] [])) _
          refine XS.iload X0.here hx rfl (hb hby at_111) rfl ?_
          exact kt
        refine own_via (A' := s₁.setTop (mkF m 120 #[.val (.int p0), .val (.int p1), .val (.int p2), .val (.int i), .val (.int (0 : Int32)), .val (.int (0 : Int32)), .val (.int ((1 : Int32) <<< (i &&& 31))), .val (.int ((1 : Int32) <<< (i &&& 31))), .val (.int (p1 &&& (4095 : Int32))), .val (.int (0 : Int32)), .unset] [])) (fun target kt => XS.ifYes X0.here hx rfl (pc0 := 113) (pc' := 120) rfl (hb hby at_113) rfl ((if0 _ _).trans (teq ((by decide) : (0 : Int32) = (0 : Int32))).1) (by decide) (by decide) kt) ?_
        refine own_via (A' := s₁.setTop (mkF m 127 #[.val (.int p0), .val (.int p1), .val (.int p2), .val (.int i), .val (.int (0 : Int32)), .val (.int (0 : Int32)), .val (.int ((1 : Int32) <<< (i &&& 31))), .val (.int ((1 : Int32) <<< (i &&& 31))), .val (.int (p1 &&& (4095 : Int32))), .val (.int (0 : Int32)), .val (.int (0 : Int32))] [(.int (p1 &&& (4095 : Int32))), (.int ((1 : Int32) <<< (i &&& 31)))])) (fun target kt => ?_) ?_
        · show Steps p.tables e below (s₁.setTop (mkF m 120 #[.val (.int p0), .val (.int p1), .val (.int p2), .val (.int i), .val (.int (0 : Int32)), .val (.int (0 : Int32)), .val (.int ((1 : Int32) <<< (i &&& 31))), .val (.int ((1 : Int32) <<< (i &&& 31))), .val (.int (p1 &&& (4095 : Int32))), .val (.int (0 : Int32)), .unset] [])) _
          refine XS.iconst X0.here hx rfl (hb hby at_120) ?_
          show Steps p.tables e below (s₁.setTop (mkF m 121 #[.val (.int p0), .val (.int p1), .val (.int p2), .val (.int i), .val (.int (0 : Int32)), .val (.int (0 : Int32)), .val (.int ((1 : Int32) <<< (i &&& 31))), .val (.int ((1 : Int32) <<< (i &&& 31))), .val (.int (p1 &&& (4095 : Int32))), .val (.int (0 : Int32)), .unset] [(.int (0 : Int32))])) _
          refine XS.istore X0.here hx rfl (hb hby at_121) rfl (l' := #[.val (.int p0), .val (.int p1), .val (.int p2), .val (.int i), .val (.int (0 : Int32)), .val (.int (0 : Int32)), .val (.int ((1 : Int32) <<< (i &&& 31))), .val (.int ((1 : Int32) <<< (i &&& 31))), .val (.int (p1 &&& (4095 : Int32))), .val (.int (0 : Int32)), .val (.int (0 : Int32))]) rfl ?_
          show Steps p.tables e below (s₁.setTop (mkF m 123 #[.val (.int p0), .val (.int p1), .val (.int p2), .val (.int i), .val (.int (0 : Int32)), .val (.int (0 : Int32)), .val (.int ((1 : Int32) <<< (i &&& 31))), .val (.int ((1 : Int32) <<< (i &&& 31))), .val (.int (p1 &&& (4095 : Int32))), .val (.int (0 : Int32)), .val (.int (0 : Int32))] [])) _
          refine XS.iload X0.here hx rfl (hb hby at_123) rfl ?_
          show Steps p.tables e below (s₁.setTop (mkF m 125 #[.val (.int p0), .val (.int p1), .val (.int p2), .val (.int i), .val (.int (0 : Int32)), .val (.int (0 : Int32)), .val (.int ((1 : Int32) <<< (i &&& 31))), .val (.int ((1 : Int32) <<< (i &&& 31))), .val (.int (p1 &&& (4095 : Int32))), .val (.int (0 : Int32)), .val (.int (0 : Int32))] [(.int ((1 : Int32) <<< (i &&& 31)))])) _
          refine XS.iload X0.here hx rfl (hb hby at_125) rfl ?_
          exact kt
        obtain ⟨_, _, ⟨T4, L4, k4, n4⟩, -, X4, ⟨Lc4, hQ4, l4, y4, z4⟩, st4⟩ := Jvm.LawKit.callS X0 hx (y := (⟨"holdfast/Context", "holds", "(II)Z"⟩ : MethodName)) hown (mvT hZ (hw _ (List.mem_of_getElem? (i := 1) rfl))) (mvT hZ (hw _ (List.mem_of_getElem? (i := 2) rfl))) (mvT hZ (hw _ (List.mem_of_getElem? (i := 3) rfl))) (mvT hZ (hw _ (List.mem_of_getElem? (i := 4) rfl))) (by decide) (backOf (W := 0) (rm1 l Z a0 hw [] ((1 : Int32) <<< (i &&& 31)) (p1 &&& (4095 : Int32))  h0 n0 Z0 ) hZ (hw _ (List.mem_of_getElem? (i := 4) rfl)) (hw _ (List.mem_of_getElem? (i := 3) rfl)) (by decide) (by decide)) (g := (mkF m 127 #[.val (.int p0), .val (.int p1), .val (.int p2), .val (.int i), .val (.int (0 : Int32)), .val (.int (0 : Int32)), .val (.int ((1 : Int32) <<< (i &&& 31))), .val (.int ((1 : Int32) <<< (i &&& 31))), .val (.int (p1 &&& (4095 : Int32))), .val (.int (0 : Int32)), .val (.int (0 : Int32))] [(.int (p1 &&& (4095 : Int32))), (.int ((1 : Int32) <<< (i &&& 31)))])) rfl (by rw [hml]; rfl) (argsL := [(.int ((1 : Int32) <<< (i &&& 31))), (.int (p1 &&& (4095 : Int32)))]) (rest := []) (lenOf pd_0_0 rfl) rfl (by show 2 * 0 + _ ≤ _; exact Nat.le_of_eq rfl) (hb hby at_127) (fun _ _ => ⟨rfl, e0, (by decide : 0 + 0 ≤ _), (by decide : 0 + 0 ≤ _)⟩)
        dsimp only [Pt.U, Pt.locs, Pt.cells, Pt.slots] at X4 l4 y4 z4 st4 hQ4
        subst l4 y4 z4
        obtain ⟨rfl, N4q, e4⟩ := hQ4
        have N4 := Fr.app N0 N4q
        refine own_via (A' := T4.setTop (mkF m 130 #[.val (.int p0), .val (.int p1), .val (.int p2), .val (.int i), .val (.int (0 : Int32)), .val (.int (0 : Int32)), .val (.int ((1 : Int32) <<< (i &&& 31))), .val (.int ((1 : Int32) <<< (i &&& 31))), .val (.int (p1 &&& (4095 : Int32))), .val (.int (0 : Int32)), .val (.int (0 : Int32))] [(.int (own_holds ((1 : Int32) <<< (i &&& 31)) (p1 &&& (4095 : Int32))))])) st4 ?_
        refine own_via (A' := T4.setTop (mkF m 132 #[.val (.int p0), .val (.int p1), .val (.int p2), .val (.int i), .val (.int (0 : Int32)), .val (.int (0 : Int32)), .val (.int ((1 : Int32) <<< (i &&& 31))), .val (.int ((1 : Int32) <<< (i &&& 31))), .val (.int (p1 &&& (4095 : Int32))), .val (.int (0 : Int32)), .val (.int (0 : Int32))] [(.int (0 : Int32)), (.int (own_holds ((1 : Int32) <<< (i &&& 31)) (p1 &&& (4095 : Int32))))])) (fun target kt => ?_) ?_
        · show Steps p.tables e below (T4.setTop (mkF m 130 #[.val (.int p0), .val (.int p1), .val (.int p2), .val (.int i), .val (.int (0 : Int32)), .val (.int (0 : Int32)), .val (.int ((1 : Int32) <<< (i &&& 31))), .val (.int ((1 : Int32) <<< (i &&& 31))), .val (.int (p1 &&& (4095 : Int32))), .val (.int (0 : Int32)), .val (.int (0 : Int32))] [(.int (own_holds ((1 : Int32) <<< (i &&& 31)) (p1 &&& (4095 : Int32))))])) _
          refine XS.iload X4.here hx rfl (hb hby at_130) rfl ?_
          exact kt
        refine own_via (A' := T4.setTop (mkF m 135 #[.val (.int p0), .val (.int p1), .val (.int p2), .val (.int i), .val (.int (0 : Int32)), .val (.int (0 : Int32)), .val (.int ((1 : Int32) <<< (i &&& 31))), .val (.int ((1 : Int32) <<< (i &&& 31))), .val (.int (p1 &&& (4095 : Int32))), .val (.int (0 : Int32)), .val (.int (0 : Int32))] [])) (fun target kt => XS.icmpNo X4.here hx rfl (hb hby at_132) rfl (teq ((own_pos hi own_x).trans (if_neg hc83) : (own_holds ((1 : Int32) <<< (i &&& 31)) (p1 &&& (4095 : Int32))) = (0 : Int32))).2 kt) ?_
        refine own_via (A' := T4.setTop (mkF m 140 #[.val (.int p0), .val (.int p1), .val (.int p2), .val (.int i), .val (.int (0 : Int32)), .val (.int (0 : Int32)), .val (.int ((1 : Int32) <<< (i &&& 31))), .val (.int ((1 : Int32) <<< (i &&& 31))), .val (.int (p1 &&& (4095 : Int32))), .val (.int (0 : Int32)), .val (.int (0 : Int32))] [(.int (1 : Int32))])) (fun target kt => ?_) ?_
        · show Steps p.tables e below (T4.setTop (mkF m 135 #[.val (.int p0), .val (.int p1), .val (.int p2), .val (.int i), .val (.int (0 : Int32)), .val (.int (0 : Int32)), .val (.int ((1 : Int32) <<< (i &&& 31))), .val (.int ((1 : Int32) <<< (i &&& 31))), .val (.int (p1 &&& (4095 : Int32))), .val (.int (0 : Int32)), .val (.int (0 : Int32))] [])) _
          refine XS.iconst X4.here hx rfl (hb hby at_135) ?_
          show Steps p.tables e below (T4.setTop (mkF m 136 #[.val (.int p0), .val (.int p1), .val (.int p2), .val (.int i), .val (.int (0 : Int32)), .val (.int (0 : Int32)), .val (.int ((1 : Int32) <<< (i &&& 31))), .val (.int ((1 : Int32) <<< (i &&& 31))), .val (.int (p1 &&& (4095 : Int32))), .val (.int (0 : Int32)), .val (.int (0 : Int32))] [(.int (1 : Int32))])) _
          refine XS.goto X4.here hx rfl (pc0 := 136) (pc' := 140) rfl (hb hby at_136) (by decide) (by decide) ?_
          exact kt
        exact own_retN X4 Bd.notSynchronized hx (t := .boolean) Bd.returns (by simp) (hb hby at_140) (show Q0 Z p0 p1 p2 h0 n0 _ _ _ from ⟨rfl, N4⟩) (by decide) (by decide)
  · refine own_via (A' := s₁.setTop (mkF m 14 #[.val (.int p0), .val (.int p1), .val (.int p2), .val (.int i), .unset, .unset, .unset, .unset, .unset, .unset, .unset] [])) (fun target kt => XS.ifNo X0.here hx rfl (hb hby at_11) rfl ((if0 _ _).trans (feq hc11).1) kt) ?_
    refine own_via (A' := s₁.setTop (mkF m 25 #[.val (.int p0), .val (.int p1), .val (.int p2), .val (.int i), .val (.int (1 : Int32)), .unset, .unset, .unset, .unset, .unset, .unset] [(.int (p2 &&& (6 : Int32)))])) (fun target kt => ?_) ?_
    · show Steps p.tables e below (s₁.setTop (mkF m 14 #[.val (.int p0), .val (.int p1), .val (.int p2), .val (.int i), .unset, .unset, .unset, .unset, .unset, .unset, .unset] [])) _
      refine XS.iconst X0.here hx rfl (hb hby at_14) ?_
      show Steps p.tables e below (s₁.setTop (mkF m 15 #[.val (.int p0), .val (.int p1), .val (.int p2), .val (.int i), .unset, .unset, .unset, .unset, .unset, .unset, .unset] [(.int (1 : Int32))])) _
      refine XS.goto X0.here hx rfl (pc0 := 15) (pc' := 19) rfl (hb hby at_15) (by decide) (by decide) ?_
      show Steps p.tables e below (s₁.setTop (mkF m 19 #[.val (.int p0), .val (.int p1), .val (.int p2), .val (.int i), .unset, .unset, .unset, .unset, .unset, .unset, .unset] [(.int (1 : Int32))])) _
      refine XS.istore X0.here hx rfl (hb hby at_19) rfl (l' := #[.val (.int p0), .val (.int p1), .val (.int p2), .val (.int i), .val (.int (1 : Int32)), .unset, .unset, .unset, .unset, .unset, .unset]) rfl ?_
      show Steps p.tables e below (s₁.setTop (mkF m 21 #[.val (.int p0), .val (.int p1), .val (.int p2), .val (.int i), .val (.int (1 : Int32)), .unset, .unset, .unset, .unset, .unset, .unset] [])) _
      refine XS.iloadN X0.here hx rfl (hb hby at_21) rfl ?_
      show Steps p.tables e below (s₁.setTop (mkF m 22 #[.val (.int p0), .val (.int p1), .val (.int p2), .val (.int i), .val (.int (1 : Int32)), .unset, .unset, .unset, .unset, .unset, .unset] [(.int p2)])) _
      refine XS.bipush X0.here hx rfl (hb hby at_22) ?_
      show Steps p.tables e below (s₁.setTop (mkF m 24 #[.val (.int p0), .val (.int p1), .val (.int p2), .val (.int i), .val (.int (1 : Int32)), .unset, .unset, .unset, .unset, .unset, .unset] [(.int (6 : Int32)), (.int p2)])) _
      refine XS.iand X0.here hx rfl (hb hby at_24) rfl ?_
      exact kt
    by_cases hc25 : (p2 &&& (6 : Int32)) = (0 : Int32)
    · refine own_via (A' := s₁.setTop (mkF m 28 #[.val (.int p0), .val (.int p1), .val (.int p2), .val (.int i), .val (.int (1 : Int32)), .unset, .unset, .unset, .unset, .unset, .unset] [])) (fun target kt => XS.ifNo X0.here hx rfl (hb hby at_25) rfl ((if0 _ _).trans (teq hc25).2) kt) ?_
      refine own_via (A' := s₁.setTop (mkF m 42 #[.val (.int p0), .val (.int p1), .val (.int p2), .val (.int i), .val (.int (1 : Int32)), .val (.int (1 : Int32)), .val (.int ((1 : Int32) <<< (i &&& 31))), .unset, .unset, .unset, .unset] [(.int (1 : Int32))])) (fun target kt => ?_) ?_
      · show Steps p.tables e below (s₁.setTop (mkF m 28 #[.val (.int p0), .val (.int p1), .val (.int p2), .val (.int i), .val (.int (1 : Int32)), .unset, .unset, .unset, .unset, .unset, .unset] [])) _
        refine XS.iconst X0.here hx rfl (hb hby at_28) ?_
        show Steps p.tables e below (s₁.setTop (mkF m 29 #[.val (.int p0), .val (.int p1), .val (.int p2), .val (.int i), .val (.int (1 : Int32)), .unset, .unset, .unset, .unset, .unset, .unset] [(.int (1 : Int32))])) _
        refine XS.goto X0.here hx rfl (pc0 := 29) (pc' := 33) rfl (hb hby at_29) (by decide) (by decide) ?_
        show Steps p.tables e below (s₁.setTop (mkF m 33 #[.val (.int p0), .val (.int p1), .val (.int p2), .val (.int i), .val (.int (1 : Int32)), .unset, .unset, .unset, .unset, .unset, .unset] [(.int (1 : Int32))])) _
        refine XS.istore X0.here hx rfl (hb hby at_33) rfl (l' := #[.val (.int p0), .val (.int p1), .val (.int p2), .val (.int i), .val (.int (1 : Int32)), .val (.int (1 : Int32)), .unset, .unset, .unset, .unset, .unset]) rfl ?_
        show Steps p.tables e below (s₁.setTop (mkF m 35 #[.val (.int p0), .val (.int p1), .val (.int p2), .val (.int i), .val (.int (1 : Int32)), .val (.int (1 : Int32)), .unset, .unset, .unset, .unset, .unset] [])) _
        refine XS.iconst X0.here hx rfl (hb hby at_35) ?_
        show Steps p.tables e below (s₁.setTop (mkF m 36 #[.val (.int p0), .val (.int p1), .val (.int p2), .val (.int i), .val (.int (1 : Int32)), .val (.int (1 : Int32)), .unset, .unset, .unset, .unset, .unset] [(.int (1 : Int32))])) _
        refine XS.iloadN X0.here hx rfl (hb hby at_36) rfl ?_
        show Steps p.tables e below (s₁.setTop (mkF m 37 #[.val (.int p0), .val (.int p1), .val (.int p2), .val (.int i), .val (.int (1 : Int32)), .val (.int (1 : Int32)), .unset, .unset, .unset, .unset, .unset] [(.int i), (.int (1 : Int32))])) _
        refine XS.ishl X0.here hx rfl (hb hby at_37) rfl ?_
        show Steps p.tables e below (s₁.setTop (mkF m 38 #[.val (.int p0), .val (.int p1), .val (.int p2), .val (.int i), .val (.int (1 : Int32)), .val (.int (1 : Int32)), .unset, .unset, .unset, .unset, .unset] [(.int ((1 : Int32) <<< (i &&& 31)))])) _
        refine XS.istore X0.here hx rfl (hb hby at_38) rfl (l' := #[.val (.int p0), .val (.int p1), .val (.int p2), .val (.int i), .val (.int (1 : Int32)), .val (.int (1 : Int32)), .val (.int ((1 : Int32) <<< (i &&& 31))), .unset, .unset, .unset, .unset]) rfl ?_
        show Steps p.tables e below (s₁.setTop (mkF m 40 #[.val (.int p0), .val (.int p1), .val (.int p2), .val (.int i), .val (.int (1 : Int32)), .val (.int (1 : Int32)), .val (.int ((1 : Int32) <<< (i &&& 31))), .unset, .unset, .unset, .unset] [])) _
        refine XS.iload X0.here hx rfl (hb hby at_40) rfl ?_
        exact kt
      refine own_via (A' := s₁.setTop (mkF m 45 #[.val (.int p0), .val (.int p1), .val (.int p2), .val (.int i), .val (.int (1 : Int32)), .val (.int (1 : Int32)), .val (.int ((1 : Int32) <<< (i &&& 31))), .unset, .unset, .unset, .unset] [])) (fun target kt => XS.ifNo X0.here hx rfl (hb hby at_42) rfl ((if0 _ _).trans (feq ((by decide) : ¬ ((1 : Int32) = (0 : Int32)))).1) kt) ?_
      refine own_via (A' := s₁.setTop (mkF m 60 #[.val (.int p0), .val (.int p1), .val (.int p2), .val (.int i), .val (.int (1 : Int32)), .val (.int (1 : Int32)), .val (.int ((1 : Int32) <<< (i &&& 31))), .val (.int (((1 : Int32) <<< (i &&& 31)) ||| (8192 : Int32))), .unset, .unset, .unset] [(.int (1 : Int32))])) (fun target kt => ?_) ?_
      · show Steps p.tables e below (s₁.setTop (mkF m 45 #[.val (.int p0), .val (.int p1), .val (.int p2), .val (.int i), .val (.int (1 : Int32)), .val (.int (1 : Int32)), .val (.int ((1 : Int32) <<< (i &&& 31))), .unset, .unset, .unset, .unset] [])) _
        refine XS.iload X0.here hx rfl (hb hby at_45) rfl ?_
        show Steps p.tables e below (s₁.setTop (mkF m 47 #[.val (.int p0), .val (.int p1), .val (.int p2), .val (.int i), .val (.int (1 : Int32)), .val (.int (1 : Int32)), .val (.int ((1 : Int32) <<< (i &&& 31))), .unset, .unset, .unset, .unset] [(.int ((1 : Int32) <<< (i &&& 31)))])) _
        refine XS.sipush X0.here hx rfl (hb hby at_47) ?_
        show Steps p.tables e below (s₁.setTop (mkF m 50 #[.val (.int p0), .val (.int p1), .val (.int p2), .val (.int i), .val (.int (1 : Int32)), .val (.int (1 : Int32)), .val (.int ((1 : Int32) <<< (i &&& 31))), .unset, .unset, .unset, .unset] [(.int (8192 : Int32)), (.int ((1 : Int32) <<< (i &&& 31)))])) _
        refine XS.ior X0.here hx rfl (hb hby at_50) rfl ?_
        show Steps p.tables e below (s₁.setTop (mkF m 51 #[.val (.int p0), .val (.int p1), .val (.int p2), .val (.int i), .val (.int (1 : Int32)), .val (.int (1 : Int32)), .val (.int ((1 : Int32) <<< (i &&& 31))), .unset, .unset, .unset, .unset] [(.int (((1 : Int32) <<< (i &&& 31)) ||| (8192 : Int32)))])) _
        refine XS.goto X0.here hx rfl (pc0 := 51) (pc' := 56) rfl (hb hby at_51) (by decide) (by decide) ?_
        show Steps p.tables e below (s₁.setTop (mkF m 56 #[.val (.int p0), .val (.int p1), .val (.int p2), .val (.int i), .val (.int (1 : Int32)), .val (.int (1 : Int32)), .val (.int ((1 : Int32) <<< (i &&& 31))), .unset, .unset, .unset, .unset] [(.int (((1 : Int32) <<< (i &&& 31)) ||| (8192 : Int32)))])) _
        refine XS.istore X0.here hx rfl (hb hby at_56) rfl (l' := #[.val (.int p0), .val (.int p1), .val (.int p2), .val (.int i), .val (.int (1 : Int32)), .val (.int (1 : Int32)), .val (.int ((1 : Int32) <<< (i &&& 31))), .val (.int (((1 : Int32) <<< (i &&& 31)) ||| (8192 : Int32))), .unset, .unset, .unset]) rfl ?_
        show Steps p.tables e below (s₁.setTop (mkF m 58 #[.val (.int p0), .val (.int p1), .val (.int p2), .val (.int i), .val (.int (1 : Int32)), .val (.int (1 : Int32)), .val (.int ((1 : Int32) <<< (i &&& 31))), .val (.int (((1 : Int32) <<< (i &&& 31)) ||| (8192 : Int32))), .unset, .unset, .unset] [])) _
        refine XS.iload X0.here hx rfl (hb hby at_58) rfl ?_
        exact kt
      refine own_via (A' := s₁.setTop (mkF m 63 #[.val (.int p0), .val (.int p1), .val (.int p2), .val (.int i), .val (.int (1 : Int32)), .val (.int (1 : Int32)), .val (.int ((1 : Int32) <<< (i &&& 31))), .val (.int (((1 : Int32) <<< (i &&& 31)) ||| (8192 : Int32))), .unset, .unset, .unset] [])) (fun target kt => XS.ifNo X0.here hx rfl (hb hby at_60) rfl ((if0 _ _).trans (feq ((by decide) : ¬ ((1 : Int32) = (0 : Int32)))).1) kt) ?_
      refine own_via (A' := s₁.setTop (mkF m 83 #[.val (.int p0), .val (.int p1), .val (.int p2), .val (.int i), .val (.int (1 : Int32)), .val (.int (1 : Int32)), .val (.int ((1 : Int32) <<< (i &&& 31))), .val (.int (((1 : Int32) <<< (i &&& 31)) ||| (8192 : Int32))), .val (.int (4096 : Int32)), .unset, .unset] [(.int (1 : Int32)), (.int ((((4096 : Int32).toUInt32 >>> (i &&& 31).toUInt32).toInt32) &&& (1 : Int32)))])) (fun target kt => ?_) ?_
      · show Steps p.tables e below (s₁.setTop (mkF m 63 #[.val (.int p0), .val (.int p1), .val (.int p2), .val (.int i), .val (.int (1 : Int32)), .val (.int (1 : Int32)), .val (.int ((1 : Int32) <<< (i &&& 31))), .val (.int (((1 : Int32) <<< (i &&& 31)) ||| (8192 : Int32))), .unset, .unset, .unset] [])) _
        refine XS.sipush X0.here hx rfl (hb hby at_63) ?_
        show Steps p.tables e below (s₁.setTop (mkF m 66 #[.val (.int p0), .val (.int p1), .val (.int p2), .val (.int i), .val (.int (1 : Int32)), .val (.int (1 : Int32)), .val (.int ((1 : Int32) <<< (i &&& 31))), .val (.int (((1 : Int32) <<< (i &&& 31)) ||| (8192 : Int32))), .unset, .unset, .unset] [(.int (4096 : Int32))])) _
        refine XS.goto X0.here hx rfl (pc0 := 66) (pc' := 74) rfl (hb hby at_66) (by decide) (by decide) ?_
        show Steps p.tables e below (s₁.setTop (mkF m 74 #[.val (.int p0), .val (.int p1), .val (.int p2), .val (.int i), .val (.int (1 : Int32)), .val (.int (1 : Int32)), .val (.int ((1 : Int32) <<< (i &&& 31))), .val (.int (((1 : Int32) <<< (i &&& 31)) ||| (8192 : Int32))), .unset, .unset, .unset] [(.int (4096 : Int32))])) _
        refine XS.istore X0.here hx rfl (hb hby at_74) rfl (l' := #[.val (.int p0), .val (.int p1), .val (.int p2), .val (.int i), .val (.int (1 : Int32)), .val (.int (1 : Int32)), .val (.int ((1 : Int32) <<< (i &&& 31))), .val (.int (((1 : Int32) <<< (i &&& 31)) ||| (8192 : Int32))), .val (.int (4096 : Int32)), .unset, .unset]) rfl ?_
        show Steps p.tables e below (s₁.setTop (mkF m 76 #[.val (.int p0), .val (.int p1), .val (.int p2), .val (.int i), .val (.int (1 : Int32)), .val (.int (1 : Int32)), .val (.int ((1 : Int32) <<< (i &&& 31))), .val (.int (((1 : Int32) <<< (i &&& 31)) ||| (8192 : Int32))), .val (.int (4096 : Int32)), .unset, .unset] [])) _
        refine XS.iload X0.here hx rfl (hb hby at_76) rfl ?_
        show Steps p.tables e below (s₁.setTop (mkF m 78 #[.val (.int p0), .val (.int p1), .val (.int p2), .val (.int i), .val (.int (1 : Int32)), .val (.int (1 : Int32)), .val (.int ((1 : Int32) <<< (i &&& 31))), .val (.int (((1 : Int32) <<< (i &&& 31)) ||| (8192 : Int32))), .val (.int (4096 : Int32)), .unset, .unset] [(.int (4096 : Int32))])) _
        refine XS.iloadN X0.here hx rfl (hb hby at_78) rfl ?_
        show Steps p.tables e below (s₁.setTop (mkF m 79 #[.val (.int p0), .val (.int p1), .val (.int p2), .val (.int i), .val (.int (1 : Int32)), .val (.int (1 : Int32)), .val (.int ((1 : Int32) <<< (i &&& 31))), .val (.int (((1 : Int32) <<< (i &&& 31)) ||| (8192 : Int32))), .val (.int (4096 : Int32)), .unset, .unset] [(.int i), (.int (4096 : Int32))])) _
        refine XS.iushr X0.here hx rfl (hb hby at_79) rfl ?_
        show Steps p.tables e below (s₁.setTop (mkF m 80 #[.val (.int p0), .val (.int p1), .val (.int p2), .val (.int i), .val (.int (1 : Int32)), .val (.int (1 : Int32)), .val (.int ((1 : Int32) <<< (i &&& 31))), .val (.int (((1 : Int32) <<< (i &&& 31)) ||| (8192 : Int32))), .val (.int (4096 : Int32)), .unset, .unset] [(.int (((4096 : Int32).toUInt32 >>> (i &&& 31).toUInt32).toInt32))])) _
        refine XS.iconst X0.here hx rfl (hb hby at_80) ?_
        show Steps p.tables e below (s₁.setTop (mkF m 81 #[.val (.int p0), .val (.int p1), .val (.int p2), .val (.int i), .val (.int (1 : Int32)), .val (.int (1 : Int32)), .val (.int ((1 : Int32) <<< (i &&& 31))), .val (.int (((1 : Int32) <<< (i &&& 31)) ||| (8192 : Int32))), .val (.int (4096 : Int32)), .unset, .unset] [(.int (1 : Int32)), (.int (((4096 : Int32).toUInt32 >>> (i &&& 31).toUInt32).toInt32))])) _
        refine XS.iand X0.here hx rfl (hb hby at_81) rfl ?_
        show Steps p.tables e below (s₁.setTop (mkF m 82 #[.val (.int p0), .val (.int p1), .val (.int p2), .val (.int i), .val (.int (1 : Int32)), .val (.int (1 : Int32)), .val (.int ((1 : Int32) <<< (i &&& 31))), .val (.int (((1 : Int32) <<< (i &&& 31)) ||| (8192 : Int32))), .val (.int (4096 : Int32)), .unset, .unset] [(.int ((((4096 : Int32).toUInt32 >>> (i &&& 31).toUInt32).toInt32) &&& (1 : Int32)))])) _
        refine XS.iconst X0.here hx rfl (hb hby at_82) ?_
        exact kt
      by_cases hc83 : ((((4096 : Int32).toUInt32 >>> (i &&& 31).toUInt32).toInt32) &&& (1 : Int32)) = (1 : Int32)
      · refine own_via (A' := s₁.setTop (mkF m 86 #[.val (.int p0), .val (.int p1), .val (.int p2), .val (.int i), .val (.int (1 : Int32)), .val (.int (1 : Int32)), .val (.int ((1 : Int32) <<< (i &&& 31))), .val (.int (((1 : Int32) <<< (i &&& 31)) ||| (8192 : Int32))), .val (.int (4096 : Int32)), .unset, .unset] [])) (fun target kt => XS.icmpNo X0.here hx rfl (hb hby at_83) rfl (teq hc83).2 kt) ?_
        refine own_via (A' := s₁.setTop (mkF m 95 #[.val (.int p0), .val (.int p1), .val (.int p2), .val (.int i), .val (.int (1 : Int32)), .val (.int (1 : Int32)), .val (.int ((1 : Int32) <<< (i &&& 31))), .val (.int (((1 : Int32) <<< (i &&& 31)) ||| (8192 : Int32))), .val (.int (4096 : Int32)), .val (.int (1 : Int32)), .unset] [(.int (1 : Int32))])) (fun target kt => ?_) ?_
        · show Steps p.tables e below (s₁.setTop (mkF m 86 #[.val (.int p0), .val (.int p1), .val (.int p2), .val (.int i), .val (.int (1 : Int32)), .val (.int (1 : Int32)), .val (.int ((1 : Int32) <<< (i &&& 31))), .val (.int (((1 : Int32) <<< (i &&& 31)) ||| (8192 : Int32))), .val (.int (4096 : Int32)), .unset, .unset] [])) _
          refine XS.iconst X0.here hx rfl (hb hby at_86) ?_
          show Steps p.tables e below (s₁.setTop (mkF m 87 #[.val (.int p0), .val (.int p1), .val (.int p2), .val (.int i), .val (.int (1 : Int32)), .val (.int (1 : Int32)), .val (.int ((1 : Int32) <<< (i &&& 31))), .val (.int (((1 : Int32) <<< (i &&& 31)) ||| (8192 : Int32))), .val (.int (4096 : Int32)), .unset, .unset] [(.int (1 : Int32))])) _
          refine XS.goto X0.here hx rfl (pc0 := 87) (pc' := 91) rfl (hb hby at_87) (by decide) (by decide) ?_
          show Steps p.tables e below (s₁.setTop (mkF m 91 #[.val (.int p0), .val (.int p1), .val (.int p2), .val (.int i), .val (.int (1 : Int32)), .val (.int (1 : Int32)), .val (.int ((1 : Int32) <<< (i &&& 31))), .val (.int (((1 : Int32) <<< (i &&& 31)) ||| (8192 : Int32))), .val (.int (4096 : Int32)), .unset, .unset] [(.int (1 : Int32))])) _
          refine XS.istore X0.here hx rfl (hb hby at_91) rfl (l' := #[.val (.int p0), .val (.int p1), .val (.int p2), .val (.int i), .val (.int (1 : Int32)), .val (.int (1 : Int32)), .val (.int ((1 : Int32) <<< (i &&& 31))), .val (.int (((1 : Int32) <<< (i &&& 31)) ||| (8192 : Int32))), .val (.int (4096 : Int32)), .val (.int (1 : Int32)), .unset]) rfl ?_
          show Steps p.tables e below (s₁.setTop (mkF m 93 #[.val (.int p0), .val (.int p1), .val (.int p2), .val (.int i), .val (.int (1 : Int32)), .val (.int (1 : Int32)), .val (.int ((1 : Int32) <<< (i &&& 31))), .val (.int (((1 : Int32) <<< (i &&& 31)) ||| (8192 : Int32))), .val (.int (4096 : Int32)), .val (.int (1 : Int32)), .unset] [])) _
          refine XS.iload X0.here hx rfl (hb hby at_93) rfl ?_
          exact kt
        refine own_via (A' := s₁.setTop (mkF m 116 #[.val (.int p0), .val (.int p1), .val (.int p2), .val (.int i), .val (.int (1 : Int32)), .val (.int (1 : Int32)), .val (.int ((1 : Int32) <<< (i &&& 31))), .val (.int (((1 : Int32) <<< (i &&& 31)) ||| (8192 : Int32))), .val (.int (4096 : Int32)), .val (.int (1 : Int32)), .unset] [])) (fun target kt => XS.ifYes X0.here hx rfl (pc0 := 95) (pc' := 116) rfl (hb hby at_95) rfl ((if0 _ _).trans (feq ((by decide) : ¬ ((1 : Int32) = (0 : Int32)))).2) (by decide) (by decide) kt) ?_
        refine own_via (A' := s₁.setTop (mkF m 127 #[.val (.int p0), .val (.int p1), .val (.int p2), .val (.int i), .val (.int (1 : Int32)), .val (.int (1 : Int32)), .val (.int ((1 : Int32) <<< (i &&& 31))), .val (.int (((1 : Int32) <<< (i &&& 31)) ||| (8192 : Int32))), .val (.int (4096 : Int32)), .val (.int (1 : Int32)), .val (.int (1 : Int32))] [(.int (4096 : Int32)), (.int (((1 : Int32) <<< (i &&& 31)) ||| (8192 : Int32)))])) (fun target kt => ?_) ?_
        · show Steps p.tables e below (s₁.setTop (mkF m 116 #[.val (.int p0), .val (.int p1), .val (.int p2), .val (.int i), .val (.int (1 : Int32)), .val (.int (1 : Int32)), .val (.int ((1 : Int32) <<< (i &&& 31))), .val (.int (((1 : Int32) <<< (i &&& 31)) ||| (8192 : Int32))), .val (.int (4096 : Int32)), .val (.int (1 : Int32)), .unset] [])) _
          refine XS.iconst X0.here hx rfl (hb hby at_116) ?_
          show Steps p.tables e below (s₁.setTop (mkF m 117 #[.val (.int p0), .val (.int p1), .val (.int p2), .val (.int i), .val (.int (1 : Int32)), .val (.int (1 : Int32)), .val (.int ((1 : Int32) <<< (i &&& 31))), .val (.int (((1 : Int32) <<< (i &&& 31)) ||| (8192 : Int32))), .val (.int (4096 : Int32)), .val (.int (1 : Int32)), .unset] [(.int (1 : Int32))])) _
          refine XS.goto X0.here hx rfl (pc0 := 117) (pc' := 121) rfl (hb hby at_117) (by decide) (by decide) ?_
          show Steps p.tables e below (s₁.setTop (mkF m 121 #[.val (.int p0), .val (.int p1), .val (.int p2), .val (.int i), .val (.int (1 : Int32)), .val (.int (1 : Int32)), .val (.int ((1 : Int32) <<< (i &&& 31))), .val (.int (((1 : Int32) <<< (i &&& 31)) ||| (8192 : Int32))), .val (.int (4096 : Int32)), .val (.int (1 : Int32)), .unset] [(.int (1 : Int32))])) _
          refine XS.istore X0.here hx rfl (hb hby at_121) rfl (l' := #[.val (.int p0), .val (.int p1), .val (.int p2), .val (.int i), .val (.int (1 : Int32)), .val (.int (1 : Int32)), .val (.int ((1 : Int32) <<< (i &&& 31))), .val (.int (((1 : Int32) <<< (i &&& 31)) ||| (8192 : Int32))), .val (.int (4096 : Int32)), .val (.int (1 : Int32)), .val (.int (1 : Int32))]) rfl ?_
          show Steps p.tables e below (s₁.setTop (mkF m 123 #[.val (.int p0), .val (.int p1), .val (.int p2), .val (.int i), .val (.int (1 : Int32)), .val (.int (1 : Int32)), .val (.int ((1 : Int32) <<< (i &&& 31))), .val (.int (((1 : Int32) <<< (i &&& 31)) ||| (8192 : Int32))), .val (.int (4096 : Int32)), .val (.int (1 : Int32)), .val (.int (1 : Int32))] [])) _
          refine XS.iload X0.here hx rfl (hb hby at_123) rfl ?_
          show Steps p.tables e below (s₁.setTop (mkF m 125 #[.val (.int p0), .val (.int p1), .val (.int p2), .val (.int i), .val (.int (1 : Int32)), .val (.int (1 : Int32)), .val (.int ((1 : Int32) <<< (i &&& 31))), .val (.int (((1 : Int32) <<< (i &&& 31)) ||| (8192 : Int32))), .val (.int (4096 : Int32)), .val (.int (1 : Int32)), .val (.int (1 : Int32))] [(.int (((1 : Int32) <<< (i &&& 31)) ||| (8192 : Int32)))])) _
          refine XS.iload X0.here hx rfl (hb hby at_125) rfl ?_
          exact kt
        obtain ⟨_, _, ⟨T5, L5, k5, n5⟩, -, X5, ⟨Lc5, hQ5, l5, y5, z5⟩, st5⟩ := Jvm.LawKit.callS X0 hx (y := (⟨"holdfast/Context", "holds", "(II)Z"⟩ : MethodName)) hown (mvT hZ (hw _ (List.mem_of_getElem? (i := 1) rfl))) (mvT hZ (hw _ (List.mem_of_getElem? (i := 2) rfl))) (mvT hZ (hw _ (List.mem_of_getElem? (i := 3) rfl))) (mvT hZ (hw _ (List.mem_of_getElem? (i := 4) rfl))) (by decide) (backOf (W := 0) (rm1 l Z a0 hw [] (((1 : Int32) <<< (i &&& 31)) ||| (8192 : Int32)) (4096 : Int32)  h0 n0 Z0 ) hZ (hw _ (List.mem_of_getElem? (i := 4) rfl)) (hw _ (List.mem_of_getElem? (i := 3) rfl)) (by decide) (by decide)) (g := (mkF m 127 #[.val (.int p0), .val (.int p1), .val (.int p2), .val (.int i), .val (.int (1 : Int32)), .val (.int (1 : Int32)), .val (.int ((1 : Int32) <<< (i &&& 31))), .val (.int (((1 : Int32) <<< (i &&& 31)) ||| (8192 : Int32))), .val (.int (4096 : Int32)), .val (.int (1 : Int32)), .val (.int (1 : Int32))] [(.int (4096 : Int32)), (.int (((1 : Int32) <<< (i &&& 31)) ||| (8192 : Int32)))])) rfl (by rw [hml]; rfl) (argsL := [(.int (((1 : Int32) <<< (i &&& 31)) ||| (8192 : Int32))), (.int (4096 : Int32))]) (rest := []) (lenOf pd_0_0 rfl) rfl (by show 2 * 0 + _ ≤ _; exact Nat.le_of_eq rfl) (hb hby at_127) (fun _ _ => ⟨rfl, e0, (by decide : 0 + 0 ≤ _), (by decide : 0 + 0 ≤ _)⟩)
        dsimp only [Pt.U, Pt.locs, Pt.cells, Pt.slots] at X5 l5 y5 z5 st5 hQ5
        subst l5 y5 z5
        obtain ⟨rfl, N5q, e5⟩ := hQ5
        have N5 := Fr.app N0 N5q
        refine own_via (A' := T5.setTop (mkF m 130 #[.val (.int p0), .val (.int p1), .val (.int p2), .val (.int i), .val (.int (1 : Int32)), .val (.int (1 : Int32)), .val (.int ((1 : Int32) <<< (i &&& 31))), .val (.int (((1 : Int32) <<< (i &&& 31)) ||| (8192 : Int32))), .val (.int (4096 : Int32)), .val (.int (1 : Int32)), .val (.int (1 : Int32))] [(.int (own_holds (((1 : Int32) <<< (i &&& 31)) ||| (8192 : Int32)) (4096 : Int32)))])) st5 ?_
        refine own_via (A' := T5.setTop (mkF m 132 #[.val (.int p0), .val (.int p1), .val (.int p2), .val (.int i), .val (.int (1 : Int32)), .val (.int (1 : Int32)), .val (.int ((1 : Int32) <<< (i &&& 31))), .val (.int (((1 : Int32) <<< (i &&& 31)) ||| (8192 : Int32))), .val (.int (4096 : Int32)), .val (.int (1 : Int32)), .val (.int (1 : Int32))] [(.int (1 : Int32)), (.int (own_holds (((1 : Int32) <<< (i &&& 31)) ||| (8192 : Int32)) (4096 : Int32)))])) (fun target kt => ?_) ?_
        · show Steps p.tables e below (T5.setTop (mkF m 130 #[.val (.int p0), .val (.int p1), .val (.int p2), .val (.int i), .val (.int (1 : Int32)), .val (.int (1 : Int32)), .val (.int ((1 : Int32) <<< (i &&& 31))), .val (.int (((1 : Int32) <<< (i &&& 31)) ||| (8192 : Int32))), .val (.int (4096 : Int32)), .val (.int (1 : Int32)), .val (.int (1 : Int32))] [(.int (own_holds (((1 : Int32) <<< (i &&& 31)) ||| (8192 : Int32)) (4096 : Int32)))])) _
          refine XS.iload X5.here hx rfl (hb hby at_130) rfl ?_
          exact kt
        refine own_via (A' := T5.setTop (mkF m 135 #[.val (.int p0), .val (.int p1), .val (.int p2), .val (.int i), .val (.int (1 : Int32)), .val (.int (1 : Int32)), .val (.int ((1 : Int32) <<< (i &&& 31))), .val (.int (((1 : Int32) <<< (i &&& 31)) ||| (8192 : Int32))), .val (.int (4096 : Int32)), .val (.int (1 : Int32)), .val (.int (1 : Int32))] [])) (fun target kt => XS.icmpNo X5.here hx rfl (hb hby at_132) rfl (teq (own_any _ : (own_holds (((1 : Int32) <<< (i &&& 31)) ||| (8192 : Int32)) (4096 : Int32)) = (1 : Int32))).2 kt) ?_
        refine own_via (A' := T5.setTop (mkF m 140 #[.val (.int p0), .val (.int p1), .val (.int p2), .val (.int i), .val (.int (1 : Int32)), .val (.int (1 : Int32)), .val (.int ((1 : Int32) <<< (i &&& 31))), .val (.int (((1 : Int32) <<< (i &&& 31)) ||| (8192 : Int32))), .val (.int (4096 : Int32)), .val (.int (1 : Int32)), .val (.int (1 : Int32))] [(.int (1 : Int32))])) (fun target kt => ?_) ?_
        · show Steps p.tables e below (T5.setTop (mkF m 135 #[.val (.int p0), .val (.int p1), .val (.int p2), .val (.int i), .val (.int (1 : Int32)), .val (.int (1 : Int32)), .val (.int ((1 : Int32) <<< (i &&& 31))), .val (.int (((1 : Int32) <<< (i &&& 31)) ||| (8192 : Int32))), .val (.int (4096 : Int32)), .val (.int (1 : Int32)), .val (.int (1 : Int32))] [])) _
          refine XS.iconst X5.here hx rfl (hb hby at_135) ?_
          show Steps p.tables e below (T5.setTop (mkF m 136 #[.val (.int p0), .val (.int p1), .val (.int p2), .val (.int i), .val (.int (1 : Int32)), .val (.int (1 : Int32)), .val (.int ((1 : Int32) <<< (i &&& 31))), .val (.int (((1 : Int32) <<< (i &&& 31)) ||| (8192 : Int32))), .val (.int (4096 : Int32)), .val (.int (1 : Int32)), .val (.int (1 : Int32))] [(.int (1 : Int32))])) _
          refine XS.goto X5.here hx rfl (pc0 := 136) (pc' := 140) rfl (hb hby at_136) (by decide) (by decide) ?_
          exact kt
        exact own_retN X5 Bd.notSynchronized hx (t := .boolean) Bd.returns (by simp) (hb hby at_140) (show Q0 Z p0 p1 p2 h0 n0 _ _ _ from ⟨rfl, N5⟩) (by decide) (by decide)
      · refine own_via (A' := s₁.setTop (mkF m 90 #[.val (.int p0), .val (.int p1), .val (.int p2), .val (.int i), .val (.int (1 : Int32)), .val (.int (1 : Int32)), .val (.int ((1 : Int32) <<< (i &&& 31))), .val (.int (((1 : Int32) <<< (i &&& 31)) ||| (8192 : Int32))), .val (.int (4096 : Int32)), .unset, .unset] [])) (fun target kt => XS.icmpYes X0.here hx rfl (pc0 := 83) (pc' := 90) rfl (hb hby at_83) rfl (feq hc83).2 (by decide) (by decide) kt) ?_
        refine own_via (A' := s₁.setTop (mkF m 95 #[.val (.int p0), .val (.int p1), .val (.int p2), .val (.int i), .val (.int (1 : Int32)), .val (.int (1 : Int32)), .val (.int ((1 : Int32) <<< (i &&& 31))), .val (.int (((1 : Int32) <<< (i &&& 31)) ||| (8192 : Int32))), .val (.int (4096 : Int32)), .val (.int (0 : Int32)), .unset] [(.int (1 : Int32))])) (fun target kt => ?_) ?_
        · show Steps p.tables e below (s₁.setTop (mkF m 90 #[.val (.int p0), .val (.int p1), .val (.int p2), .val (.int i), .val (.int (1 : Int32)), .val (.int (1 : Int32)), .val (.int ((1 : Int32) <<< (i &&& 31))), .val (.int (((1 : Int32) <<< (i &&& 31)) ||| (8192 : Int32))), .val (.int (4096 : Int32)), .unset, .unset] [])) _
          refine XS.iconst X0.here hx rfl (hb hby at_90) ?_
          show Steps p.tables e below (s₁.setTop (mkF m 91 #[.val (.int p0), .val (.int p1), .val (.int p2), .val (.int i), .val (.int (1 : Int32)), .val (.int (1 : Int32)), .val (.int ((1 : Int32) <<< (i &&& 31))), .val (.int (((1 : Int32) <<< (i &&& 31)) ||| (8192 : Int32))), .val (.int (4096 : Int32)), .unset, .unset] [(.int (0 : Int32))])) _
          refine XS.istore X0.here hx rfl (hb hby at_91) rfl (l' := #[.val (.int p0), .val (.int p1), .val (.int p2), .val (.int i), .val (.int (1 : Int32)), .val (.int (1 : Int32)), .val (.int ((1 : Int32) <<< (i &&& 31))), .val (.int (((1 : Int32) <<< (i &&& 31)) ||| (8192 : Int32))), .val (.int (4096 : Int32)), .val (.int (0 : Int32)), .unset]) rfl ?_
          show Steps p.tables e below (s₁.setTop (mkF m 93 #[.val (.int p0), .val (.int p1), .val (.int p2), .val (.int i), .val (.int (1 : Int32)), .val (.int (1 : Int32)), .val (.int ((1 : Int32) <<< (i &&& 31))), .val (.int (((1 : Int32) <<< (i &&& 31)) ||| (8192 : Int32))), .val (.int (4096 : Int32)), .val (.int (0 : Int32)), .unset] [])) _
          refine XS.iload X0.here hx rfl (hb hby at_93) rfl ?_
          exact kt
        refine own_via (A' := s₁.setTop (mkF m 116 #[.val (.int p0), .val (.int p1), .val (.int p2), .val (.int i), .val (.int (1 : Int32)), .val (.int (1 : Int32)), .val (.int ((1 : Int32) <<< (i &&& 31))), .val (.int (((1 : Int32) <<< (i &&& 31)) ||| (8192 : Int32))), .val (.int (4096 : Int32)), .val (.int (0 : Int32)), .unset] [])) (fun target kt => XS.ifYes X0.here hx rfl (pc0 := 95) (pc' := 116) rfl (hb hby at_95) rfl ((if0 _ _).trans (feq ((by decide) : ¬ ((1 : Int32) = (0 : Int32)))).2) (by decide) (by decide) kt) ?_
        refine own_via (A' := s₁.setTop (mkF m 127 #[.val (.int p0), .val (.int p1), .val (.int p2), .val (.int i), .val (.int (1 : Int32)), .val (.int (1 : Int32)), .val (.int ((1 : Int32) <<< (i &&& 31))), .val (.int (((1 : Int32) <<< (i &&& 31)) ||| (8192 : Int32))), .val (.int (4096 : Int32)), .val (.int (0 : Int32)), .val (.int (1 : Int32))] [(.int (4096 : Int32)), (.int (((1 : Int32) <<< (i &&& 31)) ||| (8192 : Int32)))])) (fun target kt => ?_) ?_
        · show Steps p.tables e below (s₁.setTop (mkF m 116 #[.val (.int p0), .val (.int p1), .val (.int p2), .val (.int i), .val (.int (1 : Int32)), .val (.int (1 : Int32)), .val (.int ((1 : Int32) <<< (i &&& 31))), .val (.int (((1 : Int32) <<< (i &&& 31)) ||| (8192 : Int32))), .val (.int (4096 : Int32)), .val (.int (0 : Int32)), .unset] [])) _
          refine XS.iconst X0.here hx rfl (hb hby at_116) ?_
          show Steps p.tables e below (s₁.setTop (mkF m 117 #[.val (.int p0), .val (.int p1), .val (.int p2), .val (.int i), .val (.int (1 : Int32)), .val (.int (1 : Int32)), .val (.int ((1 : Int32) <<< (i &&& 31))), .val (.int (((1 : Int32) <<< (i &&& 31)) ||| (8192 : Int32))), .val (.int (4096 : Int32)), .val (.int (0 : Int32)), .unset] [(.int (1 : Int32))])) _
          refine XS.goto X0.here hx rfl (pc0 := 117) (pc' := 121) rfl (hb hby at_117) (by decide) (by decide) ?_
          show Steps p.tables e below (s₁.setTop (mkF m 121 #[.val (.int p0), .val (.int p1), .val (.int p2), .val (.int i), .val (.int (1 : Int32)), .val (.int (1 : Int32)), .val (.int ((1 : Int32) <<< (i &&& 31))), .val (.int (((1 : Int32) <<< (i &&& 31)) ||| (8192 : Int32))), .val (.int (4096 : Int32)), .val (.int (0 : Int32)), .unset] [(.int (1 : Int32))])) _
          refine XS.istore X0.here hx rfl (hb hby at_121) rfl (l' := #[.val (.int p0), .val (.int p1), .val (.int p2), .val (.int i), .val (.int (1 : Int32)), .val (.int (1 : Int32)), .val (.int ((1 : Int32) <<< (i &&& 31))), .val (.int (((1 : Int32) <<< (i &&& 31)) ||| (8192 : Int32))), .val (.int (4096 : Int32)), .val (.int (0 : Int32)), .val (.int (1 : Int32))]) rfl ?_
          show Steps p.tables e below (s₁.setTop (mkF m 123 #[.val (.int p0), .val (.int p1), .val (.int p2), .val (.int i), .val (.int (1 : Int32)), .val (.int (1 : Int32)), .val (.int ((1 : Int32) <<< (i &&& 31))), .val (.int (((1 : Int32) <<< (i &&& 31)) ||| (8192 : Int32))), .val (.int (4096 : Int32)), .val (.int (0 : Int32)), .val (.int (1 : Int32))] [])) _
          refine XS.iload X0.here hx rfl (hb hby at_123) rfl ?_
          show Steps p.tables e below (s₁.setTop (mkF m 125 #[.val (.int p0), .val (.int p1), .val (.int p2), .val (.int i), .val (.int (1 : Int32)), .val (.int (1 : Int32)), .val (.int ((1 : Int32) <<< (i &&& 31))), .val (.int (((1 : Int32) <<< (i &&& 31)) ||| (8192 : Int32))), .val (.int (4096 : Int32)), .val (.int (0 : Int32)), .val (.int (1 : Int32))] [(.int (((1 : Int32) <<< (i &&& 31)) ||| (8192 : Int32)))])) _
          refine XS.iload X0.here hx rfl (hb hby at_125) rfl ?_
          exact kt
        obtain ⟨_, _, ⟨T6, L6, k6, n6⟩, -, X6, ⟨Lc6, hQ6, l6, y6, z6⟩, st6⟩ := Jvm.LawKit.callS X0 hx (y := (⟨"holdfast/Context", "holds", "(II)Z"⟩ : MethodName)) hown (mvT hZ (hw _ (List.mem_of_getElem? (i := 1) rfl))) (mvT hZ (hw _ (List.mem_of_getElem? (i := 2) rfl))) (mvT hZ (hw _ (List.mem_of_getElem? (i := 3) rfl))) (mvT hZ (hw _ (List.mem_of_getElem? (i := 4) rfl))) (by decide) (backOf (W := 0) (rm1 l Z a0 hw [] (((1 : Int32) <<< (i &&& 31)) ||| (8192 : Int32)) (4096 : Int32)  h0 n0 Z0 ) hZ (hw _ (List.mem_of_getElem? (i := 4) rfl)) (hw _ (List.mem_of_getElem? (i := 3) rfl)) (by decide) (by decide)) (g := (mkF m 127 #[.val (.int p0), .val (.int p1), .val (.int p2), .val (.int i), .val (.int (1 : Int32)), .val (.int (1 : Int32)), .val (.int ((1 : Int32) <<< (i &&& 31))), .val (.int (((1 : Int32) <<< (i &&& 31)) ||| (8192 : Int32))), .val (.int (4096 : Int32)), .val (.int (0 : Int32)), .val (.int (1 : Int32))] [(.int (4096 : Int32)), (.int (((1 : Int32) <<< (i &&& 31)) ||| (8192 : Int32)))])) rfl (by rw [hml]; rfl) (argsL := [(.int (((1 : Int32) <<< (i &&& 31)) ||| (8192 : Int32))), (.int (4096 : Int32))]) (rest := []) (lenOf pd_0_0 rfl) rfl (by show 2 * 0 + _ ≤ _; exact Nat.le_of_eq rfl) (hb hby at_127) (fun _ _ => ⟨rfl, e0, (by decide : 0 + 0 ≤ _), (by decide : 0 + 0 ≤ _)⟩)
        dsimp only [Pt.U, Pt.locs, Pt.cells, Pt.slots] at X6 l6 y6 z6 st6 hQ6
        subst l6 y6 z6
        obtain ⟨rfl, N6q, e6⟩ := hQ6
        have N6 := Fr.app N0 N6q
        refine own_via (A' := T6.setTop (mkF m 130 #[.val (.int p0), .val (.int p1), .val (.int p2), .val (.int i), .val (.int (1 : Int32)), .val (.int (1 : Int32)), .val (.int ((1 : Int32) <<< (i &&& 31))), .val (.int (((1 : Int32) <<< (i &&& 31)) ||| (8192 : Int32))), .val (.int (4096 : Int32)), .val (.int (0 : Int32)), .val (.int (1 : Int32))] [(.int (own_holds (((1 : Int32) <<< (i &&& 31)) ||| (8192 : Int32)) (4096 : Int32)))])) st6 ?_
        refine own_via (A' := T6.setTop (mkF m 132 #[.val (.int p0), .val (.int p1), .val (.int p2), .val (.int i), .val (.int (1 : Int32)), .val (.int (1 : Int32)), .val (.int ((1 : Int32) <<< (i &&& 31))), .val (.int (((1 : Int32) <<< (i &&& 31)) ||| (8192 : Int32))), .val (.int (4096 : Int32)), .val (.int (0 : Int32)), .val (.int (1 : Int32))] [(.int (1 : Int32)), (.int (own_holds (((1 : Int32) <<< (i &&& 31)) ||| (8192 : Int32)) (4096 : Int32)))])) (fun target kt => ?_) ?_
        · show Steps p.tables e below (T6.setTop (mkF m 130 #[.val (.int p0), .val (.int p1), .val (.int p2), .val (.int i), .val (.int (1 : Int32)), .val (.int (1 : Int32)), .val (.int ((1 : Int32) <<< (i &&& 31))), .val (.int (((1 : Int32) <<< (i &&& 31)) ||| (8192 : Int32))), .val (.int (4096 : Int32)), .val (.int (0 : Int32)), .val (.int (1 : Int32))] [(.int (own_holds (((1 : Int32) <<< (i &&& 31)) ||| (8192 : Int32)) (4096 : Int32)))])) _
          refine XS.iload X6.here hx rfl (hb hby at_130) rfl ?_
          exact kt
        refine own_via (A' := T6.setTop (mkF m 135 #[.val (.int p0), .val (.int p1), .val (.int p2), .val (.int i), .val (.int (1 : Int32)), .val (.int (1 : Int32)), .val (.int ((1 : Int32) <<< (i &&& 31))), .val (.int (((1 : Int32) <<< (i &&& 31)) ||| (8192 : Int32))), .val (.int (4096 : Int32)), .val (.int (0 : Int32)), .val (.int (1 : Int32))] [])) (fun target kt => XS.icmpNo X6.here hx rfl (hb hby at_132) rfl (teq (own_any _ : (own_holds (((1 : Int32) <<< (i &&& 31)) ||| (8192 : Int32)) (4096 : Int32)) = (1 : Int32))).2 kt) ?_
        refine own_via (A' := T6.setTop (mkF m 140 #[.val (.int p0), .val (.int p1), .val (.int p2), .val (.int i), .val (.int (1 : Int32)), .val (.int (1 : Int32)), .val (.int ((1 : Int32) <<< (i &&& 31))), .val (.int (((1 : Int32) <<< (i &&& 31)) ||| (8192 : Int32))), .val (.int (4096 : Int32)), .val (.int (0 : Int32)), .val (.int (1 : Int32))] [(.int (1 : Int32))])) (fun target kt => ?_) ?_
        · show Steps p.tables e below (T6.setTop (mkF m 135 #[.val (.int p0), .val (.int p1), .val (.int p2), .val (.int i), .val (.int (1 : Int32)), .val (.int (1 : Int32)), .val (.int ((1 : Int32) <<< (i &&& 31))), .val (.int (((1 : Int32) <<< (i &&& 31)) ||| (8192 : Int32))), .val (.int (4096 : Int32)), .val (.int (0 : Int32)), .val (.int (1 : Int32))] [])) _
          refine XS.iconst X6.here hx rfl (hb hby at_135) ?_
          show Steps p.tables e below (T6.setTop (mkF m 136 #[.val (.int p0), .val (.int p1), .val (.int p2), .val (.int i), .val (.int (1 : Int32)), .val (.int (1 : Int32)), .val (.int ((1 : Int32) <<< (i &&& 31))), .val (.int (((1 : Int32) <<< (i &&& 31)) ||| (8192 : Int32))), .val (.int (4096 : Int32)), .val (.int (0 : Int32)), .val (.int (1 : Int32))] [(.int (1 : Int32))])) _
          refine XS.goto X6.here hx rfl (pc0 := 136) (pc' := 140) rfl (hb hby at_136) (by decide) (by decide) ?_
          exact kt
        exact own_retN X6 Bd.notSynchronized hx (t := .boolean) Bd.returns (by simp) (hb hby at_140) (show Q0 Z p0 p1 p2 h0 n0 _ _ _ from ⟨rfl, N6⟩) (by decide) (by decide)
    · refine own_via (A' := s₁.setTop (mkF m 32 #[.val (.int p0), .val (.int p1), .val (.int p2), .val (.int i), .val (.int (1 : Int32)), .unset, .unset, .unset, .unset, .unset, .unset] [])) (fun target kt => XS.ifYes X0.here hx rfl (pc0 := 25) (pc' := 32) rfl (hb hby at_25) rfl ((if0 _ _).trans (feq hc25).2) (by decide) (by decide) kt) ?_
      refine own_via (A' := s₁.setTop (mkF m 42 #[.val (.int p0), .val (.int p1), .val (.int p2), .val (.int i), .val (.int (1 : Int32)), .val (.int (0 : Int32)), .val (.int ((1 : Int32) <<< (i &&& 31))), .unset, .unset, .unset, .unset] [(.int (1 : Int32))])) (fun target kt => ?_) ?_
      · show Steps p.tables e below (s₁.setTop (mkF m 32 #[.val (.int p0), .val (.int p1), .val (.int p2), .val (.int i), .val (.int (1 : Int32)), .unset, .unset, .unset, .unset, .unset, .unset] [])) _
        refine XS.iconst X0.here hx rfl (hb hby at_32) ?_
        show Steps p.tables e below (s₁.setTop (mkF m 33 #[.val (.int p0), .val (.int p1), .val (.int p2), .val (.int i), .val (.int (1 : Int32)), .unset, .unset, .unset, .unset, .unset, .unset] [(.int (0 : Int32))])) _
        refine XS.istore X0.here hx rfl (hb hby at_33) rfl (l' := #[.val (.int p0), .val (.int p1), .val (.int p2), .val (.int i), .val (.int (1 : Int32)), .val (.int (0 : Int32)), .unset, .unset, .unset, .unset, .unset]) rfl ?_
        show Steps p.tables e below (s₁.setTop (mkF m 35 #[.val (.int p0), .val (.int p1), .val (.int p2), .val (.int i), .val (.int (1 : Int32)), .val (.int (0 : Int32)), .unset, .unset, .unset, .unset, .unset] [])) _
        refine XS.iconst X0.here hx rfl (hb hby at_35) ?_
        show Steps p.tables e below (s₁.setTop (mkF m 36 #[.val (.int p0), .val (.int p1), .val (.int p2), .val (.int i), .val (.int (1 : Int32)), .val (.int (0 : Int32)), .unset, .unset, .unset, .unset, .unset] [(.int (1 : Int32))])) _
        refine XS.iloadN X0.here hx rfl (hb hby at_36) rfl ?_
        show Steps p.tables e below (s₁.setTop (mkF m 37 #[.val (.int p0), .val (.int p1), .val (.int p2), .val (.int i), .val (.int (1 : Int32)), .val (.int (0 : Int32)), .unset, .unset, .unset, .unset, .unset] [(.int i), (.int (1 : Int32))])) _
        refine XS.ishl X0.here hx rfl (hb hby at_37) rfl ?_
        show Steps p.tables e below (s₁.setTop (mkF m 38 #[.val (.int p0), .val (.int p1), .val (.int p2), .val (.int i), .val (.int (1 : Int32)), .val (.int (0 : Int32)), .unset, .unset, .unset, .unset, .unset] [(.int ((1 : Int32) <<< (i &&& 31)))])) _
        refine XS.istore X0.here hx rfl (hb hby at_38) rfl (l' := #[.val (.int p0), .val (.int p1), .val (.int p2), .val (.int i), .val (.int (1 : Int32)), .val (.int (0 : Int32)), .val (.int ((1 : Int32) <<< (i &&& 31))), .unset, .unset, .unset, .unset]) rfl ?_
        show Steps p.tables e below (s₁.setTop (mkF m 40 #[.val (.int p0), .val (.int p1), .val (.int p2), .val (.int i), .val (.int (1 : Int32)), .val (.int (0 : Int32)), .val (.int ((1 : Int32) <<< (i &&& 31))), .unset, .unset, .unset, .unset] [])) _
        refine XS.iload X0.here hx rfl (hb hby at_40) rfl ?_
        exact kt
      refine own_via (A' := s₁.setTop (mkF m 45 #[.val (.int p0), .val (.int p1), .val (.int p2), .val (.int i), .val (.int (1 : Int32)), .val (.int (0 : Int32)), .val (.int ((1 : Int32) <<< (i &&& 31))), .unset, .unset, .unset, .unset] [])) (fun target kt => XS.ifNo X0.here hx rfl (hb hby at_42) rfl ((if0 _ _).trans (feq ((by decide) : ¬ ((1 : Int32) = (0 : Int32)))).1) kt) ?_
      refine own_via (A' := s₁.setTop (mkF m 60 #[.val (.int p0), .val (.int p1), .val (.int p2), .val (.int i), .val (.int (1 : Int32)), .val (.int (0 : Int32)), .val (.int ((1 : Int32) <<< (i &&& 31))), .val (.int (((1 : Int32) <<< (i &&& 31)) ||| (8192 : Int32))), .unset, .unset, .unset] [(.int (0 : Int32))])) (fun target kt => ?_) ?_
      · show Steps p.tables e below (s₁.setTop (mkF m 45 #[.val (.int p0), .val (.int p1), .val (.int p2), .val (.int i), .val (.int (1 : Int32)), .val (.int (0 : Int32)), .val (.int ((1 : Int32) <<< (i &&& 31))), .unset, .unset, .unset, .unset] [])) _
        refine XS.iload X0.here hx rfl (hb hby at_45) rfl ?_
        show Steps p.tables e below (s₁.setTop (mkF m 47 #[.val (.int p0), .val (.int p1), .val (.int p2), .val (.int i), .val (.int (1 : Int32)), .val (.int (0 : Int32)), .val (.int ((1 : Int32) <<< (i &&& 31))), .unset, .unset, .unset, .unset] [(.int ((1 : Int32) <<< (i &&& 31)))])) _
        refine XS.sipush X0.here hx rfl (hb hby at_47) ?_
        show Steps p.tables e below (s₁.setTop (mkF m 50 #[.val (.int p0), .val (.int p1), .val (.int p2), .val (.int i), .val (.int (1 : Int32)), .val (.int (0 : Int32)), .val (.int ((1 : Int32) <<< (i &&& 31))), .unset, .unset, .unset, .unset] [(.int (8192 : Int32)), (.int ((1 : Int32) <<< (i &&& 31)))])) _
        refine XS.ior X0.here hx rfl (hb hby at_50) rfl ?_
        show Steps p.tables e below (s₁.setTop (mkF m 51 #[.val (.int p0), .val (.int p1), .val (.int p2), .val (.int i), .val (.int (1 : Int32)), .val (.int (0 : Int32)), .val (.int ((1 : Int32) <<< (i &&& 31))), .unset, .unset, .unset, .unset] [(.int (((1 : Int32) <<< (i &&& 31)) ||| (8192 : Int32)))])) _
        refine XS.goto X0.here hx rfl (pc0 := 51) (pc' := 56) rfl (hb hby at_51) (by decide) (by decide) ?_
        show Steps p.tables e below (s₁.setTop (mkF m 56 #[.val (.int p0), .val (.int p1), .val (.int p2), .val (.int i), .val (.int (1 : Int32)), .val (.int (0 : Int32)), .val (.int ((1 : Int32) <<< (i &&& 31))), .unset, .unset, .unset, .unset] [(.int (((1 : Int32) <<< (i &&& 31)) ||| (8192 : Int32)))])) _
        refine XS.istore X0.here hx rfl (hb hby at_56) rfl (l' := #[.val (.int p0), .val (.int p1), .val (.int p2), .val (.int i), .val (.int (1 : Int32)), .val (.int (0 : Int32)), .val (.int ((1 : Int32) <<< (i &&& 31))), .val (.int (((1 : Int32) <<< (i &&& 31)) ||| (8192 : Int32))), .unset, .unset, .unset]) rfl ?_
        show Steps p.tables e below (s₁.setTop (mkF m 58 #[.val (.int p0), .val (.int p1), .val (.int p2), .val (.int i), .val (.int (1 : Int32)), .val (.int (0 : Int32)), .val (.int ((1 : Int32) <<< (i &&& 31))), .val (.int (((1 : Int32) <<< (i &&& 31)) ||| (8192 : Int32))), .unset, .unset, .unset] [])) _
        refine XS.iload X0.here hx rfl (hb hby at_58) rfl ?_
        exact kt
      refine own_via (A' := s₁.setTop (mkF m 69 #[.val (.int p0), .val (.int p1), .val (.int p2), .val (.int i), .val (.int (1 : Int32)), .val (.int (0 : Int32)), .val (.int ((1 : Int32) <<< (i &&& 31))), .val (.int (((1 : Int32) <<< (i &&& 31)) ||| (8192 : Int32))), .unset, .unset, .unset] [])) (fun target kt => XS.ifYes X0.here hx rfl (pc0 := 60) (pc' := 69) rfl (hb hby at_60) rfl ((if0 _ _).trans (teq ((by decide) : (0 : Int32) = (0 : Int32))).1) (by decide) (by decide) kt) ?_
      refine own_via (A' := s₁.setTop (mkF m 83 #[.val (.int p0), .val (.int p1), .val (.int p2), .val (.int i), .val (.int (1 : Int32)), .val (.int (0 : Int32)), .val (.int ((1 : Int32) <<< (i &&& 31))), .val (.int (((1 : Int32) <<< (i &&& 31)) ||| (8192 : Int32))), .val (.int (p1 &&& (4095 : Int32))), .unset, .unset] [(.int (1 : Int32)), (.int ((((p1 &&& (4095 : Int32)).toUInt32 >>> (i &&& 31).toUInt32).toInt32) &&& (1 : Int32)))])) (fun target kt => ?_) ?_
      · show Steps p.tables e below (s₁.setTop (mkF m 69 #[.val (.int p0), .val (.int p1), .val (.int p2), .val (.int i), .val (.int (1 : Int32)), .val (.int (0 : Int32)), .val (.int ((1 : Int32) <<< (i &&& 31))), .val (.int (((1 : Int32) <<< (i &&& 31)) ||| (8192 : Int32))), .unset, .unset, .unset] [])) _
        refine XS.iloadN X0.here hx rfl (hb hby at_69) rfl ?_
        show Steps p.tables e below (s₁.setTop (mkF m 70 #[.val (.int p0), .val (.int p1), .val (.int p2), .val (.int i), .val (.int (1 : Int32)), .val (.int (0 : Int32)), .val (.int ((1 : Int32) <<< (i &&& 31))), .val (.int (((1 : Int32) <<< (i &&& 31)) ||| (8192 : Int32))), .unset, .unset, .unset] [(.int p1)])) _
        refine XS.sipush X0.here hx rfl (hb hby at_70) ?_
        show Steps p.tables e below (s₁.setTop (mkF m 73 #[.val (.int p0), .val (.int p1), .val (.int p2), .val (.int i), .val (.int (1 : Int32)), .val (.int (0 : Int32)), .val (.int ((1 : Int32) <<< (i &&& 31))), .val (.int (((1 : Int32) <<< (i &&& 31)) ||| (8192 : Int32))), .unset, .unset, .unset] [(.int (4095 : Int32)), (.int p1)])) _
        refine XS.iand X0.here hx rfl (hb hby at_73) rfl ?_
        show Steps p.tables e below (s₁.setTop (mkF m 74 #[.val (.int p0), .val (.int p1), .val (.int p2), .val (.int i), .val (.int (1 : Int32)), .val (.int (0 : Int32)), .val (.int ((1 : Int32) <<< (i &&& 31))), .val (.int (((1 : Int32) <<< (i &&& 31)) ||| (8192 : Int32))), .unset, .unset, .unset] [(.int (p1 &&& (4095 : Int32)))])) _
        refine XS.istore X0.here hx rfl (hb hby at_74) rfl (l' := #[.val (.int p0), .val (.int p1), .val (.int p2), .val (.int i), .val (.int (1 : Int32)), .val (.int (0 : Int32)), .val (.int ((1 : Int32) <<< (i &&& 31))), .val (.int (((1 : Int32) <<< (i &&& 31)) ||| (8192 : Int32))), .val (.int (p1 &&& (4095 : Int32))), .unset, .unset]) rfl ?_
        show Steps p.tables e below (s₁.setTop (mkF m 76 #[.val (.int p0), .val (.int p1), .val (.int p2), .val (.int i), .val (.int (1 : Int32)), .val (.int (0 : Int32)), .val (.int ((1 : Int32) <<< (i &&& 31))), .val (.int (((1 : Int32) <<< (i &&& 31)) ||| (8192 : Int32))), .val (.int (p1 &&& (4095 : Int32))), .unset, .unset] [])) _
        refine XS.iload X0.here hx rfl (hb hby at_76) rfl ?_
        show Steps p.tables e below (s₁.setTop (mkF m 78 #[.val (.int p0), .val (.int p1), .val (.int p2), .val (.int i), .val (.int (1 : Int32)), .val (.int (0 : Int32)), .val (.int ((1 : Int32) <<< (i &&& 31))), .val (.int (((1 : Int32) <<< (i &&& 31)) ||| (8192 : Int32))), .val (.int (p1 &&& (4095 : Int32))), .unset, .unset] [(.int (p1 &&& (4095 : Int32)))])) _
        refine XS.iloadN X0.here hx rfl (hb hby at_78) rfl ?_
        show Steps p.tables e below (s₁.setTop (mkF m 79 #[.val (.int p0), .val (.int p1), .val (.int p2), .val (.int i), .val (.int (1 : Int32)), .val (.int (0 : Int32)), .val (.int ((1 : Int32) <<< (i &&& 31))), .val (.int (((1 : Int32) <<< (i &&& 31)) ||| (8192 : Int32))), .val (.int (p1 &&& (4095 : Int32))), .unset, .unset] [(.int i), (.int (p1 &&& (4095 : Int32)))])) _
        refine XS.iushr X0.here hx rfl (hb hby at_79) rfl ?_
        show Steps p.tables e below (s₁.setTop (mkF m 80 #[.val (.int p0), .val (.int p1), .val (.int p2), .val (.int i), .val (.int (1 : Int32)), .val (.int (0 : Int32)), .val (.int ((1 : Int32) <<< (i &&& 31))), .val (.int (((1 : Int32) <<< (i &&& 31)) ||| (8192 : Int32))), .val (.int (p1 &&& (4095 : Int32))), .unset, .unset] [(.int (((p1 &&& (4095 : Int32)).toUInt32 >>> (i &&& 31).toUInt32).toInt32))])) _
        refine XS.iconst X0.here hx rfl (hb hby at_80) ?_
        show Steps p.tables e below (s₁.setTop (mkF m 81 #[.val (.int p0), .val (.int p1), .val (.int p2), .val (.int i), .val (.int (1 : Int32)), .val (.int (0 : Int32)), .val (.int ((1 : Int32) <<< (i &&& 31))), .val (.int (((1 : Int32) <<< (i &&& 31)) ||| (8192 : Int32))), .val (.int (p1 &&& (4095 : Int32))), .unset, .unset] [(.int (1 : Int32)), (.int (((p1 &&& (4095 : Int32)).toUInt32 >>> (i &&& 31).toUInt32).toInt32))])) _
        refine XS.iand X0.here hx rfl (hb hby at_81) rfl ?_
        show Steps p.tables e below (s₁.setTop (mkF m 82 #[.val (.int p0), .val (.int p1), .val (.int p2), .val (.int i), .val (.int (1 : Int32)), .val (.int (0 : Int32)), .val (.int ((1 : Int32) <<< (i &&& 31))), .val (.int (((1 : Int32) <<< (i &&& 31)) ||| (8192 : Int32))), .val (.int (p1 &&& (4095 : Int32))), .unset, .unset] [(.int ((((p1 &&& (4095 : Int32)).toUInt32 >>> (i &&& 31).toUInt32).toInt32) &&& (1 : Int32)))])) _
        refine XS.iconst X0.here hx rfl (hb hby at_82) ?_
        exact kt
      by_cases hc83 : ((((p1 &&& (4095 : Int32)).toUInt32 >>> (i &&& 31).toUInt32).toInt32) &&& (1 : Int32)) = (1 : Int32)
      · refine own_via (A' := s₁.setTop (mkF m 86 #[.val (.int p0), .val (.int p1), .val (.int p2), .val (.int i), .val (.int (1 : Int32)), .val (.int (0 : Int32)), .val (.int ((1 : Int32) <<< (i &&& 31))), .val (.int (((1 : Int32) <<< (i &&& 31)) ||| (8192 : Int32))), .val (.int (p1 &&& (4095 : Int32))), .unset, .unset] [])) (fun target kt => XS.icmpNo X0.here hx rfl (hb hby at_83) rfl (teq hc83).2 kt) ?_
        refine own_via (A' := s₁.setTop (mkF m 95 #[.val (.int p0), .val (.int p1), .val (.int p2), .val (.int i), .val (.int (1 : Int32)), .val (.int (0 : Int32)), .val (.int ((1 : Int32) <<< (i &&& 31))), .val (.int (((1 : Int32) <<< (i &&& 31)) ||| (8192 : Int32))), .val (.int (p1 &&& (4095 : Int32))), .val (.int (1 : Int32)), .unset] [(.int (0 : Int32))])) (fun target kt => ?_) ?_
        · show Steps p.tables e below (s₁.setTop (mkF m 86 #[.val (.int p0), .val (.int p1), .val (.int p2), .val (.int i), .val (.int (1 : Int32)), .val (.int (0 : Int32)), .val (.int ((1 : Int32) <<< (i &&& 31))), .val (.int (((1 : Int32) <<< (i &&& 31)) ||| (8192 : Int32))), .val (.int (p1 &&& (4095 : Int32))), .unset, .unset] [])) _
          refine XS.iconst X0.here hx rfl (hb hby at_86) ?_
          show Steps p.tables e below (s₁.setTop (mkF m 87 #[.val (.int p0), .val (.int p1), .val (.int p2), .val (.int i), .val (.int (1 : Int32)), .val (.int (0 : Int32)), .val (.int ((1 : Int32) <<< (i &&& 31))), .val (.int (((1 : Int32) <<< (i &&& 31)) ||| (8192 : Int32))), .val (.int (p1 &&& (4095 : Int32))), .unset, .unset] [(.int (1 : Int32))])) _
          refine XS.goto X0.here hx rfl (pc0 := 87) (pc' := 91) rfl (hb hby at_87) (by decide) (by decide) ?_
          show Steps p.tables e below (s₁.setTop (mkF m 91 #[.val (.int p0), .val (.int p1), .val (.int p2), .val (.int i), .val (.int (1 : Int32)), .val (.int (0 : Int32)), .val (.int ((1 : Int32) <<< (i &&& 31))), .val (.int (((1 : Int32) <<< (i &&& 31)) ||| (8192 : Int32))), .val (.int (p1 &&& (4095 : Int32))), .unset, .unset] [(.int (1 : Int32))])) _
          refine XS.istore X0.here hx rfl (hb hby at_91) rfl (l' := #[.val (.int p0), .val (.int p1), .val (.int p2), .val (.int i), .val (.int (1 : Int32)), .val (.int (0 : Int32)), .val (.int ((1 : Int32) <<< (i &&& 31))), .val (.int (((1 : Int32) <<< (i &&& 31)) ||| (8192 : Int32))), .val (.int (p1 &&& (4095 : Int32))), .val (.int (1 : Int32)), .unset]) rfl ?_
          show Steps p.tables e below (s₁.setTop (mkF m 93 #[.val (.int p0), .val (.int p1), .val (.int p2), .val (.int i), .val (.int (1 : Int32)), .val (.int (0 : Int32)), .val (.int ((1 : Int32) <<< (i &&& 31))), .val (.int (((1 : Int32) <<< (i &&& 31)) ||| (8192 : Int32))), .val (.int (p1 &&& (4095 : Int32))), .val (.int (1 : Int32)), .unset] [])) _
          refine XS.iload X0.here hx rfl (hb hby at_93) rfl ?_
          exact kt
        refine own_via (A' := s₁.setTop (mkF m 98 #[.val (.int p0), .val (.int p1), .val (.int p2), .val (.int i), .val (.int (1 : Int32)), .val (.int (0 : Int32)), .val (.int ((1 : Int32) <<< (i &&& 31))), .val (.int (((1 : Int32) <<< (i &&& 31)) ||| (8192 : Int32))), .val (.int (p1 &&& (4095 : Int32))), .val (.int (1 : Int32)), .unset] [])) (fun target kt => XS.ifNo X0.here hx rfl (hb hby at_95) rfl ((if0 _ _).trans (teq ((by decide) : (0 : Int32) = (0 : Int32))).2) kt) ?_
        refine own_via (A' := s₁.setTop (mkF m 100 #[.val (.int p0), .val (.int p1), .val (.int p2), .val (.int i), .val (.int (1 : Int32)), .val (.int (0 : Int32)), .val (.int ((1 : Int32) <<< (i &&& 31))), .val (.int (((1 : Int32) <<< (i &&& 31)) ||| (8192 : Int32))), .val (.int (p1 &&& (4095 : Int32))), .val (.int (1 : Int32)), .unset] [(.int (1 : Int32))])) (fun target kt => ?_) ?_
        · show Steps p.tables e below (s₁.setTop (mkF m 98 #[.val (.int p0), .val (.int p1), .val (.int p2), .val (.int i), .val (.int (1 : Int32)), .val (.int (0 : Int32)), .val (.int ((1 : Int32) <<< (i &&& 31))), .val (.int (((1 : Int32) <<< (i &&& 31)) ||| (8192 : Int32))), .val (.int (p1 &&& (4095 : Int32))), .val (.int (1 : Int32)), .unset] [])) _
          refine XS.iload X0.here hx rfl (hb hby at_98) rfl ?_
          exact kt
        refine own_via (A' := s₁.setTop (mkF m 103 #[.val (.int p0), .val (.int p1), .val (.int p2), .val (.int i), .val (.int (1 : Int32)), .val (.int (0 : Int32)), .val (.int ((1 : Int32) <<< (i &&& 31))), .val (.int (((1 : Int32) <<< (i &&& 31)) ||| (8192 : Int32))), .val (.int (p1 &&& (4095 : Int32))), .val (.int (1 : Int32)), .unset] [])) (fun target kt => XS.ifNo X0.here hx rfl (hb hby at_100) rfl ((if0 _ _).trans (feq ((by decide) : ¬ ((1 : Int32) = (0 : Int32)))).1) kt) ?_
        refine own_via (A' := s₁.setTop (mkF m 105 #[.val (.int p0), .val (.int p1), .val (.int p2), .val (.int i), .val (.int (1 : Int32)), .val (.int (0 : Int32)), .val (.int ((1 : Int32) <<< (i &&& 31))), .val (.int (((1 : Int32) <<< (i &&& 31)) ||| (8192 : Int32))), .val (.int (p1 &&& (4095 : Int32))), .val (.int (1 : Int32)), .unset] [(.int (1 : Int32))])) (fun target kt => ?_) ?_
        · show Steps p.tables e below (s₁.setTop (mkF m 103 #[.val (.int p0), .val (.int p1), .val (.int p2), .val (.int i), .val (.int (1 : Int32)), .val (.int (0 : Int32)), .val (.int ((1 : Int32) <<< (i &&& 31))), .val (.int (((1 : Int32) <<< (i &&& 31)) ||| (8192 : Int32))), .val (.int (p1 &&& (4095 : Int32))), .val (.int (1 : Int32)), .unset] [])) _
          refine XS.iload X0.here hx rfl (hb hby at_103) rfl ?_
          exact kt
        refine own_via (A' := s₁.setTop (mkF m 120 #[.val (.int p0), .val (.int p1), .val (.int p2), .val (.int i), .val (.int (1 : Int32)), .val (.int (0 : Int32)), .val (.int ((1 : Int32) <<< (i &&& 31))), .val (.int (((1 : Int32) <<< (i &&& 31)) ||| (8192 : Int32))), .val (.int (p1 &&& (4095 : Int32))), .val (.int (1 : Int32)), .unset] [])) (fun target kt => XS.ifYes X0.here hx rfl (pc0 := 105) (pc' := 120) rfl (hb hby at_105) rfl ((if0 _ _).trans (feq ((by decide) : ¬ ((1 : Int32) = (0 : Int32)))).2) (by decide) (by decide) kt) ?_
        refine own_via (A' := s₁.setTop (mkF m 127 #[.val (.int p0), .val (.int p1), .val (.int p2), .val (.int i), .val (.int (1 : Int32)), .val (.int (0 : Int32)), .val (.int ((1 : Int32) <<< (i &&& 31))), .val (.int (((1 : Int32) <<< (i &&& 31)) ||| (8192 : Int32))), .val (.int (p1 &&& (4095 : Int32))), .val (.int (1 : Int32)), .val (.int (0 : Int32))] [(.int (p1 &&& (4095 : Int32))), (.int (((1 : Int32) <<< (i &&& 31)) ||| (8192 : Int32)))])) (fun target kt => ?_) ?_
        · show Steps p.tables e below (s₁.setTop (mkF m 120 #[.val (.int p0), .val (.int p1), .val (.int p2), .val (.int i), .val (.int (1 : Int32)), .val (.int (0 : Int32)), .val (.int ((1 : Int32) <<< (i &&& 31))), .val (.int (((1 : Int32) <<< (i &&& 31)) ||| (8192 : Int32))), .val (.int (p1 &&& (4095 : Int32))), .val (.int (1 : Int32)), .unset] [])) _
          refine XS.iconst X0.here hx rfl (hb hby at_120) ?_
          show Steps p.tables e below (s₁.setTop (mkF m 121 #[.val (.int p0), .val (.int p1), .val (.int p2), .val (.int i), .val (.int (1 : Int32)), .val (.int (0 : Int32)), .val (.int ((1 : Int32) <<< (i &&& 31))), .val (.int (((1 : Int32) <<< (i &&& 31)) ||| (8192 : Int32))), .val (.int (p1 &&& (4095 : Int32))), .val (.int (1 : Int32)), .unset] [(.int (0 : Int32))])) _
          refine XS.istore X0.here hx rfl (hb hby at_121) rfl (l' := #[.val (.int p0), .val (.int p1), .val (.int p2), .val (.int i), .val (.int (1 : Int32)), .val (.int (0 : Int32)), .val (.int ((1 : Int32) <<< (i &&& 31))), .val (.int (((1 : Int32) <<< (i &&& 31)) ||| (8192 : Int32))), .val (.int (p1 &&& (4095 : Int32))), .val (.int (1 : Int32)), .val (.int (0 : Int32))]) rfl ?_
          show Steps p.tables e below (s₁.setTop (mkF m 123 #[.val (.int p0), .val (.int p1), .val (.int p2), .val (.int i), .val (.int (1 : Int32)), .val (.int (0 : Int32)), .val (.int ((1 : Int32) <<< (i &&& 31))), .val (.int (((1 : Int32) <<< (i &&& 31)) ||| (8192 : Int32))), .val (.int (p1 &&& (4095 : Int32))), .val (.int (1 : Int32)), .val (.int (0 : Int32))] [])) _
          refine XS.iload X0.here hx rfl (hb hby at_123) rfl ?_
          show Steps p.tables e below (s₁.setTop (mkF m 125 #[.val (.int p0), .val (.int p1), .val (.int p2), .val (.int i), .val (.int (1 : Int32)), .val (.int (0 : Int32)), .val (.int ((1 : Int32) <<< (i &&& 31))), .val (.int (((1 : Int32) <<< (i &&& 31)) ||| (8192 : Int32))), .val (.int (p1 &&& (4095 : Int32))), .val (.int (1 : Int32)), .val (.int (0 : Int32))] [(.int (((1 : Int32) <<< (i &&& 31)) ||| (8192 : Int32)))])) _
          refine XS.iload X0.here hx rfl (hb hby at_125) rfl ?_
          exact kt
        obtain ⟨_, _, ⟨T7, L7, k7, n7⟩, -, X7, ⟨Lc7, hQ7, l7, y7, z7⟩, st7⟩ := Jvm.LawKit.callS X0 hx (y := (⟨"holdfast/Context", "holds", "(II)Z"⟩ : MethodName)) hown (mvT hZ (hw _ (List.mem_of_getElem? (i := 1) rfl))) (mvT hZ (hw _ (List.mem_of_getElem? (i := 2) rfl))) (mvT hZ (hw _ (List.mem_of_getElem? (i := 3) rfl))) (mvT hZ (hw _ (List.mem_of_getElem? (i := 4) rfl))) (by decide) (backOf (W := 0) (rm1 l Z a0 hw [] (((1 : Int32) <<< (i &&& 31)) ||| (8192 : Int32)) (p1 &&& (4095 : Int32))  h0 n0 Z0 ) hZ (hw _ (List.mem_of_getElem? (i := 4) rfl)) (hw _ (List.mem_of_getElem? (i := 3) rfl)) (by decide) (by decide)) (g := (mkF m 127 #[.val (.int p0), .val (.int p1), .val (.int p2), .val (.int i), .val (.int (1 : Int32)), .val (.int (0 : Int32)), .val (.int ((1 : Int32) <<< (i &&& 31))), .val (.int (((1 : Int32) <<< (i &&& 31)) ||| (8192 : Int32))), .val (.int (p1 &&& (4095 : Int32))), .val (.int (1 : Int32)), .val (.int (0 : Int32))] [(.int (p1 &&& (4095 : Int32))), (.int (((1 : Int32) <<< (i &&& 31)) ||| (8192 : Int32)))])) rfl (by rw [hml]; rfl) (argsL := [(.int (((1 : Int32) <<< (i &&& 31)) ||| (8192 : Int32))), (.int (p1 &&& (4095 : Int32)))]) (rest := []) (lenOf pd_0_0 rfl) rfl (by show 2 * 0 + _ ≤ _; exact Nat.le_of_eq rfl) (hb hby at_127) (fun _ _ => ⟨rfl, e0, (by decide : 0 + 0 ≤ _), (by decide : 0 + 0 ≤ _)⟩)
        dsimp only [Pt.U, Pt.locs, Pt.cells, Pt.slots] at X7 l7 y7 z7 st7 hQ7
        subst l7 y7 z7
        obtain ⟨rfl, N7q, e7⟩ := hQ7
        have N7 := Fr.app N0 N7q
        refine own_via (A' := T7.setTop (mkF m 130 #[.val (.int p0), .val (.int p1), .val (.int p2), .val (.int i), .val (.int (1 : Int32)), .val (.int (0 : Int32)), .val (.int ((1 : Int32) <<< (i &&& 31))), .val (.int (((1 : Int32) <<< (i &&& 31)) ||| (8192 : Int32))), .val (.int (p1 &&& (4095 : Int32))), .val (.int (1 : Int32)), .val (.int (0 : Int32))] [(.int (own_holds (((1 : Int32) <<< (i &&& 31)) ||| (8192 : Int32)) (p1 &&& (4095 : Int32))))])) st7 ?_
        refine own_via (A' := T7.setTop (mkF m 132 #[.val (.int p0), .val (.int p1), .val (.int p2), .val (.int i), .val (.int (1 : Int32)), .val (.int (0 : Int32)), .val (.int ((1 : Int32) <<< (i &&& 31))), .val (.int (((1 : Int32) <<< (i &&& 31)) ||| (8192 : Int32))), .val (.int (p1 &&& (4095 : Int32))), .val (.int (1 : Int32)), .val (.int (0 : Int32))] [(.int (0 : Int32)), (.int (own_holds (((1 : Int32) <<< (i &&& 31)) ||| (8192 : Int32)) (p1 &&& (4095 : Int32))))])) (fun target kt => ?_) ?_
        · show Steps p.tables e below (T7.setTop (mkF m 130 #[.val (.int p0), .val (.int p1), .val (.int p2), .val (.int i), .val (.int (1 : Int32)), .val (.int (0 : Int32)), .val (.int ((1 : Int32) <<< (i &&& 31))), .val (.int (((1 : Int32) <<< (i &&& 31)) ||| (8192 : Int32))), .val (.int (p1 &&& (4095 : Int32))), .val (.int (1 : Int32)), .val (.int (0 : Int32))] [(.int (own_holds (((1 : Int32) <<< (i &&& 31)) ||| (8192 : Int32)) (p1 &&& (4095 : Int32))))])) _
          refine XS.iload X7.here hx rfl (hb hby at_130) rfl ?_
          exact kt
        refine own_via (A' := T7.setTop (mkF m 135 #[.val (.int p0), .val (.int p1), .val (.int p2), .val (.int i), .val (.int (1 : Int32)), .val (.int (0 : Int32)), .val (.int ((1 : Int32) <<< (i &&& 31))), .val (.int (((1 : Int32) <<< (i &&& 31)) ||| (8192 : Int32))), .val (.int (p1 &&& (4095 : Int32))), .val (.int (1 : Int32)), .val (.int (0 : Int32))] [])) (fun target kt => XS.icmpNo X7.here hx rfl (hb hby at_132) rfl (teq ((own_neg hi own_x).trans (if_pos hc83) : (own_holds (((1 : Int32) <<< (i &&& 31)) ||| (8192 : Int32)) (p1 &&& (4095 : Int32))) = (0 : Int32))).2 kt) ?_
        refine own_via (A' := T7.setTop (mkF m 140 #[.val (.int p0), .val (.int p1), .val (.int p2), .val (.int i), .val (.int (1 : Int32)), .val (.int (0 : Int32)), .val (.int ((1 : Int32) <<< (i &&& 31))), .val (.int (((1 : Int32) <<< (i &&& 31)) ||| (8192 : Int32))), .val (.int (p1 &&& (4095 : Int32))), .val (.int (1 : Int32)), .val (.int (0 : Int32))] [(.int (1 : Int32))])) (fun target kt => ?_) ?_
        · show Steps p.tables e below (T7.setTop (mkF m 135 #[.val (.int p0), .val (.int p1), .val (.int p2), .val (.int i), .val (.int (1 : Int32)), .val (.int (0 : Int32)), .val (.int ((1 : Int32) <<< (i &&& 31))), .val (.int (((1 : Int32) <<< (i &&& 31)) ||| (8192 : Int32))), .val (.int (p1 &&& (4095 : Int32))), .val (.int (1 : Int32)), .val (.int (0 : Int32))] [])) _
          refine XS.iconst X7.here hx rfl (hb hby at_135) ?_
          show Steps p.tables e below (T7.setTop (mkF m 136 #[.val (.int p0), .val (.int p1), .val (.int p2), .val (.int i), .val (.int (1 : Int32)), .val (.int (0 : Int32)), .val (.int ((1 : Int32) <<< (i &&& 31))), .val (.int (((1 : Int32) <<< (i &&& 31)) ||| (8192 : Int32))), .val (.int (p1 &&& (4095 : Int32))), .val (.int (1 : Int32)), .val (.int (0 : Int32))] [(.int (1 : Int32))])) _
          refine XS.goto X7.here hx rfl (pc0 := 136) (pc' := 140) rfl (hb hby at_136) (by decide) (by decide) ?_
          exact kt
        exact own_retN X7 Bd.notSynchronized hx (t := .boolean) Bd.returns (by simp) (hb hby at_140) (show Q0 Z p0 p1 p2 h0 n0 _ _ _ from ⟨rfl, N7⟩) (by decide) (by decide)
      · refine own_via (A' := s₁.setTop (mkF m 90 #[.val (.int p0), .val (.int p1), .val (.int p2), .val (.int i), .val (.int (1 : Int32)), .val (.int (0 : Int32)), .val (.int ((1 : Int32) <<< (i &&& 31))), .val (.int (((1 : Int32) <<< (i &&& 31)) ||| (8192 : Int32))), .val (.int (p1 &&& (4095 : Int32))), .unset, .unset] [])) (fun target kt => XS.icmpYes X0.here hx rfl (pc0 := 83) (pc' := 90) rfl (hb hby at_83) rfl (feq hc83).2 (by decide) (by decide) kt) ?_
        refine own_via (A' := s₁.setTop (mkF m 95 #[.val (.int p0), .val (.int p1), .val (.int p2), .val (.int i), .val (.int (1 : Int32)), .val (.int (0 : Int32)), .val (.int ((1 : Int32) <<< (i &&& 31))), .val (.int (((1 : Int32) <<< (i &&& 31)) ||| (8192 : Int32))), .val (.int (p1 &&& (4095 : Int32))), .val (.int (0 : Int32)), .unset] [(.int (0 : Int32))])) (fun target kt => ?_) ?_
        · show Steps p.tables e below (s₁.setTop (mkF m 90 #[.val (.int p0), .val (.int p1), .val (.int p2), .val (.int i), .val (.int (1 : Int32)), .val (.int (0 : Int32)), .val (.int ((1 : Int32) <<< (i &&& 31))), .val (.int (((1 : Int32) <<< (i &&& 31)) ||| (8192 : Int32))), .val (.int (p1 &&& (4095 : Int32))), .unset, .unset] [])) _
          refine XS.iconst X0.here hx rfl (hb hby at_90) ?_
          show Steps p.tables e below (s₁.setTop (mkF m 91 #[.val (.int p0), .val (.int p1), .val (.int p2), .val (.int i), .val (.int (1 : Int32)), .val (.int (0 : Int32)), .val (.int ((1 : Int32) <<< (i &&& 31))), .val (.int (((1 : Int32) <<< (i &&& 31)) ||| (8192 : Int32))), .val (.int (p1 &&& (4095 : Int32))), .unset, .unset] [(.int (0 : Int32))])) _
          refine XS.istore X0.here hx rfl (hb hby at_91) rfl (l' := #[.val (.int p0), .val (.int p1), .val (.int p2), .val (.int i), .val (.int (1 : Int32)), .val (.int (0 : Int32)), .val (.int ((1 : Int32) <<< (i &&& 31))), .val (.int (((1 : Int32) <<< (i &&& 31)) ||| (8192 : Int32))), .val (.int (p1 &&& (4095 : Int32))), .val (.int (0 : Int32)), .unset]) rfl ?_
          show Steps p.tables e below (s₁.setTop (mkF m 93 #[.val (.int p0), .val (.int p1), .val (.int p2), .val (.int i), .val (.int (1 : Int32)), .val (.int (0 : Int32)), .val (.int ((1 : Int32) <<< (i &&& 31))), .val (.int (((1 : Int32) <<< (i &&& 31)) ||| (8192 : Int32))), .val (.int (p1 &&& (4095 : Int32))), .val (.int (0 : Int32)), .unset] [])) _
          refine XS.iload X0.here hx rfl (hb hby at_93) rfl ?_
          exact kt
        refine own_via (A' := s₁.setTop (mkF m 98 #[.val (.int p0), .val (.int p1), .val (.int p2), .val (.int i), .val (.int (1 : Int32)), .val (.int (0 : Int32)), .val (.int ((1 : Int32) <<< (i &&& 31))), .val (.int (((1 : Int32) <<< (i &&& 31)) ||| (8192 : Int32))), .val (.int (p1 &&& (4095 : Int32))), .val (.int (0 : Int32)), .unset] [])) (fun target kt => XS.ifNo X0.here hx rfl (hb hby at_95) rfl ((if0 _ _).trans (teq ((by decide) : (0 : Int32) = (0 : Int32))).2) kt) ?_
        refine own_via (A' := s₁.setTop (mkF m 100 #[.val (.int p0), .val (.int p1), .val (.int p2), .val (.int i), .val (.int (1 : Int32)), .val (.int (0 : Int32)), .val (.int ((1 : Int32) <<< (i &&& 31))), .val (.int (((1 : Int32) <<< (i &&& 31)) ||| (8192 : Int32))), .val (.int (p1 &&& (4095 : Int32))), .val (.int (0 : Int32)), .unset] [(.int (1 : Int32))])) (fun target kt => ?_) ?_
        · show Steps p.tables e below (s₁.setTop (mkF m 98 #[.val (.int p0), .val (.int p1), .val (.int p2), .val (.int i), .val (.int (1 : Int32)), .val (.int (0 : Int32)), .val (.int ((1 : Int32) <<< (i &&& 31))), .val (.int (((1 : Int32) <<< (i &&& 31)) ||| (8192 : Int32))), .val (.int (p1 &&& (4095 : Int32))), .val (.int (0 : Int32)), .unset] [])) _
          refine XS.iload X0.here hx rfl (hb hby at_98) rfl ?_
          exact kt
        refine own_via (A' := s₁.setTop (mkF m 103 #[.val (.int p0), .val (.int p1), .val (.int p2), .val (.int i), .val (.int (1 : Int32)), .val (.int (0 : Int32)), .val (.int ((1 : Int32) <<< (i &&& 31))), .val (.int (((1 : Int32) <<< (i &&& 31)) ||| (8192 : Int32))), .val (.int (p1 &&& (4095 : Int32))), .val (.int (0 : Int32)), .unset] [])) (fun target kt => XS.ifNo X0.here hx rfl (hb hby at_100) rfl ((if0 _ _).trans (feq ((by decide) : ¬ ((1 : Int32) = (0 : Int32)))).1) kt) ?_
        refine own_via (A' := s₁.setTop (mkF m 105 #[.val (.int p0), .val (.int p1), .val (.int p2), .val (.int i), .val (.int (1 : Int32)), .val (.int (0 : Int32)), .val (.int ((1 : Int32) <<< (i &&& 31))), .val (.int (((1 : Int32) <<< (i &&& 31)) ||| (8192 : Int32))), .val (.int (p1 &&& (4095 : Int32))), .val (.int (0 : Int32)), .unset] [(.int (0 : Int32))])) (fun target kt => ?_) ?_
        · show Steps p.tables e below (s₁.setTop (mkF m 103 #[.val (.int p0), .val (.int p1), .val (.int p2), .val (.int i), .val (.int (1 : Int32)), .val (.int (0 : Int32)), .val (.int ((1 : Int32) <<< (i &&& 31))), .val (.int (((1 : Int32) <<< (i &&& 31)) ||| (8192 : Int32))), .val (.int (p1 &&& (4095 : Int32))), .val (.int (0 : Int32)), .unset] [])) _
          refine XS.iload X0.here hx rfl (hb hby at_103) rfl ?_
          exact kt
        refine own_via (A' := s₁.setTop (mkF m 108 #[.val (.int p0), .val (.int p1), .val (.int p2), .val (.int i), .val (.int (1 : Int32)), .val (.int (0 : Int32)), .val (.int ((1 : Int32) <<< (i &&& 31))), .val (.int (((1 : Int32) <<< (i &&& 31)) ||| (8192 : Int32))), .val (.int (p1 &&& (4095 : Int32))), .val (.int (0 : Int32)), .unset] [])) (fun target kt => XS.ifNo X0.here hx rfl (hb hby at_105) rfl ((if0 _ _).trans (teq ((by decide) : (0 : Int32) = (0 : Int32))).2) kt) ?_
        refine own_via (A' := s₁.setTop (mkF m 127 #[.val (.int p0), .val (.int p1), .val (.int p2), .val (.int i), .val (.int (1 : Int32)), .val (.int (0 : Int32)), .val (.int ((1 : Int32) <<< (i &&& 31))), .val (.int (((1 : Int32) <<< (i &&& 31)) ||| (8192 : Int32))), .val (.int (p1 &&& (4095 : Int32))), .val (.int (0 : Int32)), .val (.int (1 : Int32))] [(.int (p1 &&& (4095 : Int32))), (.int (((1 : Int32) <<< (i &&& 31)) ||| (8192 : Int32)))])) (fun target kt => ?_) ?_
        · show Steps p.tables e below (s₁.setTop (mkF m 108 #[.val (.int p0), .val (.int p1), .val (.int p2), .val (.int i), .val (.int (1 : Int32)), .val (.int (0 : Int32)), .val (.int ((1 : Int32) <<< (i &&& 31))), .val (.int (((1 : Int32) <<< (i &&& 31)) ||| (8192 : Int32))), .val (.int (p1 &&& (4095 : Int32))), .val (.int (0 : Int32)), .unset] [])) _
          refine XS.goto X0.here hx rfl (pc0 := 108) (pc' := 116) rfl (hb hby at_108) (by decide) (by decide) ?_
          show Steps p.tables e below (s₁.setTop (mkF m 116 #[.val (.int p0), .val (.int p1), .val (.int p2), .val (.int i), .val (.int (1 : Int32)), .val (.int (0 : Int32)), .val (.int ((1 : Int32) <<< (i &&& 31))), .val (.int (((1 : Int32) <<< (i &&& 31)) ||| (8192 : Int32))), .val (.int (p1 &&& (4095 : Int32))), .val (.int (0 : Int32)), .unset] [])) _
          refine XS.iconst X0.here hx rfl (hb hby at_116) ?_
          show Steps p.tables e below (s₁.setTop (mkF m 117 #[.val (.int p0), .val (.int p1), .val (.int p2), .val (.int i), .val (.int (1 : Int32)), .val (.int (0 : Int32)), .val (.int ((1 : Int32) <<< (i &&& 31))), .val (.int (((1 : Int32) <<< (i &&& 31)) ||| (8192 : Int32))), .val (.int (p1 &&& (4095 : Int32))), .val (.int (0 : Int32)), .unset] [(.int (1 : Int32))])) _
          refine XS.goto X0.here hx rfl (pc0 := 117) (pc' := 121) rfl (hb hby at_117) (by decide) (by decide) ?_
          show Steps p.tables e below (s₁.setTop (mkF m 121 #[.val (.int p0), .val (.int p1), .val (.int p2), .val (.int i), .val (.int (1 : Int32)), .val (.int (0 : Int32)), .val (.int ((1 : Int32) <<< (i &&& 31))), .val (.int (((1 : Int32) <<< (i &&& 31)) ||| (8192 : Int32))), .val (.int (p1 &&& (4095 : Int32))), .val (.int (0 : Int32)), .unset] [(.int (1 : Int32))])) _
          refine XS.istore X0.here hx rfl (hb hby at_121) rfl (l' := #[.val (.int p0), .val (.int p1), .val (.int p2), .val (.int i), .val (.int (1 : Int32)), .val (.int (0 : Int32)), .val (.int ((1 : Int32) <<< (i &&& 31))), .val (.int (((1 : Int32) <<< (i &&& 31)) ||| (8192 : Int32))), .val (.int (p1 &&& (4095 : Int32))), .val (.int (0 : Int32)), .val (.int (1 : Int32))]) rfl ?_
          show Steps p.tables e below (s₁.setTop (mkF m 123 #[.val (.int p0), .val (.int p1), .val (.int p2), .val (.int i), .val (.int (1 : Int32)), .val (.int (0 : Int32)), .val (.int ((1 : Int32) <<< (i &&& 31))), .val (.int (((1 : Int32) <<< (i &&& 31)) ||| (8192 : Int32))), .val (.int (p1 &&& (4095 : Int32))), .val (.int (0 : Int32)), .val (.int (1 : Int32))] [])) _
          refine XS.iload X0.here hx rfl (hb hby at_123) rfl ?_
          show Steps p.tables e below (s₁.setTop (mkF m 125 #[.val (.int p0), .val (.int p1), .val (.int p2), .val (.int i), .val (.int (1 : Int32)), .val (.int (0 : Int32)), .val (.int ((1 : Int32) <<< (i &&& 31))), .val (.int (((1 : Int32) <<< (i &&& 31)) ||| (8192 : Int32))), .val (.int (p1 &&& (4095 : Int32))), .val (.int (0 : Int32)), .val (.int (1 : Int32))] [(.int (((1 : Int32) <<< (i &&& 31)) ||| (8192 : Int32)))])) _
          refine XS.iload X0.here hx rfl (hb hby at_125) rfl ?_
          exact kt
        obtain ⟨_, _, ⟨T8, L8, k8, n8⟩, -, X8, ⟨Lc8, hQ8, l8, y8, z8⟩, st8⟩ := Jvm.LawKit.callS X0 hx (y := (⟨"holdfast/Context", "holds", "(II)Z"⟩ : MethodName)) hown (mvT hZ (hw _ (List.mem_of_getElem? (i := 1) rfl))) (mvT hZ (hw _ (List.mem_of_getElem? (i := 2) rfl))) (mvT hZ (hw _ (List.mem_of_getElem? (i := 3) rfl))) (mvT hZ (hw _ (List.mem_of_getElem? (i := 4) rfl))) (by decide) (backOf (W := 0) (rm1 l Z a0 hw [] (((1 : Int32) <<< (i &&& 31)) ||| (8192 : Int32)) (p1 &&& (4095 : Int32))  h0 n0 Z0 ) hZ (hw _ (List.mem_of_getElem? (i := 4) rfl)) (hw _ (List.mem_of_getElem? (i := 3) rfl)) (by decide) (by decide)) (g := (mkF m 127 #[.val (.int p0), .val (.int p1), .val (.int p2), .val (.int i), .val (.int (1 : Int32)), .val (.int (0 : Int32)), .val (.int ((1 : Int32) <<< (i &&& 31))), .val (.int (((1 : Int32) <<< (i &&& 31)) ||| (8192 : Int32))), .val (.int (p1 &&& (4095 : Int32))), .val (.int (0 : Int32)), .val (.int (1 : Int32))] [(.int (p1 &&& (4095 : Int32))), (.int (((1 : Int32) <<< (i &&& 31)) ||| (8192 : Int32)))])) rfl (by rw [hml]; rfl) (argsL := [(.int (((1 : Int32) <<< (i &&& 31)) ||| (8192 : Int32))), (.int (p1 &&& (4095 : Int32)))]) (rest := []) (lenOf pd_0_0 rfl) rfl (by show 2 * 0 + _ ≤ _; exact Nat.le_of_eq rfl) (hb hby at_127) (fun _ _ => ⟨rfl, e0, (by decide : 0 + 0 ≤ _), (by decide : 0 + 0 ≤ _)⟩)
        dsimp only [Pt.U, Pt.locs, Pt.cells, Pt.slots] at X8 l8 y8 z8 st8 hQ8
        subst l8 y8 z8
        obtain ⟨rfl, N8q, e8⟩ := hQ8
        have N8 := Fr.app N0 N8q
        refine own_via (A' := T8.setTop (mkF m 130 #[.val (.int p0), .val (.int p1), .val (.int p2), .val (.int i), .val (.int (1 : Int32)), .val (.int (0 : Int32)), .val (.int ((1 : Int32) <<< (i &&& 31))), .val (.int (((1 : Int32) <<< (i &&& 31)) ||| (8192 : Int32))), .val (.int (p1 &&& (4095 : Int32))), .val (.int (0 : Int32)), .val (.int (1 : Int32))] [(.int (own_holds (((1 : Int32) <<< (i &&& 31)) ||| (8192 : Int32)) (p1 &&& (4095 : Int32))))])) st8 ?_
        refine own_via (A' := T8.setTop (mkF m 132 #[.val (.int p0), .val (.int p1), .val (.int p2), .val (.int i), .val (.int (1 : Int32)), .val (.int (0 : Int32)), .val (.int ((1 : Int32) <<< (i &&& 31))), .val (.int (((1 : Int32) <<< (i &&& 31)) ||| (8192 : Int32))), .val (.int (p1 &&& (4095 : Int32))), .val (.int (0 : Int32)), .val (.int (1 : Int32))] [(.int (1 : Int32)), (.int (own_holds (((1 : Int32) <<< (i &&& 31)) ||| (8192 : Int32)) (p1 &&& (4095 : Int32))))])) (fun target kt => ?_) ?_
        · show Steps p.tables e below (T8.setTop (mkF m 130 #[.val (.int p0), .val (.int p1), .val (.int p2), .val (.int i), .val (.int (1 : Int32)), .val (.int (0 : Int32)), .val (.int ((1 : Int32) <<< (i &&& 31))), .val (.int (((1 : Int32) <<< (i &&& 31)) ||| (8192 : Int32))), .val (.int (p1 &&& (4095 : Int32))), .val (.int (0 : Int32)), .val (.int (1 : Int32))] [(.int (own_holds (((1 : Int32) <<< (i &&& 31)) ||| (8192 : Int32)) (p1 &&& (4095 : Int32))))])) _
          refine XS.iload X8.here hx rfl (hb hby at_130) rfl ?_
          exact kt
        refine own_via (A' := T8.setTop (mkF m 135 #[.val (.int p0), .val (.int p1), .val (.int p2), .val (.int i), .val (.int (1 : Int32)), .val (.int (0 : Int32)), .val (.int ((1 : Int32) <<< (i &&& 31))), .val (.int (((1 : Int32) <<< (i &&& 31)) ||| (8192 : Int32))), .val (.int (p1 &&& (4095 : Int32))), .val (.int (0 : Int32)), .val (.int (1 : Int32))] [])) (fun target kt => XS.icmpNo X8.here hx rfl (hb hby at_132) rfl (teq ((own_neg hi own_x).trans (if_neg hc83) : (own_holds (((1 : Int32) <<< (i &&& 31)) ||| (8192 : Int32)) (p1 &&& (4095 : Int32))) = (1 : Int32))).2 kt) ?_
        refine own_via (A' := T8.setTop (mkF m 140 #[.val (.int p0), .val (.int p1), .val (.int p2), .val (.int i), .val (.int (1 : Int32)), .val (.int (0 : Int32)), .val (.int ((1 : Int32) <<< (i &&& 31))), .val (.int (((1 : Int32) <<< (i &&& 31)) ||| (8192 : Int32))), .val (.int (p1 &&& (4095 : Int32))), .val (.int (0 : Int32)), .val (.int (1 : Int32))] [(.int (1 : Int32))])) (fun target kt => ?_) ?_
        · show Steps p.tables e below (T8.setTop (mkF m 135 #[.val (.int p0), .val (.int p1), .val (.int p2), .val (.int i), .val (.int (1 : Int32)), .val (.int (0 : Int32)), .val (.int ((1 : Int32) <<< (i &&& 31))), .val (.int (((1 : Int32) <<< (i &&& 31)) ||| (8192 : Int32))), .val (.int (p1 &&& (4095 : Int32))), .val (.int (0 : Int32)), .val (.int (1 : Int32))] [])) _
          refine XS.iconst X8.here hx rfl (hb hby at_135) ?_
          show Steps p.tables e below (T8.setTop (mkF m 136 #[.val (.int p0), .val (.int p1), .val (.int p2), .val (.int i), .val (.int (1 : Int32)), .val (.int (0 : Int32)), .val (.int ((1 : Int32) <<< (i &&& 31))), .val (.int (((1 : Int32) <<< (i &&& 31)) ||| (8192 : Int32))), .val (.int (p1 &&& (4095 : Int32))), .val (.int (0 : Int32)), .val (.int (1 : Int32))] [(.int (1 : Int32))])) _
          refine XS.goto X8.here hx rfl (pc0 := 136) (pc' := 140) rfl (hb hby at_136) (by decide) (by decide) ?_
          exact kt
        exact own_retN X8 Bd.notSynchronized hx (t := .boolean) Bd.returns (by simp) (hb hby at_140) (show Q0 Z p0 p1 p2 h0 n0 _ _ _ from ⟨rfl, N8⟩) (by decide) (by decide)
set_option maxRecDepth 65536 in
set_option maxHeartbeats 40000000 in
theorem comes_1 {Post : Tables → Env → Array Value → State → Outcome → State → Prop} (hpost : ∀ tb e args s v u, (limb_1_1.after args s (.returned v) u = true ∧ limb_1_2.after args s (.returned v) u = true ∧ True) → FrameEnd s (.returned v) u (Jvm.fieldLocs frame_1_writes args s ++ Jvm.arrayLocs frame_1_arrays args s ++ Jvm.staticLocs frame_1_statics s) 0 0 → Post tb e args s (.returned v) u) :
    ArmFor flags0 classFile x code maxLocals ret World_1 tables_1 room_1 Calls_1 rest_1 Pre_1 Post := by
  intro l hfl _ _ p e ha hc hk s m args below hf hA hF happ hP
  obtain ⟨hcalls, hrest, hpre⟩ := hP
  obtain ⟨-, -, -, hnamed, -, -, -, hat⟩ := (Spec.applies_iff hf).mp happ
  obtain ⟨hg, hn⟩ := and_e (Cond.before_iff.mp (show (Jvm.Cond.and given_1 narrow_1).before args s = true from hpre))
  obtain ⟨h1, g0⟩ := and_e hg
  obtain ⟨a0, g1⟩ := and_e g0
  obtain ⟨a1, g2⟩ := and_e g1
  obtain ⟨w0, w1, w2, rfl⟩ : ∃ w0 w1 w2 : Value, args = #[w0, w1, w2] := by
    have hs : args.size = 3 := by simpa [Cond.value, given_1] using h1
    obtain ⟨L⟩ := args
    match L, hs with
    | [w0, w1, w2], _ => exact ⟨w0, w1, w2, rfl⟩
  have hw := fun d (hd : d ∈ tables_1) => atoms_spec (ws := Jvm.Cond.code x code maxLocals ret :: tables_1) hat d (List.mem_cons_of_mem _ hd)
  obtain ⟨i0, ei0⟩ := is_v a0
  obtain rfl : w0 = (.int i0) := Option.some.inj ei0
  obtain ⟨i1, ei1⟩ := is_v a1
  obtain rfl : w1 = (.int i1) := Option.some.inj ei1
  obtain ⟨i2, ei2⟩ := is_v g2
  obtain rfl : w2 = (.int i2) := Option.some.inj ei2
  obtain ⟨n, o, h1, h2, h3, _, L, rfl, ⟨rfl, N⟩, hq⟩ := rm0 l s _ hw tables_1 i0 i1 i2 s.heap s.heap.size (Nat.le_refl _) p e ha hc hk s m _ below hf ((Spec.applies_iff_loose hf).mp happ).1 ⟨rfl, State.Warmed39.refl s, rfl⟩ trivial
  refine ⟨n, _, h1, h2, h3, hpost _ _ _ _ _ _ ⟨Cond.after_iff.mpr rfl, Cond.after_iff.mpr (eq_i res_at (Term.int_eval (1)) rfl), trivial⟩ ⟨hq.1, hq.2.1, (hq.2.2.sift fun y hy => Or.inr (N y hy)).mono (by decide) (by decide)⟩⟩
theorem main_1_1 : Claimed_1_1 := comes_1 fun _ _ _ _ _ _ h hF => ⟨h.1, hF⟩
theorem main_1_2 : Claimed_1_2 := comes_1 fun _ _ _ _ _ _ h hF => ⟨h.2.1, hF⟩
end Jvm.Pilot.@@N@@
namespace Jvm.Pilot.@@N@@
open Jvm Jvm.ClassFile Sem Op Lib Jvm.Free Jvm.Stand Jvm.Pilot.@@N@@.Jvm.D
/-! MADE BY PROGRAM (witnessworld.py) out of the Statement's table words and the real class files: 9 classes; the members and pool entries that the words name. The judged class is class 1, her method 1. -/
namespace start1
open Jvm.ClassFile
def u (s : String) : CpInfo := .utf8 (stringToUtf16 s)
/-- a pool by its gaps: so many unusable entries, then the entry; so many at the end -/
def gap : Nat → List CpInfo → List CpInfo
  | 0, r => r
  | n + 1, r => .unusable :: gap n r
def poolList (es : List (Nat × CpInfo)) (last : Nat) : List CpInfo := es.foldr (fun e r => gap e.1 (e.2 :: r)) (gap last [])
def pool (es : List (Nat × CpInfo)) (last : Nat) : Array CpInfo := ⟨poolList es last⟩
def fileOf (pool : Array CpInfo) (this : Nat) (attrs : Array Attribute := #[]) (ms : Array MethodInfo := #[]) (fl : Nat := 33) (sup : Nat := 0) (ifs : Array Nat := #[]) (fds : Array FieldInfo := #[]) : ClassFile where
  minorVersion := 0
  majorVersion := 65
  constantPool := pool
  accessFlags := fl
  thisClass := this
  superClass := sup
  interfaces := ifs
  fields := fds
  methods := ms
  attributes := attrs
def plain (name : String) (sup : Option ClassId) : Class where
  name := name
  kind := .ordinary
  loader := none
  accessFlags := 33
  super := sup
  interfaces := #[]
  cf := none
  fields := #[]
  methods := #[]
  instanceTypes := #[]
  staticTypes := #[]
  resolved := #[]
  callSites := []
  init := .initialized
  statics := none
  mirror := none

def pool0 : Array CpInfo := pool [(5, u "<init>"), (0, u "()V"), (1, .class_ 10), (1, u "java/lang/Object")] 113

def k0m0 : Method := { name := "<init>", desc := "()V", sig := { parameters := [], returnType := none }, accessFlags := 1, code := none }
/-- java/lang/Object -/
def k0 : Class := { plain "java/lang/Object" none with
  accessFlags := 33
  interfaces := #[]
  cf := some (fileOf pool0 8 #[] #[{ accessFlags := 1, nameIndex := 5, descriptorIndex := 6, attributes := #[] }] 33 0 #[] #[])
  fields := #[]
  methods := #[k0m0]
  instanceTypes := #[]
  staticTypes := #[]
  resolved := Array.replicate 124 none
  statics := none }

def pool1 : Array CpInfo := pool [(2, .class_ 4), (1, u "java/lang/Object"), (0, u "<init>"), (0, u "()V"), (0, .integer 2147483647), (0, .class_ 9), (0, u "holdfast/Context"), (0, .methodref 8 11), (0, .nameAndType 12 13), (0, u "holds"), (0, u "(II)Z"), (0, .class_ 15), (0, u "holdfast/ContextHoldsPinLaw"), (2, u "law"), (0, u "(III)Z")] 3

def k1m0 : Method := { name := "<init>", desc := "()V", sig := { parameters := [], returnType := none }, accessFlags := 1, code := none }
def k1c1 : Code := { maxStack := 2, maxLocals := 11, code := code, exceptionTable := #[], attributes := #[] }
def k1m1 : Method := { name := "law", desc := "(III)Z", sig := { parameters := [.int, .int, .int], returnType := some .boolean }, accessFlags := 9, code := some k1c1 }
/-- holdfast/ContextHoldsPinLaw -/
def k1 : Class := { plain "holdfast/ContextHoldsPinLaw" (some 0) with
  accessFlags := 49
  interfaces := #[]
  cf := some (fileOf pool1 14 #[] #[{ accessFlags := 1, nameIndex := 5, descriptorIndex := 6, attributes := #[] }, { accessFlags := 9, nameIndex := 18, descriptorIndex := 19, attributes := #[] }] 49 2 #[] #[])
  fields := #[]
  methods := #[k1m0, k1m1]
  instanceTypes := #[]
  staticTypes := #[]
  resolved := Array.replicate 23 none
  statics := none }

def pool2 : Array CpInfo := pool [(1, .class_ 2), (0, u "holdfast/Context"), (1, .class_ 6), (1, u "java/lang/Object"), (4, u "m_nRunFrom"), (0, u "I"), (2, u "m_nRunTo"), (2, u "m_aInput"), (0, u "Ljava/lang/CharSequence;"), (2, u "m_nFacts"), (8, u "m_aUnicodeWord"), (0, u "Lholdfast/CodePointSet;"), (8, u "m_nStart"), (2, u "m_nEnd"), (2, u "m_nWordStart"), (2, u "m_nWordEnd"), (2, u "m_nRegionEnd"), (2, u "m_nLastMatch"), (65, u "m_bRunBase"), (0, u "Z"), (6, u "BEGIN"), (2, u "END"), (1, u "BOUNDARY"), (1, u "LINE_BEGIN"), (1, u "LINE_END"), (1, u "UNIX_LINE_BEGIN"), (1, u "UNIX_END"), (1, u "UNIX_LINE_END"), (1, u "INPUT_END"), (1, u "LAST_MATCH"), (1, u "UNICODE_BOUNDARY"), (1, u "LINE_FEED_NEXT"), (1, u "COUNT"), (1, u "ANY"), (0, u "NEGATED"), (1, u "ASSERT_BOUNDARY"), (0, u "ASSERT_NOT_BOUNDARY"), (1, u "ASSERT_UNICODE_BOUNDARY"), (0, u "ASSERT_NOT_UNICODE_BOUNDARY"), (1, u "ASSERT_NO_LINE_FEED_NEXT"), (1, u "HIT_END"), (0, u "REQUIRE_END"), (4, u "holds"), (0, u "(II)Z")] 8

def k2c0 : Code := { maxStack := 3, maxLocals := 2, code := prog_9_method_2_code, exceptionTable := #[], attributes := #[] }
def k2m0 : Method := { name := "holds", desc := "(II)Z", sig := { parameters := [.int, .int], returnType := some .boolean }, accessFlags := 8, code := some k2c0 }
/-- holdfast/Context -/
def k2 : Class := { plain "holdfast/Context" (some 0) with
  accessFlags := 48
  interfaces := #[]
  cf := some (fileOf pool2 1 #[] #[{ accessFlags := 8, nameIndex := 174, descriptorIndex := 175, attributes := #[] }] 48 4 #[] #[{ accessFlags := 24, nameIndex := 130, descriptorIndex := 12, attributes := #[] }, { accessFlags := 24, nameIndex := 133, descriptorIndex := 12, attributes := #[] }, { accessFlags := 24, nameIndex := 135, descriptorIndex := 12, attributes := #[] }, { accessFlags := 24, nameIndex := 137, descriptorIndex := 12, attributes := #[] }, { accessFlags := 24, nameIndex := 139, descriptorIndex := 12, attributes := #[] }, { accessFlags := 24, nameIndex := 141, descriptorIndex := 12, attributes := #[] }, { accessFlags := 24, nameIndex := 143, descriptorIndex := 12, attributes := #[] }, { accessFlags := 24, nameIndex := 145, descriptorIndex := 12, attributes := #[] }, { accessFlags := 24, nameIndex := 147, descriptorIndex := 12, attributes := #[] }, { accessFlags := 24, nameIndex := 149, descriptorIndex := 12, attributes := #[] }, { accessFlags := 24, nameIndex := 151, descriptorIndex := 12, attributes := #[] }, { accessFlags := 24, nameIndex := 153, descriptorIndex := 12, attributes := #[] }, { accessFlags := 24, nameIndex := 155, descriptorIndex := 12, attributes := #[] }, { accessFlags := 24, nameIndex := 157, descriptorIndex := 12, attributes := #[] }, { accessFlags := 26, nameIndex := 158, descriptorIndex := 12, attributes := #[] }, { accessFlags := 24, nameIndex := 160, descriptorIndex := 12, attributes := #[] }, { accessFlags := 24, nameIndex := 161, descriptorIndex := 12, attributes := #[] }, { accessFlags := 24, nameIndex := 163, descriptorIndex := 12, attributes := #[] }, { accessFlags := 24, nameIndex := 164, descriptorIndex := 12, attributes := #[] }, { accessFlags := 24, nameIndex := 166, descriptorIndex := 12, attributes := #[] }, { accessFlags := 24, nameIndex := 168, descriptorIndex := 12, attributes := #[] }, { accessFlags := 24, nameIndex := 169, descriptorIndex := 12, attributes := #[] }, { accessFlags := 18, nameIndex := 18, descriptorIndex := 19, attributes := #[] }, { accessFlags := 18, nameIndex := 22, descriptorIndex := 12, attributes := #[] }, { accessFlags := 18, nameIndex := 31, descriptorIndex := 32, attributes := #[] }, { accessFlags := 18, nameIndex := 41, descriptorIndex := 12, attributes := #[] }, { accessFlags := 18, nameIndex := 44, descriptorIndex := 12, attributes := #[] }, { accessFlags := 18, nameIndex := 47, descriptorIndex := 12, attributes := #[] }, { accessFlags := 18, nameIndex := 50, descriptorIndex := 12, attributes := #[] }, { accessFlags := 18, nameIndex := 53, descriptorIndex := 12, attributes := #[] }, { accessFlags := 2, nameIndex := 56, descriptorIndex := 12, attributes := #[] }, { accessFlags := 2, nameIndex := 11, descriptorIndex := 12, attributes := #[] }, { accessFlags := 2, nameIndex := 15, descriptorIndex := 12, attributes := #[] }, { accessFlags := 2, nameIndex := 122, descriptorIndex := 123, attributes := #[] }])
  fields := #[{ name := "BEGIN", type := .int, accessFlags := 24, slot := 0, constantValue := 0 }, { name := "END", type := .int, accessFlags := 24, slot := 1, constantValue := 0 }, { name := "BOUNDARY", type := .int, accessFlags := 24, slot := 2, constantValue := 0 }, { name := "LINE_BEGIN", type := .int, accessFlags := 24, slot := 3, constantValue := 0 }, { name := "LINE_END", type := .int, accessFlags := 24, slot := 4, constantValue := 0 }, { name := "UNIX_LINE_BEGIN", type := .int, accessFlags := 24, slot := 5, constantValue := 0 }, { name := "UNIX_END", type := .int, accessFlags := 24, slot := 6, constantValue := 0 }, { name := "UNIX_LINE_END", type := .int, accessFlags := 24, slot := 7, constantValue := 0 }, { name := "INPUT_END", type := .int, accessFlags := 24, slot := 8, constantValue := 0 }, { name := "LAST_MATCH", type := .int, accessFlags := 24, slot := 9, constantValue := 0 }, { name := "UNICODE_BOUNDARY", type := .int, accessFlags := 24, slot := 10, constantValue := 0 }, { name := "LINE_FEED_NEXT", type := .int, accessFlags := 24, slot := 11, constantValue := 0 }, { name := "COUNT", type := .int, accessFlags := 24, slot := 12, constantValue := 0 }, { name := "ANY", type := .int, accessFlags := 24, slot := 13, constantValue := 0 }, { name := "NEGATED", type := .int, accessFlags := 26, slot := 14, constantValue := 0 }, { name := "ASSERT_BOUNDARY", type := .int, accessFlags := 24, slot := 15, constantValue := 0 }, { name := "ASSERT_NOT_BOUNDARY", type := .int, accessFlags := 24, slot := 16, constantValue := 0 }, { name := "ASSERT_UNICODE_BOUNDARY", type := .int, accessFlags := 24, slot := 17, constantValue := 0 }, { name := "ASSERT_NOT_UNICODE_BOUNDARY", type := .int, accessFlags := 24, slot := 18, constantValue := 0 }, { name := "ASSERT_NO_LINE_FEED_NEXT", type := .int, accessFlags := 24, slot := 19, constantValue := 0 }, { name := "HIT_END", type := .int, accessFlags := 24, slot := 20, constantValue := 0 }, { name := "REQUIRE_END", type := .int, accessFlags := 24, slot := 21, constantValue := 0 }, { name := "m_aInput", type := (.object "java/lang/CharSequence"), accessFlags := 18, slot := 0, constantValue := 0 }, { name := "m_nFacts", type := .int, accessFlags := 18, slot := 1, constantValue := 0 }, { name := "m_aUnicodeWord", type := (.object "holdfast/CodePointSet"), accessFlags := 18, slot := 2, constantValue := 0 }, { name := "m_nStart", type := .int, accessFlags := 18, slot := 3, constantValue := 0 }, { name := "m_nEnd", type := .int, accessFlags := 18, slot := 4, constantValue := 0 }, { name := "m_nWordStart", type := .int, accessFlags := 18, slot := 5, constantValue := 0 }, { name := "m_nWordEnd", type := .int, accessFlags := 18, slot := 6, constantValue := 0 }, { name := "m_nRegionEnd", type := .int, accessFlags := 18, slot := 7, constantValue := 0 }, { name := "m_nLastMatch", type := .int, accessFlags := 2, slot := 8, constantValue := 0 }, { name := "m_nRunFrom", type := .int, accessFlags := 2, slot := 9, constantValue := 0 }, { name := "m_nRunTo", type := .int, accessFlags := 2, slot := 10, constantValue := 0 }, { name := "m_bRunBase", type := .boolean, accessFlags := 2, slot := 11, constantValue := 0 }]
  methods := #[k2m0]
  instanceTypes := #[(.object "java/lang/CharSequence"), .int, (.object "holdfast/CodePointSet"), .int, .int, .int, .int, .int, .int, .int, .int, .boolean]
  staticTypes := #[.int, .int, .int, .int, .int, .int, .int, .int, .int, .int, .int, .int, .int, .int, .int, .int, .int, .int, .int, .int, .int, .int]
  resolved := Array.replicate 184 none
  statics := none }

def pool3 : Array CpInfo := pool [(1, u "java/lang/Cloneable"), (0, .class_ 1), (0, u "java/lang/Object"), (0, .class_ 3)] 3

/-- java/lang/Cloneable -/
def k3 : Class := { plain "java/lang/Cloneable" (some 0) with
  accessFlags := 1537
  interfaces := #[]
  cf := some (fileOf pool3 2 #[] #[] 1537 4 #[] #[])
  fields := #[]
  methods := #[]
  instanceTypes := #[]
  staticTypes := #[]
  resolved := Array.replicate 8 none
  statics := none }

def pool4 : Array CpInfo := pool [(1, u "java/io/Serializable"), (0, .class_ 1), (0, u "java/lang/Object"), (0, .class_ 3)] 3

/-- java/io/Serializable -/
def k4 : Class := { plain "java/io/Serializable" (some 0) with
  accessFlags := 1537
  interfaces := #[]
  cf := some (fileOf pool4 2 #[] #[] 1537 4 #[] #[])
  fields := #[]
  methods := #[]
  instanceTypes := #[]
  staticTypes := #[]
  resolved := Array.replicate 8 none
  statics := none }

/-- the primitive byte -/
def k5 : Class := { plain "byte" none with kind := .primitive 'B', accessFlags := 0x411 }
/-- [B -/
def k6 : Class := { plain "[B" (some 0) with kind := .array 5 .byte, interfaces := #[3, 4], accessFlags := 1041 }

/-- the primitive int -/
def k7 : Class := { plain "int" none with kind := .primitive 'I', accessFlags := 0x411 }
/-- [I -/
def k8 : Class := { plain "[I" (some 0) with kind := .array 7 .int, interfaces := #[3, 4], accessFlags := 1041 }

def heap : Heap := #[]
def classes : Array Class := #[k0, k1, k2, k3, k4, k5, k6, k7, k8]
def interned : List (Array UInt16 × Addr) := []
def slotsUsed : Nat := 0
def theMethod : MethodId := ⟨1, 1⟩
def args0 : Array Value := #[.int 5, .int 32, .int 2]
def aboutOver (below : List Frame) : State where
  vm := { classes := classes, interned := interned.toArray }
  heap := heap
  slotsUsed := slotsUsed
  threads := #[{ frames := .invoking theMethod args0 :: below }]
def below0 : List Frame := [.native { method := ⟨0, 0⟩, args := #[] }]
def about1 : State := aboutOver below0
def p0 : Program := .bare "" "" ""
def e0 : Env := launch0.env 0 0 0
theorem w_frames : about1.frames = Frame.invoking theMethod args0 :: below0 := rfl
set_option maxRecDepth 65536 in
theorem w_args : argsFit about1.vm theMethod args0 = true := by decide +kernel
set_option maxRecDepth 65536 in
theorem w_heap : heapFits about1 = true := by decide +kernel
set_option maxRecDepth 65536 in
theorem w_runnable : about1.curStatus? = some .runnable := by decide +kernel
set_option maxRecDepth 65536 in
theorem w_alone : about1.alone = true := by decide +kernel
set_option maxRecDepth 65536 in
theorem w_named : about1.methodNamed? x = some theMethod := by decide +kernel
set_option maxRecDepth 65536 in
theorem w_hears : about1.hears theMethod below0 = true := by decide +kernel
set_option maxRecDepth 65536 in
theorem w_ripe : about1.ripe theMethod args0 below0 = true := by decide +kernel
theorem w_running : about1.status = .running := rfl
set_option maxRecDepth 65536 in
theorem w_room : about1.hasRoom e0.platform room_1 = true :=
  launch0.hasRoom_least _ room_1 (by decide +kernel) (by decide +kernel) (by decide +kernel) (by decide +kernel) (by decide +kernel) (by decide +kernel)
theorem allAtoms_all (ts : List Jvm.Cond) (a : Array Jvm.Value) (st : Jvm.State) : (allAtoms ts).before a st = ts.all (fun c => c.before a st) := by
  induction ts with
  | nil => rfl
  | cons c t ih =>
    show (Jvm.Cond.and c (allAtoms t)).before a st = _
    rw [Jvm.Cond.before_and, ih, List.all_cons]
def words1 : List Jvm.Cond := Jvm.Cond.code x code maxLocals ret :: tables_1
/-- a 'code' word, met by the world's own term for the bytes: nothing is compared byte by byte -/
theorem code_word {y : MethodName} {bytes : ByteArray} {mx : Nat} {rt : Option FieldType} {a : Array Value} {s : State} {m : MethodId} {meth : Method} {c : Code} (h1 : s.methodNamed? y = some m) (h2 : s.vm.method? m = some meth) (h3 : meth.code = some c) (h4 : c.code = bytes)
    (h5 : (c.maxLocals == mx && c.exceptionTable.isEmpty && decide (c.maxStack ≤ mostOperands) && decide (meth.sig.returnType = rt) && !meth.locks && decide (parseMethodDescriptor y.desc = some meth.sig)) = true) : (Jvm.Cond.code y bytes mx rt).before a s = true := by
  simp only [Bool.and_eq_true, beq_iff_eq, Bool.not_eq_true', decide_eq_true_eq] at h5
  obtain ⟨⟨⟨⟨⟨g1, g2⟩, g3⟩, g4⟩, g5⟩, g6⟩ := h5
  simp [Cond.before, Cond.holds, Cond.value, h1, h2, h3, h4, g1, g2, g3, g4, g5, g6]
def isCode : Jvm.Cond → Bool
  | .code _ _ _ _ => true
  | _ => false
theorem all_split {L : List Jvm.Cond} {P : Jvm.Cond → Bool} (h1 : L.all (fun c => isCode c || P c) = true) (h2 : ∀ c ∈ L.filter isCode, P c = true) : L.all P = true := by
  refine List.all_eq_true.mpr fun c hc => ?_
  have h := List.all_eq_true.mp h1 c hc
  rcases Bool.eq_false_or_eq_true (isCode c) with hi | hi
  · exact h2 c (List.mem_filter.mpr ⟨hc, hi⟩)
  · simpa [hi] using h
set_option maxRecDepth 65536 in
theorem w_c0 : (Jvm.Cond.code x code maxLocals ret).before args0 about1 = true := code_word (m := ⟨1, 1⟩) (meth := k1m1) (c := k1c1) (by decide +kernel) rfl rfl rfl (by decide +kernel)
set_option maxRecDepth 65536 in
theorem w_c1 : (Jvm.Cond.code ({ cls := "holdfast/Context", name := "holds", desc := "(II)Z" } : Jvm.MethodName) prog_9_method_2_code (2 : Nat) (Option.some Jvm.ClassFile.FieldType.boolean)).before args0 about1 = true := code_word (m := ⟨2, 0⟩) (meth := k2m0) (c := k2c0) (by decide +kernel) rfl rfl rfl (by decide +kernel)
def codes1 : List Jvm.Cond := [Jvm.Cond.code x code maxLocals ret, Jvm.Cond.code ({ cls := "holdfast/Context", name := "holds", desc := "(II)Z" } : Jvm.MethodName) prog_9_method_2_code (2 : Nat) (Option.some Jvm.ClassFile.FieldType.boolean)]
set_option maxRecDepth 65536 in
theorem codes_eq : words1.filter isCode = codes1 := rfl
theorem w_codes : ∀ c ∈ words1.filter isCode, c.before args0 about1 = true := by
  rw [codes_eq]
  intro c hc
  simp only [codes1, List.mem_cons, List.not_mem_nil, or_false] at hc
  rcases hc with rfl | rfl
  · exact w_c0
  · exact w_c1
set_option maxRecDepth 65536 in
theorem w_t1 : words1.all (fun c => isCode c || c.before args0 about1) = true := by decide +kernel
theorem w_tables : (allAtoms (Jvm.Cond.code x code maxLocals ret :: tables_1)).before args0 about1 = true := by
  rw [allAtoms_all]
  show words1.all (fun c => c.before args0 about1) = true
  refine all_split ?_ w_codes
  rw [w_t1]
set_option maxRecDepth 65536 in
theorem w_case : (Jvm.Cond.and given_1 narrow_1).before args0 about1 = true := by decide +kernel
theorem w_applies : (headSpec (Jvm.Cond.code x code maxLocals ret :: tables_1) room_1).applies x e0.platform about1 = true :=
  (Spec.applies_iff w_frames).mpr ⟨w_running, w_runnable, w_alone, w_named, w_hears, w_ripe, w_room, w_tables⟩
theorem atStart : AtStart classFile x code maxLocals ret World_1 tables_1 room_1 Calls_1 rest_1 Pre_1 launch0 p0 e0 about1 theMethod args0 below0 :=
  ⟨lists_1, trivial, launch0.admits_env _ _ _, launch0.least_env, fairChoices_fair.cas, fairChoices_fair.clock, w_frames, w_args, w_heap, w_applies, trivial, trivial, w_case⟩
end start1
theorem witness_1 : WitnessClaimed_1 := ⟨start1.p0, start1.e0, start1.about1, start1.theMethod, start1.args0, start1.below0, start1.atStart⟩
end Jvm.Pilot.@@N@@
