import JvmDerived
import JvmDerived.Pilot.@@N@@Statement
import JvmDerived.Pilot.@@N@@Code
set_option linter.unusedVariables false
set_option linter.unusedSimpArgs false
@@BLOCK:NumsL.lean.txt@@
namespace Jvm.RoadKit
open Sem ClassFile Op Lib Jvm.Stand Jvm.Free Jvm.LawKit
section New
variable {p : Program} {l : Launch} {e : Env} {R : Room} {s : State} {m : MethodId} {args : Array Value} {below : List Frame} {meth : Method} {c : Code} {T : State} {locs : List Loc} {cells slots : Nat}
theorem retI (X : Stand p l e R s m args below meth c T locs cells slots) (hx : p.tables.exec = Jvm.exec) {pc : Nat} {Ls : Array Slot} {z : Int32} {rest : List Value} (hret : meth.sig.returnType = some .int) (hd : decode c.code pc = .ok (.ireturn, 1)) {fs : List Frame}
    (hl : ∀ (f : JFrame) (acts : List Action), f.method = m → f.locked = none → f.entered = [] → (doReturn e (T.setTop f) acts (some (.int z))).1 = T.setFrames fs) : Steps p.tables e below (T.setTop (mkF m pc Ls (.int z :: rest))) (T.setFrames fs) := by
  have hm' : T.vm.method? m = some meth := X.method'
  have hn : narrow .int (.int z) = .int z := rfl
  show Steps p.tables e below (T.setTop { method := m, pc := pc, locals := Ls, stack := _ :: rest, locked := none }) _
  jvm_step X.here [X.here.top, hx, hd, hm', hret, hn]
  first | (intro acts; rw [hl _ acts rfl rfl rfl]) | rw [hl _ _ rfl rfl rfl]
  exact Steps.refl _
/-- what a body leaves -/
def own_P (s : State) (Q : Option Value → Heap → List Loc → Prop) (k n : Nat) (s₂ : State) (o : Outcome) : Prop := ∃ v L, o = .returned v ∧ Q v s₂.heap L ∧ FrameEnd s o s₂ L k n
/-- from A the run comes to an end that P allows -/
def own_G (p : Program) (e : Env) (below : List Frame) (P : State → Outcome → Prop) (A : State) : Prop := ∃ s₂ o, Steps p.tables e below A s₂ ∧ s₂.status = .running ∧ Ended s₂ below o ∧ P s₂ o
theorem own_via {P : State → Outcome → Prop} {A A' : State} (h : ∀ t, Steps p.tables e below A' t → Steps p.tables e below A t) (k : own_G p e below P A') : own_G p e below P A := by
  obtain ⟨s₂, o, h1, h2⟩ := k
  exact ⟨s₂, o, h _ h1, h2⟩
theorem own_retN (X : Stand p l e R s m args below meth c T locs cells slots) (hlocks : meth.locks = false) (hx : p.tables.exec = Jvm.exec) {pc : Nat} {Ls : Array Slot} {z : Int32} {t : FieldType} {rest : List Value} {K N : Nat} {Q : Option Value → Heap → List Loc → Prop} (hret : meth.sig.returnType = some t) (ht : t = .boolean ∨ t = .byte ∨ t = .char ∨ t = .short)
    (hd : decode c.code pc = .ok (.ireturn, 1)) (hq : Q (some (.int (nar t z))) T.heap locs) (hK : cells ≤ K) (hN : slots ≤ N) : own_G p e below (own_P s Q K N) (T.setTop (mkF m pc Ls (.int z :: rest))) := by
  obtain ⟨fs, hr, hrun, hended, hW, hsame⟩ := X.leave (v := some (.int (nar t z))) (fun h => by rw [hret] at h; cases h) hlocks
  exact ⟨_, _, retN X hx hret ht hd hr, hrun, hended, _, _, rfl, hq, ⟨_, rfl⟩, hW, hsame.mono hK hN⟩
theorem own_retI (X : Stand p l e R s m args below meth c T locs cells slots) (hlocks : meth.locks = false) (hx : p.tables.exec = Jvm.exec) {pc : Nat} {Ls : Array Slot} {z : Int32} {rest : List Value} {K N : Nat} {Q : Option Value → Heap → List Loc → Prop} (hret : meth.sig.returnType = some .int)
    (hd : decode c.code pc = .ok (.ireturn, 1)) (hq : Q (some (.int z)) T.heap locs) (hK : cells ≤ K) (hN : slots ≤ N) : own_G p e below (own_P s Q K N) (T.setTop (mkF m pc Ls (.int z :: rest))) := by
  obtain ⟨fs, hr, hrun, hended, hW, hsame⟩ := X.leave (v := some (.int z)) (fun h => by rw [hret] at h; cases h) hlocks
  exact ⟨_, _, retI X hx hret hd hr, hrun, hended, _, _, rfl, hq, ⟨_, rfl⟩, hW, hsame.mono hK hN⟩
theorem own_retA (X : Stand p l e R s m args below meth c T locs cells slots) (hlocks : meth.locks = false) (hx : p.tables.exec = Jvm.exec) {pc : Nat} {Ls : Array Slot} {w : Value} {C : String} {rest : List Value} {K N : Nat} {Q : Option Value → Heap → List Loc → Prop} (hret : meth.sig.returnType = some (.object C)) (hw : w.isRef = true)
    (hd : decode c.code pc = .ok (.areturn, 1)) (hq : Q (some w) T.heap locs) (hK : cells ≤ K) (hN : slots ≤ N) : own_G p e below (own_P s Q K N) (T.setTop (mkF m pc Ls (w :: rest))) := by
  obtain ⟨fs, hr, hrun, hended, hW, hsame⟩ := X.leave (v := some w) (fun h => by rw [hret] at h; cases h) hlocks
  have hn : narrow (.object C) w = w := by cases w <;> rfl
  exact ⟨_, _, retOut X hx hret hn (Or.inr (Or.inr (Or.inr (Or.inr ⟨rfl, rfl, hw⟩)))) hd hr, hrun, hended, _, _, rfl, hq, ⟨_, rfl⟩, hW, hsame.mono hK hN⟩
/-- the places written, under one name -/
theorem own_fold {n0 : Nat} (X : Stand p l e R s m args below meth c T locs cells slots) (N : Fr n0 locs) : ∃ LL, Stand p l e R s m args below meth c T LL cells slots ∧ Fr n0 LL := ⟨_, X, N⟩
theorem own_retV (X : Stand p l e R s m args below meth c T locs cells slots) (hlocks : meth.locks = false) (hx : p.tables.exec = Jvm.exec) {pc : Nat} {Ls : Array Slot} {K N : Nat} {Q : Option Value → Heap → List Loc → Prop} (hret : meth.sig.returnType = none)
    (hd : decode c.code pc = .ok (.return_, 1)) (hq : Q none T.heap locs) (hK : cells ≤ K) (hN : slots ≤ N) : own_G p e below (own_P s Q K N) (T.setTop (mkF m pc Ls [])) := by
  obtain ⟨fs, hr, hrun, hended, hW, hsame⟩ := X.leave (v := none) (fun _ => rfl) hlocks
  exact ⟨_, _, X.returnOut hx hret hd hr, hrun, hended, _, _, rfl, hq, ⟨_, rfl⟩, hW, hsame.mono hK hN⟩
end New
end Jvm.RoadKit
namespace Jvm.Pilot.@@N@@
open Jvm Jvm.ClassFile Sem Op Lib Jvm.Free Jvm.Stand Jvm.LawKit Jvm.RoadKit Bundle Jvm.Pilot.@@N@@.Jvm.D
def own_in : List (Int32 × Int32) → Int32 → Int32
  | [], _ => 0
  | q :: r, c => if c < q.1 ∨ q.2 < c then own_in r c else 1
theorem own_in_no {q : Int32 × Int32} {r : List (Int32 × Int32)} {c : Int32} (h : c < q.1 ∨ q.2 < c) : own_in (q :: r) c = own_in r c := if_pos h
theorem own_in_yes {q : Int32 × Int32} {r : List (Int32 × Int32)} {c : Int32} (h1 : ¬ c < q.1) (h2 : ¬ q.2 < c) : own_in (q :: r) c = 1 := if_neg (fun h => h.elim h1 h2)
theorem own_irr (c : Int32) : ¬ c < c := by rw [Int32.lt_iff_toInt_lt]; omega
theorem own_in_eq {a : Int32} {r : List (Int32 × Int32)} {c : Int32} (h : c = a) : own_in ((a, a) :: r) c = 1 := by subst h; exact own_in_yes (own_irr c) (own_irr c)
theorem own_in_ne {a : Int32} {r : List (Int32 × Int32)} {c : Int32} (h : ¬ c = a) : own_in ((a, a) :: r) c = own_in r c := by
  refine own_in_no ?_
  show c < a ∨ a < c
  rw [Int32.lt_iff_toInt_lt, Int32.lt_iff_toInt_lt]
  have : c.toInt ≠ a.toInt := fun e => h (Int32.toInt_inj.mp e)
  omega
theorem own_at {Z : State} {h : Heap} {a : Addr} {k : ClassId} {n : Int32} {ws : List Int32} {j : Int32} (A : Arv Z h a k .int n (ws.map Value.int) (.int (0 : Int32))) (q : ¬ j < 0 ∧ j < n) :
    ∃ (cl : Cell) (w : Int32), w = ws.getD j.toNatClampNeg 0 ∧ Arr Z h a cl .int ∧ ¬ (j < 0 ∨ cl.slots.size ≤ j.toNatClampNeg) ∧ cl.slots[j.toNatClampNeg]? = some (.int w) := by
  obtain ⟨cl, Ar, q1, S, N, H, G⟩ := A
  have hin := inb_of S q
  refine ⟨cl, _, rfl, Ar, hin, ?_⟩
  have hlt : j.toNatClampNeg < cl.slots.size := Nat.lt_of_not_le fun e => hin (Or.inr e)
  rw [H _ hlt]
  simp only [List.getD_eq_getElem?_getD, List.getElem?_map]
  cases ws[j.toNatClampNeg]? <;> rfl

def own_R1 : List (Int32 × Int32) := [(97, 122), (65, 90), (95, 95), (192, 214), (216, 246), (248, 767), (880, 893), (895, 8191), (8204, 8205), (8304, 8591), (11264, 12271), (12289, 55295), (63744, 64975), (65008, 65533), (65536, 983039)]
theorem d1_0 : decode prog_91_method_13_code 0 = .ok (.iload_n 0, 1) := by decide +kernel
theorem d1_1 : decode prog_91_method_13_code 1 = .ok (.bipush 97, 2) := by decide +kernel
theorem d1_3 : decode prog_91_method_13_code 3 = .ok (.if_icmp .lt 9, 3) := by decide +kernel
theorem d1_6 : decode prog_91_method_13_code 6 = .ok (.iload_n 0, 1) := by decide +kernel
theorem d1_7 : decode prog_91_method_13_code 7 = .ok (.bipush 122, 2) := by decide +kernel
theorem d1_9 : decode prog_91_method_13_code 9 = .ok (.if_icmp .le 182, 3) := by decide +kernel
theorem d1_12 : decode prog_91_method_13_code 12 = .ok (.iload_n 0, 1) := by decide +kernel
theorem d1_13 : decode prog_91_method_13_code 13 = .ok (.bipush 65, 2) := by decide +kernel
theorem d1_15 : decode prog_91_method_13_code 15 = .ok (.if_icmp .lt 9, 3) := by decide +kernel
theorem d1_18 : decode prog_91_method_13_code 18 = .ok (.iload_n 0, 1) := by decide +kernel
theorem d1_19 : decode prog_91_method_13_code 19 = .ok (.bipush 90, 2) := by decide +kernel
theorem d1_21 : decode prog_91_method_13_code 21 = .ok (.if_icmp .le 170, 3) := by decide +kernel
theorem d1_24 : decode prog_91_method_13_code 24 = .ok (.iload_n 0, 1) := by decide +kernel
theorem d1_25 : decode prog_91_method_13_code 25 = .ok (.bipush 95, 2) := by decide +kernel
theorem d1_27 : decode prog_91_method_13_code 27 = .ok (.if_icmp .eq 164, 3) := by decide +kernel
theorem d1_30 : decode prog_91_method_13_code 30 = .ok (.iload_n 0, 1) := by decide +kernel
theorem d1_31 : decode prog_91_method_13_code 31 = .ok (.sipush 192, 3) := by decide +kernel
theorem d1_34 : decode prog_91_method_13_code 34 = .ok (.if_icmp .lt 10, 3) := by decide +kernel
theorem d1_37 : decode prog_91_method_13_code 37 = .ok (.iload_n 0, 1) := by decide +kernel
theorem d1_38 : decode prog_91_method_13_code 38 = .ok (.sipush 214, 3) := by decide +kernel
theorem d1_41 : decode prog_91_method_13_code 41 = .ok (.if_icmp .le 150, 3) := by decide +kernel
theorem d1_44 : decode prog_91_method_13_code 44 = .ok (.iload_n 0, 1) := by decide +kernel
theorem d1_45 : decode prog_91_method_13_code 45 = .ok (.sipush 216, 3) := by decide +kernel
theorem d1_48 : decode prog_91_method_13_code 48 = .ok (.if_icmp .lt 10, 3) := by decide +kernel
theorem d1_51 : decode prog_91_method_13_code 51 = .ok (.iload_n 0, 1) := by decide +kernel
theorem d1_52 : decode prog_91_method_13_code 52 = .ok (.sipush 246, 3) := by decide +kernel
theorem d1_55 : decode prog_91_method_13_code 55 = .ok (.if_icmp .le 136, 3) := by decide +kernel
theorem d1_58 : decode prog_91_method_13_code 58 = .ok (.iload_n 0, 1) := by decide +kernel
theorem d1_59 : decode prog_91_method_13_code 59 = .ok (.sipush 248, 3) := by decide +kernel
theorem d1_62 : decode prog_91_method_13_code 62 = .ok (.if_icmp .lt 10, 3) := by decide +kernel
theorem d1_65 : decode prog_91_method_13_code 65 = .ok (.iload_n 0, 1) := by decide +kernel
theorem d1_66 : decode prog_91_method_13_code 66 = .ok (.sipush 767, 3) := by decide +kernel
theorem d1_69 : decode prog_91_method_13_code 69 = .ok (.if_icmp .le 122, 3) := by decide +kernel
theorem d1_72 : decode prog_91_method_13_code 72 = .ok (.iload_n 0, 1) := by decide +kernel
theorem d1_73 : decode prog_91_method_13_code 73 = .ok (.sipush 880, 3) := by decide +kernel
theorem d1_76 : decode prog_91_method_13_code 76 = .ok (.if_icmp .lt 10, 3) := by decide +kernel
theorem d1_79 : decode prog_91_method_13_code 79 = .ok (.iload_n 0, 1) := by decide +kernel
theorem d1_80 : decode prog_91_method_13_code 80 = .ok (.sipush 893, 3) := by decide +kernel
theorem d1_83 : decode prog_91_method_13_code 83 = .ok (.if_icmp .le 108, 3) := by decide +kernel
theorem d1_86 : decode prog_91_method_13_code 86 = .ok (.iload_n 0, 1) := by decide +kernel
theorem d1_87 : decode prog_91_method_13_code 87 = .ok (.sipush 895, 3) := by decide +kernel
theorem d1_90 : decode prog_91_method_13_code 90 = .ok (.if_icmp .lt 10, 3) := by decide +kernel
theorem d1_93 : decode prog_91_method_13_code 93 = .ok (.iload_n 0, 1) := by decide +kernel
theorem d1_94 : decode prog_91_method_13_code 94 = .ok (.sipush 8191, 3) := by decide +kernel
theorem d1_97 : decode prog_91_method_13_code 97 = .ok (.if_icmp .le 94, 3) := by decide +kernel
theorem d1_100 : decode prog_91_method_13_code 100 = .ok (.iload_n 0, 1) := by decide +kernel
theorem d1_101 : decode prog_91_method_13_code 101 = .ok (.sipush 8204, 3) := by decide +kernel
theorem d1_104 : decode prog_91_method_13_code 104 = .ok (.if_icmp .lt 10, 3) := by decide +kernel
theorem d1_107 : decode prog_91_method_13_code 107 = .ok (.iload_n 0, 1) := by decide +kernel
theorem d1_108 : decode prog_91_method_13_code 108 = .ok (.sipush 8205, 3) := by decide +kernel
theorem d1_111 : decode prog_91_method_13_code 111 = .ok (.if_icmp .le 80, 3) := by decide +kernel
theorem d1_114 : decode prog_91_method_13_code 114 = .ok (.iload_n 0, 1) := by decide +kernel
theorem d1_115 : decode prog_91_method_13_code 115 = .ok (.sipush 8304, 3) := by decide +kernel
theorem d1_118 : decode prog_91_method_13_code 118 = .ok (.if_icmp .lt 10, 3) := by decide +kernel
theorem d1_121 : decode prog_91_method_13_code 121 = .ok (.iload_n 0, 1) := by decide +kernel
theorem d1_122 : decode prog_91_method_13_code 122 = .ok (.sipush 8591, 3) := by decide +kernel
theorem d1_125 : decode prog_91_method_13_code 125 = .ok (.if_icmp .le 66, 3) := by decide +kernel
theorem d1_128 : decode prog_91_method_13_code 128 = .ok (.iload_n 0, 1) := by decide +kernel
theorem d1_129 : decode prog_91_method_13_code 129 = .ok (.sipush 11264, 3) := by decide +kernel
theorem d1_132 : decode prog_91_method_13_code 132 = .ok (.if_icmp .lt 10, 3) := by decide +kernel
theorem d1_135 : decode prog_91_method_13_code 135 = .ok (.iload_n 0, 1) := by decide +kernel
theorem d1_136 : decode prog_91_method_13_code 136 = .ok (.sipush 12271, 3) := by decide +kernel
theorem d1_139 : decode prog_91_method_13_code 139 = .ok (.if_icmp .le 52, 3) := by decide +kernel
theorem d1_142 : decode prog_91_method_13_code 142 = .ok (.iload_n 0, 1) := by decide +kernel
theorem d1_143 : decode prog_91_method_13_code 143 = .ok (.sipush 12289, 3) := by decide +kernel
theorem d1_146 : decode prog_91_method_13_code 146 = .ok (.if_icmp .lt 9, 3) := by decide +kernel
theorem d1_149 : decode prog_91_method_13_code 149 = .ok (.iload_n 0, 1) := by decide +kernel
theorem d1_150 : decode prog_91_method_13_code 150 = .ok (.ldc 104, 2) := by decide +kernel
theorem d1_152 : decode prog_91_method_13_code 152 = .ok (.if_icmp .le 39, 3) := by decide +kernel
theorem d1_155 : decode prog_91_method_13_code 155 = .ok (.iload_n 0, 1) := by decide +kernel
theorem d1_156 : decode prog_91_method_13_code 156 = .ok (.ldc 105, 2) := by decide +kernel
theorem d1_158 : decode prog_91_method_13_code 158 = .ok (.if_icmp .lt 9, 3) := by decide +kernel
theorem d1_161 : decode prog_91_method_13_code 161 = .ok (.iload_n 0, 1) := by decide +kernel
theorem d1_162 : decode prog_91_method_13_code 162 = .ok (.ldc 106, 2) := by decide +kernel
theorem d1_164 : decode prog_91_method_13_code 164 = .ok (.if_icmp .le 27, 3) := by decide +kernel
theorem d1_167 : decode prog_91_method_13_code 167 = .ok (.iload_n 0, 1) := by decide +kernel
theorem d1_168 : decode prog_91_method_13_code 168 = .ok (.ldc 107, 2) := by decide +kernel
theorem d1_170 : decode prog_91_method_13_code 170 = .ok (.if_icmp .lt 9, 3) := by decide +kernel
theorem d1_173 : decode prog_91_method_13_code 173 = .ok (.iload_n 0, 1) := by decide +kernel
theorem d1_174 : decode prog_91_method_13_code 174 = .ok (.ldc 108, 2) := by decide +kernel
theorem d1_176 : decode prog_91_method_13_code 176 = .ok (.if_icmp .le 15, 3) := by decide +kernel
theorem d1_179 : decode prog_91_method_13_code 179 = .ok (.iload_n 0, 1) := by decide +kernel
theorem d1_180 : decode prog_91_method_13_code 180 = .ok (.ldc 109, 2) := by decide +kernel
theorem d1_182 : decode prog_91_method_13_code 182 = .ok (.if_icmp .lt 13, 3) := by decide +kernel
theorem d1_185 : decode prog_91_method_13_code 185 = .ok (.iload_n 0, 1) := by decide +kernel
theorem d1_186 : decode prog_91_method_13_code 186 = .ok (.ldc 110, 2) := by decide +kernel
theorem d1_188 : decode prog_91_method_13_code 188 = .ok (.if_icmp .gt 7, 3) := by decide +kernel
theorem d1_191 : decode prog_91_method_13_code 191 = .ok (.iconst 1, 1) := by decide +kernel
theorem d1_192 : decode prog_91_method_13_code 192 = .ok (.goto 4, 3) := by decide +kernel
theorem d1_195 : decode prog_91_method_13_code 195 = .ok (.iconst 0, 1) := by decide +kernel
theorem d1_196 : decode prog_91_method_13_code 196 = .ok (.ireturn, 1) := by decide +kernel
theorem pn_1 : plainName "com/example/resultree/resultree/xdm/NodeName" = true := by first | (simp [plainName, overriddenIn]; done) | decide +kernel
theorem ef_1 (m : MethodId) (p0 : Int32) : entryFrame m #[(.int p0)] 1 = mkF m 0 #[.val (.int p0)] [] := by first | (simp [entryFrame, mkF, argsToLocals, Value.category]; done) | rfl
def Q1 (Z : State) (p0 : Int32)  (h0 : Heap) (n0 : Nat) (v : Option Value) (h : Heap) (L : List Loc) : Prop := v = some (.int (own_in own_R1 p0)) ∧ Fr n0 L ∧ h = h0
set_option maxRecDepth 65536 in
set_option maxHeartbeats 40000000 in
theorem rm1 (l : Launch) (Z : State) (a0 : Array Value) (hw : ∀ d ∈ tables_1, d.before a0 Z = true) (ws : List Jvm.Cond) (p0 : Int32)  (h0 : Heap) (n0 : Nat) (Z0 : n0 ≤ h0.size)  :
    MetFree l (⟨"com/example/resultree/resultree/xdm/NodeName", "isNameStartChar", "(I)Z"⟩ : MethodName) (head1 (Jvm.Cond.code (⟨"com/example/resultree/resultree/xdm/NodeName", "isNameStartChar", "(I)Z"⟩ : MethodName) prog_91_method_13_code 1 (some .boolean) :: ws) ({ frames := 0, cells := 0, slots := 0, locals := 0 } : Room)) (fun a U => a = #[(.int p0)] ∧ Z.Warmed39 U.vm ∧ U.heap = h0) (fun _ _ _ _ _ => True) (fun _ U o U' => ∃ v L, o = .returned v ∧ Q1 Z p0 h0 n0 v U'.heap L ∧ FrameEnd U o U' L ({ frames := 0, cells := 0, slots := 0, locals := 0 } : Room).cells ({ frames := 0, cells := 0, slots := 0, locals := 0 } : Room).slots) := by
  refine MetFree.of_bodySF (plainFor_of_name pn_1) hisR ?_
  intro p e s m args below meth c s₁ Bd hml0 hP hK
  obtain ⟨rfl, hZ, hh⟩ := hP
  have hx := Bd.exec
  have hby := Bd.bytes
  have hml : c.maxLocals = 1 := hml0
  have hown : s.vm.findClass "com/example/resultree/resultree/xdm/NodeName" = some m.cls := findClass_of_methodNamed Bd.named
  have X0 : Stand p l e ({ frames := 0, cells := 0, slots := 0, locals := 0 } : Room) s m #[(.int p0)] below meth c s₁ [] 0 0 := Stand.of_body Bd
  have e0 : s₁.heap = h0 := by rw [← hh, Bd.state]; rfl
  have N0 := Fr.nil n0
  show own_G p e below (own_P s (Q1 Z p0 h0 n0) 0 0) _
  refine own_via (A' := s₁.setTop (mkF m 0 #[.val (.int p0)] [])) (fun t k => castTop (ef_1 m p0) k) ?_
  have j191 : own_in own_R1 p0 = 1 → own_G p e below (own_P s (Q1 Z p0 h0 n0) 0 0) (s₁.setTop (mkF m 191 #[.val (.int p0)] [])) := fun hv => by
    refine own_via (A' := s₁.setTop (mkF m 196 #[.val (.int p0)] [(.int (1 : Int32))])) (fun target kt => ?_) ?_
    · show Steps p.tables e below (s₁.setTop (mkF m 191 #[.val (.int p0)] [])) _
      refine XS.iconst X0.here hx rfl (hb hby d1_191) ?_
      show Steps p.tables e below (s₁.setTop (mkF m 192 #[.val (.int p0)] [(.int (1 : Int32))])) _
      refine XS.goto X0.here hx rfl (pc0 := 192) (pc' := 196) rfl (hb hby d1_192) (by decide) (by decide) ?_
      exact kt
    exact own_retN X0 Bd.notSynchronized hx (t := .boolean) Bd.returns (by simp) (hb hby d1_196) (show Q1 Z p0 h0 n0 _ _ _ from ⟨by rw [hv] <;> rfl, N0, e0⟩) (by decide) (by decide)
  have j195 : own_in own_R1 p0 = 0 → own_G p e below (own_P s (Q1 Z p0 h0 n0) 0 0) (s₁.setTop (mkF m 195 #[.val (.int p0)] [])) := fun hv => by
    refine own_via (A' := s₁.setTop (mkF m 196 #[.val (.int p0)] [(.int (0 : Int32))])) (fun target kt => ?_) ?_
    · show Steps p.tables e below (s₁.setTop (mkF m 195 #[.val (.int p0)] [])) _
      refine XS.iconst X0.here hx rfl (hb hby d1_195) ?_
      exact kt
    exact own_retN X0 Bd.notSynchronized hx (t := .boolean) Bd.returns (by simp) (hb hby d1_196) (show Q1 Z p0 h0 n0 _ _ _ from ⟨by rw [hv] <;> rfl, N0, e0⟩) (by decide) (by decide)
  have j179 : own_in own_R1 p0 = own_in [(65536, 983039)] p0 → own_G p e below (own_P s (Q1 Z p0 h0 n0) 0 0) (s₁.setTop (mkF m 179 #[.val (.int p0)] [])) := fun hv => by
    refine own_via (A' := s₁.setTop (mkF m 182 #[.val (.int p0)] [(.int (65536 : Int32)), (.int p0)])) (fun target kt => ?_) ?_
    · show Steps p.tables e below (s₁.setTop (mkF m 179 #[.val (.int p0)] [])) _
      refine XS.iloadN X0.here hx rfl (hb hby d1_179) rfl ?_
      show Steps p.tables e below (s₁.setTop (mkF m 180 #[.val (.int p0)] [(.int p0)])) _
      refine X0.ldcInt hx hown (mvT hZ (hw _ (List.mem_of_getElem? (i := 15) rfl))) (g := (mkF m 180 #[.val (.int p0)] [(.int p0)])) rfl (hb hby d1_180) _ ?_
      exact kt
    by_cases hc182 : p0 < (65536 : Int32)
    · refine own_via (A' := s₁.setTop (mkF m 195 #[.val (.int p0)] [])) (fun target kt => XS.icmpYes X0.here hx rfl (pc0 := 182) (pc' := 195) rfl (hb hby d1_182) rfl (tlt hc182).1 (by decide) (by decide) kt) ?_
      exact j195 (hv.trans (own_in_no (Or.inl hc182)))
    · refine own_via (A' := s₁.setTop (mkF m 185 #[.val (.int p0)] [])) (fun target kt => XS.icmpNo X0.here hx rfl (hb hby d1_182) rfl (flt hc182).1 kt) ?_
      refine own_via (A' := s₁.setTop (mkF m 188 #[.val (.int p0)] [(.int (983039 : Int32)), (.int p0)])) (fun target kt => ?_) ?_
      · show Steps p.tables e below (s₁.setTop (mkF m 185 #[.val (.int p0)] [])) _
        refine XS.iloadN X0.here hx rfl (hb hby d1_185) rfl ?_
        show Steps p.tables e below (s₁.setTop (mkF m 186 #[.val (.int p0)] [(.int p0)])) _
        refine X0.ldcInt hx hown (mvT hZ (hw _ (List.mem_of_getElem? (i := 21) rfl))) (g := (mkF m 186 #[.val (.int p0)] [(.int p0)])) rfl (hb hby d1_186) _ ?_
        exact kt
      by_cases hc188 : (983039 : Int32) < p0
      · refine own_via (A' := s₁.setTop (mkF m 195 #[.val (.int p0)] [])) (fun target kt => XS.icmpYes X0.here hx rfl (pc0 := 188) (pc' := 195) rfl (hb hby d1_188) rfl (tlt hc188).2.2.1 (by decide) (by decide) kt) ?_
        exact j195 (hv.trans (own_in_no (Or.inr hc188)))
      · refine own_via (A' := s₁.setTop (mkF m 191 #[.val (.int p0)] [])) (fun target kt => XS.icmpNo X0.here hx rfl (hb hby d1_188) rfl (flt hc188).2.2.1 kt) ?_
        exact j191 (hv.trans (own_in_yes hc182 hc188))
  have j167 : own_in own_R1 p0 = own_in [(65008, 65533), (65536, 983039)] p0 → own_G p e below (own_P s (Q1 Z p0 h0 n0) 0 0) (s₁.setTop (mkF m 167 #[.val (.int p0)] [])) := fun hv => by
    refine own_via (A' := s₁.setTop (mkF m 170 #[.val (.int p0)] [(.int (65008 : Int32)), (.int p0)])) (fun target kt => ?_) ?_
    · show Steps p.tables e below (s₁.setTop (mkF m 167 #[.val (.int p0)] [])) _
      refine XS.iloadN X0.here hx rfl (hb hby d1_167) rfl ?_
      show Steps p.tables e below (s₁.setTop (mkF m 168 #[.val (.int p0)] [(.int p0)])) _
      refine X0.ldcInt hx hown (mvT hZ (hw _ (List.mem_of_getElem? (i := 14) rfl))) (g := (mkF m 168 #[.val (.int p0)] [(.int p0)])) rfl (hb hby d1_168) _ ?_
      exact kt
    by_cases hc170 : p0 < (65008 : Int32)
    · refine own_via (A' := s₁.setTop (mkF m 179 #[.val (.int p0)] [])) (fun target kt => XS.icmpYes X0.here hx rfl (pc0 := 170) (pc' := 179) rfl (hb hby d1_170) rfl (tlt hc170).1 (by decide) (by decide) kt) ?_
      exact j179 (hv.trans (own_in_no (Or.inl hc170)))
    · refine own_via (A' := s₁.setTop (mkF m 173 #[.val (.int p0)] [])) (fun target kt => XS.icmpNo X0.here hx rfl (hb hby d1_170) rfl (flt hc170).1 kt) ?_
      refine own_via (A' := s₁.setTop (mkF m 176 #[.val (.int p0)] [(.int (65533 : Int32)), (.int p0)])) (fun target kt => ?_) ?_
      · show Steps p.tables e below (s₁.setTop (mkF m 173 #[.val (.int p0)] [])) _
        refine XS.iloadN X0.here hx rfl (hb hby d1_173) rfl ?_
        show Steps p.tables e below (s₁.setTop (mkF m 174 #[.val (.int p0)] [(.int p0)])) _
        refine X0.ldcInt hx hown (mvT hZ (hw _ (List.mem_of_getElem? (i := 20) rfl))) (g := (mkF m 174 #[.val (.int p0)] [(.int p0)])) rfl (hb hby d1_174) _ ?_
        exact kt
      by_cases hc176 : (65533 : Int32) < p0
      · refine own_via (A' := s₁.setTop (mkF m 179 #[.val (.int p0)] [])) (fun target kt => XS.icmpNo X0.here hx rfl (hb hby d1_176) rfl (tlt hc176).2.2.2 kt) ?_
        exact j179 (hv.trans (own_in_no (Or.inr hc176)))
      · refine own_via (A' := s₁.setTop (mkF m 191 #[.val (.int p0)] [])) (fun target kt => XS.icmpYes X0.here hx rfl (pc0 := 176) (pc' := 191) rfl (hb hby d1_176) rfl (flt hc176).2.2.2 (by decide) (by decide) kt) ?_
        exact j191 (hv.trans (own_in_yes hc170 hc176))
  have j155 : own_in own_R1 p0 = own_in [(63744, 64975), (65008, 65533), (65536, 983039)] p0 → own_G p e below (own_P s (Q1 Z p0 h0 n0) 0 0) (s₁.setTop (mkF m 155 #[.val (.int p0)] [])) := fun hv => by
    refine own_via (A' := s₁.setTop (mkF m 158 #[.val (.int p0)] [(.int (63744 : Int32)), (.int p0)])) (fun target kt => ?_) ?_
    · show Steps p.tables e below (s₁.setTop (mkF m 155 #[.val (.int p0)] [])) _
      refine XS.iloadN X0.here hx rfl (hb hby d1_155) rfl ?_
      show Steps p.tables e below (s₁.setTop (mkF m 156 #[.val (.int p0)] [(.int p0)])) _
      refine X0.ldcInt hx hown (mvT hZ (hw _ (List.mem_of_getElem? (i := 13) rfl))) (g := (mkF m 156 #[.val (.int p0)] [(.int p0)])) rfl (hb hby d1_156) _ ?_
      exact kt
    by_cases hc158 : p0 < (63744 : Int32)
    · refine own_via (A' := s₁.setTop (mkF m 167 #[.val (.int p0)] [])) (fun target kt => XS.icmpYes X0.here hx rfl (pc0 := 158) (pc' := 167) rfl (hb hby d1_158) rfl (tlt hc158).1 (by decide) (by decide) kt) ?_
      exact j167 (hv.trans (own_in_no (Or.inl hc158)))
    · refine own_via (A' := s₁.setTop (mkF m 161 #[.val (.int p0)] [])) (fun target kt => XS.icmpNo X0.here hx rfl (hb hby d1_158) rfl (flt hc158).1 kt) ?_
      refine own_via (A' := s₁.setTop (mkF m 164 #[.val (.int p0)] [(.int (64975 : Int32)), (.int p0)])) (fun target kt => ?_) ?_
      · show Steps p.tables e below (s₁.setTop (mkF m 161 #[.val (.int p0)] [])) _
        refine XS.iloadN X0.here hx rfl (hb hby d1_161) rfl ?_
        show Steps p.tables e below (s₁.setTop (mkF m 162 #[.val (.int p0)] [(.int p0)])) _
        refine X0.ldcInt hx hown (mvT hZ (hw _ (List.mem_of_getElem? (i := 19) rfl))) (g := (mkF m 162 #[.val (.int p0)] [(.int p0)])) rfl (hb hby d1_162) _ ?_
        exact kt
      by_cases hc164 : (64975 : Int32) < p0
      · refine own_via (A' := s₁.setTop (mkF m 167 #[.val (.int p0)] [])) (fun target kt => XS.icmpNo X0.here hx rfl (hb hby d1_164) rfl (tlt hc164).2.2.2 kt) ?_
        exact j167 (hv.trans (own_in_no (Or.inr hc164)))
      · refine own_via (A' := s₁.setTop (mkF m 191 #[.val (.int p0)] [])) (fun target kt => XS.icmpYes X0.here hx rfl (pc0 := 164) (pc' := 191) rfl (hb hby d1_164) rfl (flt hc164).2.2.2 (by decide) (by decide) kt) ?_
        exact j191 (hv.trans (own_in_yes hc158 hc164))
  have j142 : own_in own_R1 p0 = own_in [(12289, 55295), (63744, 64975), (65008, 65533), (65536, 983039)] p0 → own_G p e below (own_P s (Q1 Z p0 h0 n0) 0 0) (s₁.setTop (mkF m 142 #[.val (.int p0)] [])) := fun hv => by
    refine own_via (A' := s₁.setTop (mkF m 146 #[.val (.int p0)] [(.int (12289 : Int32)), (.int p0)])) (fun target kt => ?_) ?_
    · show Steps p.tables e below (s₁.setTop (mkF m 142 #[.val (.int p0)] [])) _
      refine XS.iloadN X0.here hx rfl (hb hby d1_142) rfl ?_
      show Steps p.tables e below (s₁.setTop (mkF m 143 #[.val (.int p0)] [(.int p0)])) _
      refine XS.sipush X0.here hx rfl (hb hby d1_143) ?_
      exact kt
    by_cases hc146 : p0 < (12289 : Int32)
    · refine own_via (A' := s₁.setTop (mkF m 155 #[.val (.int p0)] [])) (fun target kt => XS.icmpYes X0.here hx rfl (pc0 := 146) (pc' := 155) rfl (hb hby d1_146) rfl (tlt hc146).1 (by decide) (by decide) kt) ?_
      exact j155 (hv.trans (own_in_no (Or.inl hc146)))
    · refine own_via (A' := s₁.setTop (mkF m 149 #[.val (.int p0)] [])) (fun target kt => XS.icmpNo X0.here hx rfl (hb hby d1_146) rfl (flt hc146).1 kt) ?_
      refine own_via (A' := s₁.setTop (mkF m 152 #[.val (.int p0)] [(.int (55295 : Int32)), (.int p0)])) (fun target kt => ?_) ?_
      · show Steps p.tables e below (s₁.setTop (mkF m 149 #[.val (.int p0)] [])) _
        refine XS.iloadN X0.here hx rfl (hb hby d1_149) rfl ?_
        show Steps p.tables e below (s₁.setTop (mkF m 150 #[.val (.int p0)] [(.int p0)])) _
        refine X0.ldcInt hx hown (mvT hZ (hw _ (List.mem_of_getElem? (i := 16) rfl))) (g := (mkF m 150 #[.val (.int p0)] [(.int p0)])) rfl (hb hby d1_150) _ ?_
        exact kt
      by_cases hc152 : (55295 : Int32) < p0
      · refine own_via (A' := s₁.setTop (mkF m 155 #[.val (.int p0)] [])) (fun target kt => XS.icmpNo X0.here hx rfl (hb hby d1_152) rfl (tlt hc152).2.2.2 kt) ?_
        exact j155 (hv.trans (own_in_no (Or.inr hc152)))
      · refine own_via (A' := s₁.setTop (mkF m 191 #[.val (.int p0)] [])) (fun target kt => XS.icmpYes X0.here hx rfl (pc0 := 152) (pc' := 191) rfl (hb hby d1_152) rfl (flt hc152).2.2.2 (by decide) (by decide) kt) ?_
        exact j191 (hv.trans (own_in_yes hc146 hc152))
  have j128 : own_in own_R1 p0 = own_in [(11264, 12271), (12289, 55295), (63744, 64975), (65008, 65533), (65536, 983039)] p0 → own_G p e below (own_P s (Q1 Z p0 h0 n0) 0 0) (s₁.setTop (mkF m 128 #[.val (.int p0)] [])) := fun hv => by
    refine own_via (A' := s₁.setTop (mkF m 132 #[.val (.int p0)] [(.int (11264 : Int32)), (.int p0)])) (fun target kt => ?_) ?_
    · show Steps p.tables e below (s₁.setTop (mkF m 128 #[.val (.int p0)] [])) _
      refine XS.iloadN X0.here hx rfl (hb hby d1_128) rfl ?_
      show Steps p.tables e below (s₁.setTop (mkF m 129 #[.val (.int p0)] [(.int p0)])) _
      refine XS.sipush X0.here hx rfl (hb hby d1_129) ?_
      exact kt
    by_cases hc132 : p0 < (11264 : Int32)
    · refine own_via (A' := s₁.setTop (mkF m 142 #[.val (.int p0)] [])) (fun target kt => XS.icmpYes X0.here hx rfl (pc0 := 132) (pc' := 142) rfl (hb hby d1_132) rfl (tlt hc132).1 (by decide) (by decide) kt) ?_
      exact j142 (hv.trans (own_in_no (Or.inl hc132)))
    · refine own_via (A' := s₁.setTop (mkF m 135 #[.val (.int p0)] [])) (fun target kt => XS.icmpNo X0.here hx rfl (hb hby d1_132) rfl (flt hc132).1 kt) ?_
      refine own_via (A' := s₁.setTop (mkF m 139 #[.val (.int p0)] [(.int (12271 : Int32)), (.int p0)])) (fun target kt => ?_) ?_
      · show Steps p.tables e below (s₁.setTop (mkF m 135 #[.val (.int p0)] [])) _
        refine XS.iloadN X0.here hx rfl (hb hby d1_135) rfl ?_
        show Steps p.tables e below (s₁.setTop (mkF m 136 #[.val (.int p0)] [(.int p0)])) _
        refine XS.sipush X0.here hx rfl (hb hby d1_136) ?_
        exact kt
      by_cases hc139 : (12271 : Int32) < p0
      · refine own_via (A' := s₁.setTop (mkF m 142 #[.val (.int p0)] [])) (fun target kt => XS.icmpNo X0.here hx rfl (hb hby d1_139) rfl (tlt hc139).2.2.2 kt) ?_
        exact j142 (hv.trans (own_in_no (Or.inr hc139)))
      · refine own_via (A' := s₁.setTop (mkF m 191 #[.val (.int p0)] [])) (fun target kt => XS.icmpYes X0.here hx rfl (pc0 := 139) (pc' := 191) rfl (hb hby d1_139) rfl (flt hc139).2.2.2 (by decide) (by decide) kt) ?_
        exact j191 (hv.trans (own_in_yes hc132 hc139))
  have j114 : own_in own_R1 p0 = own_in [(8304, 8591), (11264, 12271), (12289, 55295), (63744, 64975), (65008, 65533), (65536, 983039)] p0 → own_G p e below (own_P s (Q1 Z p0 h0 n0) 0 0) (s₁.setTop (mkF m 114 #[.val (.int p0)] [])) := fun hv => by
    refine own_via (A' := s₁.setTop (mkF m 118 #[.val (.int p0)] [(.int (8304 : Int32)), (.int p0)])) (fun target kt => ?_) ?_
    · show Steps p.tables e below (s₁.setTop (mkF m 114 #[.val (.int p0)] [])) _
      refine XS.iloadN X0.here hx rfl (hb hby d1_114) rfl ?_
      show Steps p.tables e below (s₁.setTop (mkF m 115 #[.val (.int p0)] [(.int p0)])) _
      refine XS.sipush X0.here hx rfl (hb hby d1_115) ?_
      exact kt
    by_cases hc118 : p0 < (8304 : Int32)
    · refine own_via (A' := s₁.setTop (mkF m 128 #[.val (.int p0)] [])) (fun target kt => XS.icmpYes X0.here hx rfl (pc0 := 118) (pc' := 128) rfl (hb hby d1_118) rfl (tlt hc118).1 (by decide) (by decide) kt) ?_
      exact j128 (hv.trans (own_in_no (Or.inl hc118)))
    · refine own_via (A' := s₁.setTop (mkF m 121 #[.val (.int p0)] [])) (fun target kt => XS.icmpNo X0.here hx rfl (hb hby d1_118) rfl (flt hc118).1 kt) ?_
      refine own_via (A' := s₁.setTop (mkF m 125 #[.val (.int p0)] [(.int (8591 : Int32)), (.int p0)])) (fun target kt => ?_) ?_
      · show Steps p.tables e below (s₁.setTop (mkF m 121 #[.val (.int p0)] [])) _
        refine XS.iloadN X0.here hx rfl (hb hby d1_121) rfl ?_
        show Steps p.tables e below (s₁.setTop (mkF m 122 #[.val (.int p0)] [(.int p0)])) _
        refine XS.sipush X0.here hx rfl (hb hby d1_122) ?_
        exact kt
      by_cases hc125 : (8591 : Int32) < p0
      · refine own_via (A' := s₁.setTop (mkF m 128 #[.val (.int p0)] [])) (fun target kt => XS.icmpNo X0.here hx rfl (hb hby d1_125) rfl (tlt hc125).2.2.2 kt) ?_
        exact j128 (hv.trans (own_in_no (Or.inr hc125)))
      · refine own_via (A' := s₁.setTop (mkF m 191 #[.val (.int p0)] [])) (fun target kt => XS.icmpYes X0.here hx rfl (pc0 := 125) (pc' := 191) rfl (hb hby d1_125) rfl (flt hc125).2.2.2 (by decide) (by decide) kt) ?_
        exact j191 (hv.trans (own_in_yes hc118 hc125))
  have j100 : own_in own_R1 p0 = own_in [(8204, 8205), (8304, 8591), (11264, 12271), (12289, 55295), (63744, 64975), (65008, 65533), (65536, 983039)] p0 → own_G p e below (own_P s (Q1 Z p0 h0 n0) 0 0) (s₁.setTop (mkF m 100 #[.val (.int p0)] [])) := fun hv => by
    refine own_via (A' := s₁.setTop (mkF m 104 #[.val (.int p0)] [(.int (8204 : Int32)), (.int p0)])) (fun target kt => ?_) ?_
    · show Steps p.tables e below (s₁.setTop (mkF m 100 #[.val (.int p0)] [])) _
      refine XS.iloadN X0.here hx rfl (hb hby d1_100) rfl ?_
      show Steps p.tables e below (s₁.setTop (mkF m 101 #[.val (.int p0)] [(.int p0)])) _
      refine XS.sipush X0.here hx rfl (hb hby d1_101) ?_
      exact kt
    by_cases hc104 : p0 < (8204 : Int32)
    · refine own_via (A' := s₁.setTop (mkF m 114 #[.val (.int p0)] [])) (fun target kt => XS.icmpYes X0.here hx rfl (pc0 := 104) (pc' := 114) rfl (hb hby d1_104) rfl (tlt hc104).1 (by decide) (by decide) kt) ?_
      exact j114 (hv.trans (own_in_no (Or.inl hc104)))
    · refine own_via (A' := s₁.setTop (mkF m 107 #[.val (.int p0)] [])) (fun target kt => XS.icmpNo X0.here hx rfl (hb hby d1_104) rfl (flt hc104).1 kt) ?_
      refine own_via (A' := s₁.setTop (mkF m 111 #[.val (.int p0)] [(.int (8205 : Int32)), (.int p0)])) (fun target kt => ?_) ?_
      · show Steps p.tables e below (s₁.setTop (mkF m 107 #[.val (.int p0)] [])) _
        refine XS.iloadN X0.here hx rfl (hb hby d1_107) rfl ?_
        show Steps p.tables e below (s₁.setTop (mkF m 108 #[.val (.int p0)] [(.int p0)])) _
        refine XS.sipush X0.here hx rfl (hb hby d1_108) ?_
        exact kt
      by_cases hc111 : (8205 : Int32) < p0
      · refine own_via (A' := s₁.setTop (mkF m 114 #[.val (.int p0)] [])) (fun target kt => XS.icmpNo X0.here hx rfl (hb hby d1_111) rfl (tlt hc111).2.2.2 kt) ?_
        exact j114 (hv.trans (own_in_no (Or.inr hc111)))
      · refine own_via (A' := s₁.setTop (mkF m 191 #[.val (.int p0)] [])) (fun target kt => XS.icmpYes X0.here hx rfl (pc0 := 111) (pc' := 191) rfl (hb hby d1_111) rfl (flt hc111).2.2.2 (by decide) (by decide) kt) ?_
        exact j191 (hv.trans (own_in_yes hc104 hc111))
  have j86 : own_in own_R1 p0 = own_in [(895, 8191), (8204, 8205), (8304, 8591), (11264, 12271), (12289, 55295), (63744, 64975), (65008, 65533), (65536, 983039)] p0 → own_G p e below (own_P s (Q1 Z p0 h0 n0) 0 0) (s₁.setTop (mkF m 86 #[.val (.int p0)] [])) := fun hv => by
    refine own_via (A' := s₁.setTop (mkF m 90 #[.val (.int p0)] [(.int (895 : Int32)), (.int p0)])) (fun target kt => ?_) ?_
    · show Steps p.tables e below (s₁.setTop (mkF m 86 #[.val (.int p0)] [])) _
      refine XS.iloadN X0.here hx rfl (hb hby d1_86) rfl ?_
      show Steps p.tables e below (s₁.setTop (mkF m 87 #[.val (.int p0)] [(.int p0)])) _
      refine XS.sipush X0.here hx rfl (hb hby d1_87) ?_
      exact kt
    by_cases hc90 : p0 < (895 : Int32)
    · refine own_via (A' := s₁.setTop (mkF m 100 #[.val (.int p0)] [])) (fun target kt => XS.icmpYes X0.here hx rfl (pc0 := 90) (pc' := 100) rfl (hb hby d1_90) rfl (tlt hc90).1 (by decide) (by decide) kt) ?_
      exact j100 (hv.trans (own_in_no (Or.inl hc90)))
    · refine own_via (A' := s₁.setTop (mkF m 93 #[.val (.int p0)] [])) (fun target kt => XS.icmpNo X0.here hx rfl (hb hby d1_90) rfl (flt hc90).1 kt) ?_
      refine own_via (A' := s₁.setTop (mkF m 97 #[.val (.int p0)] [(.int (8191 : Int32)), (.int p0)])) (fun target kt => ?_) ?_
      · show Steps p.tables e below (s₁.setTop (mkF m 93 #[.val (.int p0)] [])) _
        refine XS.iloadN X0.here hx rfl (hb hby d1_93) rfl ?_
        show Steps p.tables e below (s₁.setTop (mkF m 94 #[.val (.int p0)] [(.int p0)])) _
        refine XS.sipush X0.here hx rfl (hb hby d1_94) ?_
        exact kt
      by_cases hc97 : (8191 : Int32) < p0
      · refine own_via (A' := s₁.setTop (mkF m 100 #[.val (.int p0)] [])) (fun target kt => XS.icmpNo X0.here hx rfl (hb hby d1_97) rfl (tlt hc97).2.2.2 kt) ?_
        exact j100 (hv.trans (own_in_no (Or.inr hc97)))
      · refine own_via (A' := s₁.setTop (mkF m 191 #[.val (.int p0)] [])) (fun target kt => XS.icmpYes X0.here hx rfl (pc0 := 97) (pc' := 191) rfl (hb hby d1_97) rfl (flt hc97).2.2.2 (by decide) (by decide) kt) ?_
        exact j191 (hv.trans (own_in_yes hc90 hc97))
  have j72 : own_in own_R1 p0 = own_in [(880, 893), (895, 8191), (8204, 8205), (8304, 8591), (11264, 12271), (12289, 55295), (63744, 64975), (65008, 65533), (65536, 983039)] p0 → own_G p e below (own_P s (Q1 Z p0 h0 n0) 0 0) (s₁.setTop (mkF m 72 #[.val (.int p0)] [])) := fun hv => by
    refine own_via (A' := s₁.setTop (mkF m 76 #[.val (.int p0)] [(.int (880 : Int32)), (.int p0)])) (fun target kt => ?_) ?_
    · show Steps p.tables e below (s₁.setTop (mkF m 72 #[.val (.int p0)] [])) _
      refine XS.iloadN X0.here hx rfl (hb hby d1_72) rfl ?_
      show Steps p.tables e below (s₁.setTop (mkF m 73 #[.val (.int p0)] [(.int p0)])) _
      refine XS.sipush X0.here hx rfl (hb hby d1_73) ?_
      exact kt
    by_cases hc76 : p0 < (880 : Int32)
    · refine own_via (A' := s₁.setTop (mkF m 86 #[.val (.int p0)] [])) (fun target kt => XS.icmpYes X0.here hx rfl (pc0 := 76) (pc' := 86) rfl (hb hby d1_76) rfl (tlt hc76).1 (by decide) (by decide) kt) ?_
      exact j86 (hv.trans (own_in_no (Or.inl hc76)))
    · refine own_via (A' := s₁.setTop (mkF m 79 #[.val (.int p0)] [])) (fun target kt => XS.icmpNo X0.here hx rfl (hb hby d1_76) rfl (flt hc76).1 kt) ?_
      refine own_via (A' := s₁.setTop (mkF m 83 #[.val (.int p0)] [(.int (893 : Int32)), (.int p0)])) (fun target kt => ?_) ?_
      · show Steps p.tables e below (s₁.setTop (mkF m 79 #[.val (.int p0)] [])) _
        refine XS.iloadN X0.here hx rfl (hb hby d1_79) rfl ?_
        show Steps p.tables e below (s₁.setTop (mkF m 80 #[.val (.int p0)] [(.int p0)])) _
        refine XS.sipush X0.here hx rfl (hb hby d1_80) ?_
        exact kt
      by_cases hc83 : (893 : Int32) < p0
      · refine own_via (A' := s₁.setTop (mkF m 86 #[.val (.int p0)] [])) (fun target kt => XS.icmpNo X0.here hx rfl (hb hby d1_83) rfl (tlt hc83).2.2.2 kt) ?_
        exact j86 (hv.trans (own_in_no (Or.inr hc83)))
      · refine own_via (A' := s₁.setTop (mkF m 191 #[.val (.int p0)] [])) (fun target kt => XS.icmpYes X0.here hx rfl (pc0 := 83) (pc' := 191) rfl (hb hby d1_83) rfl (flt hc83).2.2.2 (by decide) (by decide) kt) ?_
        exact j191 (hv.trans (own_in_yes hc76 hc83))
  have j58 : own_in own_R1 p0 = own_in [(248, 767), (880, 893), (895, 8191), (8204, 8205), (8304, 8591), (11264, 12271), (12289, 55295), (63744, 64975), (65008, 65533), (65536, 983039)] p0 → own_G p e below (own_P s (Q1 Z p0 h0 n0) 0 0) (s₁.setTop (mkF m 58 #[.val (.int p0)] [])) := fun hv => by
    refine own_via (A' := s₁.setTop (mkF m 62 #[.val (.int p0)] [(.int (248 : Int32)), (.int p0)])) (fun target kt => ?_) ?_
    · show Steps p.tables e below (s₁.setTop (mkF m 58 #[.val (.int p0)] [])) _
      refine XS.iloadN X0.here hx rfl (hb hby d1_58) rfl ?_
      show Steps p.tables e below (s₁.setTop (mkF m 59 #[.val (.int p0)] [(.int p0)])) _
      refine XS.sipush X0.here hx rfl (hb hby d1_59) ?_
      exact kt
    by_cases hc62 : p0 < (248 : Int32)
    · refine own_via (A' := s₁.setTop (mkF m 72 #[.val (.int p0)] [])) (fun target kt => XS.icmpYes X0.here hx rfl (pc0 := 62) (pc' := 72) rfl (hb hby d1_62) rfl (tlt hc62).1 (by decide) (by decide) kt) ?_
      exact j72 (hv.trans (own_in_no (Or.inl hc62)))
    · refine own_via (A' := s₁.setTop (mkF m 65 #[.val (.int p0)] [])) (fun target kt => XS.icmpNo X0.here hx rfl (hb hby d1_62) rfl (flt hc62).1 kt) ?_
      refine own_via (A' := s₁.setTop (mkF m 69 #[.val (.int p0)] [(.int (767 : Int32)), (.int p0)])) (fun target kt => ?_) ?_
      · show Steps p.tables e below (s₁.setTop (mkF m 65 #[.val (.int p0)] [])) _
        refine XS.iloadN X0.here hx rfl (hb hby d1_65) rfl ?_
        show Steps p.tables e below (s₁.setTop (mkF m 66 #[.val (.int p0)] [(.int p0)])) _
        refine XS.sipush X0.here hx rfl (hb hby d1_66) ?_
        exact kt
      by_cases hc69 : (767 : Int32) < p0
      · refine own_via (A' := s₁.setTop (mkF m 72 #[.val (.int p0)] [])) (fun target kt => XS.icmpNo X0.here hx rfl (hb hby d1_69) rfl (tlt hc69).2.2.2 kt) ?_
        exact j72 (hv.trans (own_in_no (Or.inr hc69)))
      · refine own_via (A' := s₁.setTop (mkF m 191 #[.val (.int p0)] [])) (fun target kt => XS.icmpYes X0.here hx rfl (pc0 := 69) (pc' := 191) rfl (hb hby d1_69) rfl (flt hc69).2.2.2 (by decide) (by decide) kt) ?_
        exact j191 (hv.trans (own_in_yes hc62 hc69))
  have j44 : own_in own_R1 p0 = own_in [(216, 246), (248, 767), (880, 893), (895, 8191), (8204, 8205), (8304, 8591), (11264, 12271), (12289, 55295), (63744, 64975), (65008, 65533), (65536, 983039)] p0 → own_G p e below (own_P s (Q1 Z p0 h0 n0) 0 0) (s₁.setTop (mkF m 44 #[.val (.int p0)] [])) := fun hv => by
    refine own_via (A' := s₁.setTop (mkF m 48 #[.val (.int p0)] [(.int (216 : Int32)), (.int p0)])) (fun target kt => ?_) ?_
    · show Steps p.tables e below (s₁.setTop (mkF m 44 #[.val (.int p0)] [])) _
      refine XS.iloadN X0.here hx rfl (hb hby d1_44) rfl ?_
      show Steps p.tables e below (s₁.setTop (mkF m 45 #[.val (.int p0)] [(.int p0)])) _
      refine XS.sipush X0.here hx rfl (hb hby d1_45) ?_
      exact kt
    by_cases hc48 : p0 < (216 : Int32)
    · refine own_via (A' := s₁.setTop (mkF m 58 #[.val (.int p0)] [])) (fun target kt => XS.icmpYes X0.here hx rfl (pc0 := 48) (pc' := 58) rfl (hb hby d1_48) rfl (tlt hc48).1 (by decide) (by decide) kt) ?_
      exact j58 (hv.trans (own_in_no (Or.inl hc48)))
    · refine own_via (A' := s₁.setTop (mkF m 51 #[.val (.int p0)] [])) (fun target kt => XS.icmpNo X0.here hx rfl (hb hby d1_48) rfl (flt hc48).1 kt) ?_
      refine own_via (A' := s₁.setTop (mkF m 55 #[.val (.int p0)] [(.int (246 : Int32)), (.int p0)])) (fun target kt => ?_) ?_
      · show Steps p.tables e below (s₁.setTop (mkF m 51 #[.val (.int p0)] [])) _
        refine XS.iloadN X0.here hx rfl (hb hby d1_51) rfl ?_
        show Steps p.tables e below (s₁.setTop (mkF m 52 #[.val (.int p0)] [(.int p0)])) _
        refine XS.sipush X0.here hx rfl (hb hby d1_52) ?_
        exact kt
      by_cases hc55 : (246 : Int32) < p0
      · refine own_via (A' := s₁.setTop (mkF m 58 #[.val (.int p0)] [])) (fun target kt => XS.icmpNo X0.here hx rfl (hb hby d1_55) rfl (tlt hc55).2.2.2 kt) ?_
        exact j58 (hv.trans (own_in_no (Or.inr hc55)))
      · refine own_via (A' := s₁.setTop (mkF m 191 #[.val (.int p0)] [])) (fun target kt => XS.icmpYes X0.here hx rfl (pc0 := 55) (pc' := 191) rfl (hb hby d1_55) rfl (flt hc55).2.2.2 (by decide) (by decide) kt) ?_
        exact j191 (hv.trans (own_in_yes hc48 hc55))
  have j30 : own_in own_R1 p0 = own_in [(192, 214), (216, 246), (248, 767), (880, 893), (895, 8191), (8204, 8205), (8304, 8591), (11264, 12271), (12289, 55295), (63744, 64975), (65008, 65533), (65536, 983039)] p0 → own_G p e below (own_P s (Q1 Z p0 h0 n0) 0 0) (s₁.setTop (mkF m 30 #[.val (.int p0)] [])) := fun hv => by
    refine own_via (A' := s₁.setTop (mkF m 34 #[.val (.int p0)] [(.int (192 : Int32)), (.int p0)])) (fun target kt => ?_) ?_
    · show Steps p.tables e below (s₁.setTop (mkF m 30 #[.val (.int p0)] [])) _
      refine XS.iloadN X0.here hx rfl (hb hby d1_30) rfl ?_
      show Steps p.tables e below (s₁.setTop (mkF m 31 #[.val (.int p0)] [(.int p0)])) _
      refine XS.sipush X0.here hx rfl (hb hby d1_31) ?_
      exact kt
    by_cases hc34 : p0 < (192 : Int32)
    · refine own_via (A' := s₁.setTop (mkF m 44 #[.val (.int p0)] [])) (fun target kt => XS.icmpYes X0.here hx rfl (pc0 := 34) (pc' := 44) rfl (hb hby d1_34) rfl (tlt hc34).1 (by decide) (by decide) kt) ?_
      exact j44 (hv.trans (own_in_no (Or.inl hc34)))
    · refine own_via (A' := s₁.setTop (mkF m 37 #[.val (.int p0)] [])) (fun target kt => XS.icmpNo X0.here hx rfl (hb hby d1_34) rfl (flt hc34).1 kt) ?_
      refine own_via (A' := s₁.setTop (mkF m 41 #[.val (.int p0)] [(.int (214 : Int32)), (.int p0)])) (fun target kt => ?_) ?_
      · show Steps p.tables e below (s₁.setTop (mkF m 37 #[.val (.int p0)] [])) _
        refine XS.iloadN X0.here hx rfl (hb hby d1_37) rfl ?_
        show Steps p.tables e below (s₁.setTop (mkF m 38 #[.val (.int p0)] [(.int p0)])) _
        refine XS.sipush X0.here hx rfl (hb hby d1_38) ?_
        exact kt
      by_cases hc41 : (214 : Int32) < p0
      · refine own_via (A' := s₁.setTop (mkF m 44 #[.val (.int p0)] [])) (fun target kt => XS.icmpNo X0.here hx rfl (hb hby d1_41) rfl (tlt hc41).2.2.2 kt) ?_
        exact j44 (hv.trans (own_in_no (Or.inr hc41)))
      · refine own_via (A' := s₁.setTop (mkF m 191 #[.val (.int p0)] [])) (fun target kt => XS.icmpYes X0.here hx rfl (pc0 := 41) (pc' := 191) rfl (hb hby d1_41) rfl (flt hc41).2.2.2 (by decide) (by decide) kt) ?_
        exact j191 (hv.trans (own_in_yes hc34 hc41))
  have j24 : own_in own_R1 p0 = own_in [(95, 95), (192, 214), (216, 246), (248, 767), (880, 893), (895, 8191), (8204, 8205), (8304, 8591), (11264, 12271), (12289, 55295), (63744, 64975), (65008, 65533), (65536, 983039)] p0 → own_G p e below (own_P s (Q1 Z p0 h0 n0) 0 0) (s₁.setTop (mkF m 24 #[.val (.int p0)] [])) := fun hv => by
    refine own_via (A' := s₁.setTop (mkF m 27 #[.val (.int p0)] [(.int (95 : Int32)), (.int p0)])) (fun target kt => ?_) ?_
    · show Steps p.tables e below (s₁.setTop (mkF m 24 #[.val (.int p0)] [])) _
      refine XS.iloadN X0.here hx rfl (hb hby d1_24) rfl ?_
      show Steps p.tables e below (s₁.setTop (mkF m 25 #[.val (.int p0)] [(.int p0)])) _
      refine XS.bipush X0.here hx rfl (hb hby d1_25) ?_
      exact kt
    by_cases hc27 : p0 = (95 : Int32)
    · refine own_via (A' := s₁.setTop (mkF m 191 #[.val (.int p0)] [])) (fun target kt => XS.icmpYes X0.here hx rfl (pc0 := 27) (pc' := 191) rfl (hb hby d1_27) rfl (teq hc27).1 (by decide) (by decide) kt) ?_
      exact j191 (hv.trans (own_in_eq hc27))
    · refine own_via (A' := s₁.setTop (mkF m 30 #[.val (.int p0)] [])) (fun target kt => XS.icmpNo X0.here hx rfl (hb hby d1_27) rfl (feq hc27).1 kt) ?_
      exact j30 (hv.trans (own_in_ne hc27))
  have j12 : own_in own_R1 p0 = own_in [(65, 90), (95, 95), (192, 214), (216, 246), (248, 767), (880, 893), (895, 8191), (8204, 8205), (8304, 8591), (11264, 12271), (12289, 55295), (63744, 64975), (65008, 65533), (65536, 983039)] p0 → own_G p e below (own_P s (Q1 Z p0 h0 n0) 0 0) (s₁.setTop (mkF m 12 #[.val (.int p0)] [])) := fun hv => by
    refine own_via (A' := s₁.setTop (mkF m 15 #[.val (.int p0)] [(.int (65 : Int32)), (.int p0)])) (fun target kt => ?_) ?_
    · show Steps p.tables e below (s₁.setTop (mkF m 12 #[.val (.int p0)] [])) _
      refine XS.iloadN X0.here hx rfl (hb hby d1_12) rfl ?_
      show Steps p.tables e below (s₁.setTop (mkF m 13 #[.val (.int p0)] [(.int p0)])) _
      refine XS.bipush X0.here hx rfl (hb hby d1_13) ?_
      exact kt
    by_cases hc15 : p0 < (65 : Int32)
    · refine own_via (A' := s₁.setTop (mkF m 24 #[.val (.int p0)] [])) (fun target kt => XS.icmpYes X0.here hx rfl (pc0 := 15) (pc' := 24) rfl (hb hby d1_15) rfl (tlt hc15).1 (by decide) (by decide) kt) ?_
      exact j24 (hv.trans (own_in_no (Or.inl hc15)))
    · refine own_via (A' := s₁.setTop (mkF m 18 #[.val (.int p0)] [])) (fun target kt => XS.icmpNo X0.here hx rfl (hb hby d1_15) rfl (flt hc15).1 kt) ?_
      refine own_via (A' := s₁.setTop (mkF m 21 #[.val (.int p0)] [(.int (90 : Int32)), (.int p0)])) (fun target kt => ?_) ?_
      · show Steps p.tables e below (s₁.setTop (mkF m 18 #[.val (.int p0)] [])) _
        refine XS.iloadN X0.here hx rfl (hb hby d1_18) rfl ?_
        show Steps p.tables e below (s₁.setTop (mkF m 19 #[.val (.int p0)] [(.int p0)])) _
        refine XS.bipush X0.here hx rfl (hb hby d1_19) ?_
        exact kt
      by_cases hc21 : (90 : Int32) < p0
      · refine own_via (A' := s₁.setTop (mkF m 24 #[.val (.int p0)] [])) (fun target kt => XS.icmpNo X0.here hx rfl (hb hby d1_21) rfl (tlt hc21).2.2.2 kt) ?_
        exact j24 (hv.trans (own_in_no (Or.inr hc21)))
      · refine own_via (A' := s₁.setTop (mkF m 191 #[.val (.int p0)] [])) (fun target kt => XS.icmpYes X0.here hx rfl (pc0 := 21) (pc' := 191) rfl (hb hby d1_21) rfl (flt hc21).2.2.2 (by decide) (by decide) kt) ?_
        exact j191 (hv.trans (own_in_yes hc15 hc21))
  have j0 : own_in own_R1 p0 = own_in [(97, 122), (65, 90), (95, 95), (192, 214), (216, 246), (248, 767), (880, 893), (895, 8191), (8204, 8205), (8304, 8591), (11264, 12271), (12289, 55295), (63744, 64975), (65008, 65533), (65536, 983039)] p0 → own_G p e below (own_P s (Q1 Z p0 h0 n0) 0 0) (s₁.setTop (mkF m 0 #[.val (.int p0)] [])) := fun hv => by
    refine own_via (A' := s₁.setTop (mkF m 3 #[.val (.int p0)] [(.int (97 : Int32)), (.int p0)])) (fun target kt => ?_) ?_
    · show Steps p.tables e below (s₁.setTop (mkF m 0 #[.val (.int p0)] [])) _
      refine XS.iloadN X0.here hx rfl (hb hby d1_0) rfl ?_
      show Steps p.tables e below (s₁.setTop (mkF m 1 #[.val (.int p0)] [(.int p0)])) _
      refine XS.bipush X0.here hx rfl (hb hby d1_1) ?_
      exact kt
    by_cases hc3 : p0 < (97 : Int32)
    · refine own_via (A' := s₁.setTop (mkF m 12 #[.val (.int p0)] [])) (fun target kt => XS.icmpYes X0.here hx rfl (pc0 := 3) (pc' := 12) rfl (hb hby d1_3) rfl (tlt hc3).1 (by decide) (by decide) kt) ?_
      exact j12 (hv.trans (own_in_no (Or.inl hc3)))
    · refine own_via (A' := s₁.setTop (mkF m 6 #[.val (.int p0)] [])) (fun target kt => XS.icmpNo X0.here hx rfl (hb hby d1_3) rfl (flt hc3).1 kt) ?_
      refine own_via (A' := s₁.setTop (mkF m 9 #[.val (.int p0)] [(.int (122 : Int32)), (.int p0)])) (fun target kt => ?_) ?_
      · show Steps p.tables e below (s₁.setTop (mkF m 6 #[.val (.int p0)] [])) _
        refine XS.iloadN X0.here hx rfl (hb hby d1_6) rfl ?_
        show Steps p.tables e below (s₁.setTop (mkF m 7 #[.val (.int p0)] [(.int p0)])) _
        refine XS.bipush X0.here hx rfl (hb hby d1_7) ?_
        exact kt
      by_cases hc9 : (122 : Int32) < p0
      · refine own_via (A' := s₁.setTop (mkF m 12 #[.val (.int p0)] [])) (fun target kt => XS.icmpNo X0.here hx rfl (hb hby d1_9) rfl (tlt hc9).2.2.2 kt) ?_
        exact j12 (hv.trans (own_in_no (Or.inr hc9)))
      · refine own_via (A' := s₁.setTop (mkF m 191 #[.val (.int p0)] [])) (fun target kt => XS.icmpYes X0.here hx rfl (pc0 := 9) (pc' := 191) rfl (hb hby d1_9) rfl (flt hc9).2.2.2 (by decide) (by decide) kt) ?_
        exact j191 (hv.trans (own_in_yes hc3 hc9))
  exact j0 rfl
def own_ws : List Int32 := [0, 65, 91, 95, 96, 97, 123, 192, 215, 216, 247, 248, 768, 880, 894, 895, 8192, 8204, 8206, 8304, 8592, 11264, 12272, 12289, 55296, 63744, 64976, 65008, 65534, 65536, 983040]
def own_inz : List (Int × Int) → Int → Int32
  | [], _ => 0
  | q :: r, c => if c < q.1 ∨ q.2 < c then own_inz r c else 1
theorem own_inz_no {q : Int × Int} {r : List (Int × Int)} {c : Int} (h : c < q.1 ∨ q.2 < c) : own_inz (q :: r) c = own_inz r c := if_pos h
theorem own_inz_yes {q : Int × Int} {r : List (Int × Int)} {c : Int} (h : ¬ (c < q.1 ∨ q.2 < c)) : own_inz (q :: r) c = 1 := if_neg h
theorem own_inz_eq (c : Int32) : ∀ r : List (Int32 × Int32), own_in r c = own_inz (r.map fun q => (q.1.toInt, q.2.toInt)) c.toInt
  | [] => rfl
  | q :: r => by
    show (if c < q.1 ∨ q.2 < c then own_in r c else 1) = if c.toInt < q.1.toInt ∨ q.2.toInt < c.toInt then own_inz (r.map fun q => (q.1.toInt, q.2.toInt)) c.toInt else 1
    rw [own_inz_eq c r]
    simp only [Int32.lt_iff_toInt_lt]
def own_RZ : List (Int × Int) := [(97, 122), (65, 90), (95, 95), (192, 214), (216, 246), (248, 767), (880, 893), (895, 8191), (8204, 8205), (8304, 8591), (11264, 12271), (12289, 55295), (63744, 64975), (65008, 65533), (65536, 983039)]
theorem own_RZ_eq : (own_R1.map fun q => (q.1.toInt, q.2.toInt)) = own_RZ := by decide +kernel
theorem own_par0 (z : Int) (h1 : 0 ≤ z) (h2 : z < 65) : own_inz own_RZ z = 0 := by
  unfold own_RZ
  rw [own_inz_no (q := (97, 122)) (c := z) (by show z < 97 ∨ 122 < z; omega)]
  rw [own_inz_no (q := (65, 90)) (c := z) (by show z < 65 ∨ 90 < z; omega)]
  rw [own_inz_no (q := (95, 95)) (c := z) (by show z < 95 ∨ 95 < z; omega)]
  rw [own_inz_no (q := (192, 214)) (c := z) (by show z < 192 ∨ 214 < z; omega)]
  rw [own_inz_no (q := (216, 246)) (c := z) (by show z < 216 ∨ 246 < z; omega)]
  rw [own_inz_no (q := (248, 767)) (c := z) (by show z < 248 ∨ 767 < z; omega)]
  rw [own_inz_no (q := (880, 893)) (c := z) (by show z < 880 ∨ 893 < z; omega)]
  rw [own_inz_no (q := (895, 8191)) (c := z) (by show z < 895 ∨ 8191 < z; omega)]
  rw [own_inz_no (q := (8204, 8205)) (c := z) (by show z < 8204 ∨ 8205 < z; omega)]
  rw [own_inz_no (q := (8304, 8591)) (c := z) (by show z < 8304 ∨ 8591 < z; omega)]
  rw [own_inz_no (q := (11264, 12271)) (c := z) (by show z < 11264 ∨ 12271 < z; omega)]
  rw [own_inz_no (q := (12289, 55295)) (c := z) (by show z < 12289 ∨ 55295 < z; omega)]
  rw [own_inz_no (q := (63744, 64975)) (c := z) (by show z < 63744 ∨ 64975 < z; omega)]
  rw [own_inz_no (q := (65008, 65533)) (c := z) (by show z < 65008 ∨ 65533 < z; omega)]
  rw [own_inz_no (q := (65536, 983039)) (c := z) (by show z < 65536 ∨ 983039 < z; omega)]
  rfl
theorem own_par1 (z : Int) (h1 : 65 ≤ z) (h2 : z < 91) : own_inz own_RZ z = 1 := by
  unfold own_RZ
  rw [own_inz_no (q := (97, 122)) (c := z) (by show z < 97 ∨ 122 < z; omega)]
  rw [own_inz_yes (r := _) (q := (65, 90)) (c := z) (by show ¬ (z < 65 ∨ 90 < z); omega)]
theorem own_par2 (z : Int) (h1 : 91 ≤ z) (h2 : z < 95) : own_inz own_RZ z = 0 := by
  unfold own_RZ
  rw [own_inz_no (q := (97, 122)) (c := z) (by show z < 97 ∨ 122 < z; omega)]
  rw [own_inz_no (q := (65, 90)) (c := z) (by show z < 65 ∨ 90 < z; omega)]
  rw [own_inz_no (q := (95, 95)) (c := z) (by show z < 95 ∨ 95 < z; omega)]
  rw [own_inz_no (q := (192, 214)) (c := z) (by show z < 192 ∨ 214 < z; omega)]
  rw [own_inz_no (q := (216, 246)) (c := z) (by show z < 216 ∨ 246 < z; omega)]
  rw [own_inz_no (q := (248, 767)) (c := z) (by show z < 248 ∨ 767 < z; omega)]
  rw [own_inz_no (q := (880, 893)) (c := z) (by show z < 880 ∨ 893 < z; omega)]
  rw [own_inz_no (q := (895, 8191)) (c := z) (by show z < 895 ∨ 8191 < z; omega)]
  rw [own_inz_no (q := (8204, 8205)) (c := z) (by show z < 8204 ∨ 8205 < z; omega)]
  rw [own_inz_no (q := (8304, 8591)) (c := z) (by show z < 8304 ∨ 8591 < z; omega)]
  rw [own_inz_no (q := (11264, 12271)) (c := z) (by show z < 11264 ∨ 12271 < z; omega)]
  rw [own_inz_no (q := (12289, 55295)) (c := z) (by show z < 12289 ∨ 55295 < z; omega)]
  rw [own_inz_no (q := (63744, 64975)) (c := z) (by show z < 63744 ∨ 64975 < z; omega)]
  rw [own_inz_no (q := (65008, 65533)) (c := z) (by show z < 65008 ∨ 65533 < z; omega)]
  rw [own_inz_no (q := (65536, 983039)) (c := z) (by show z < 65536 ∨ 983039 < z; omega)]
  rfl
theorem own_par3 (z : Int) (h1 : 95 ≤ z) (h2 : z < 96) : own_inz own_RZ z = 1 := by
  unfold own_RZ
  rw [own_inz_no (q := (97, 122)) (c := z) (by show z < 97 ∨ 122 < z; omega)]
  rw [own_inz_no (q := (65, 90)) (c := z) (by show z < 65 ∨ 90 < z; omega)]
  rw [own_inz_yes (r := _) (q := (95, 95)) (c := z) (by show ¬ (z < 95 ∨ 95 < z); omega)]
theorem own_par4 (z : Int) (h1 : 96 ≤ z) (h2 : z < 97) : own_inz own_RZ z = 0 := by
  unfold own_RZ
  rw [own_inz_no (q := (97, 122)) (c := z) (by show z < 97 ∨ 122 < z; omega)]
  rw [own_inz_no (q := (65, 90)) (c := z) (by show z < 65 ∨ 90 < z; omega)]
  rw [own_inz_no (q := (95, 95)) (c := z) (by show z < 95 ∨ 95 < z; omega)]
  rw [own_inz_no (q := (192, 214)) (c := z) (by show z < 192 ∨ 214 < z; omega)]
  rw [own_inz_no (q := (216, 246)) (c := z) (by show z < 216 ∨ 246 < z; omega)]
  rw [own_inz_no (q := (248, 767)) (c := z) (by show z < 248 ∨ 767 < z; omega)]
  rw [own_inz_no (q := (880, 893)) (c := z) (by show z < 880 ∨ 893 < z; omega)]
  rw [own_inz_no (q := (895, 8191)) (c := z) (by show z < 895 ∨ 8191 < z; omega)]
  rw [own_inz_no (q := (8204, 8205)) (c := z) (by show z < 8204 ∨ 8205 < z; omega)]
  rw [own_inz_no (q := (8304, 8591)) (c := z) (by show z < 8304 ∨ 8591 < z; omega)]
  rw [own_inz_no (q := (11264, 12271)) (c := z) (by show z < 11264 ∨ 12271 < z; omega)]
  rw [own_inz_no (q := (12289, 55295)) (c := z) (by show z < 12289 ∨ 55295 < z; omega)]
  rw [own_inz_no (q := (63744, 64975)) (c := z) (by show z < 63744 ∨ 64975 < z; omega)]
  rw [own_inz_no (q := (65008, 65533)) (c := z) (by show z < 65008 ∨ 65533 < z; omega)]
  rw [own_inz_no (q := (65536, 983039)) (c := z) (by show z < 65536 ∨ 983039 < z; omega)]
  rfl
theorem own_par5 (z : Int) (h1 : 97 ≤ z) (h2 : z < 123) : own_inz own_RZ z = 1 := by
  unfold own_RZ
  rw [own_inz_yes (r := _) (q := (97, 122)) (c := z) (by show ¬ (z < 97 ∨ 122 < z); omega)]
theorem own_par6 (z : Int) (h1 : 123 ≤ z) (h2 : z < 192) : own_inz own_RZ z = 0 := by
  unfold own_RZ
  rw [own_inz_no (q := (97, 122)) (c := z) (by show z < 97 ∨ 122 < z; omega)]
  rw [own_inz_no (q := (65, 90)) (c := z) (by show z < 65 ∨ 90 < z; omega)]
  rw [own_inz_no (q := (95, 95)) (c := z) (by show z < 95 ∨ 95 < z; omega)]
  rw [own_inz_no (q := (192, 214)) (c := z) (by show z < 192 ∨ 214 < z; omega)]
  rw [own_inz_no (q := (216, 246)) (c := z) (by show z < 216 ∨ 246 < z; omega)]
  rw [own_inz_no (q := (248, 767)) (c := z) (by show z < 248 ∨ 767 < z; omega)]
  rw [own_inz_no (q := (880, 893)) (c := z) (by show z < 880 ∨ 893 < z; omega)]
  rw [own_inz_no (q := (895, 8191)) (c := z) (by show z < 895 ∨ 8191 < z; omega)]
  rw [own_inz_no (q := (8204, 8205)) (c := z) (by show z < 8204 ∨ 8205 < z; omega)]
  rw [own_inz_no (q := (8304, 8591)) (c := z) (by show z < 8304 ∨ 8591 < z; omega)]
  rw [own_inz_no (q := (11264, 12271)) (c := z) (by show z < 11264 ∨ 12271 < z; omega)]
  rw [own_inz_no (q := (12289, 55295)) (c := z) (by show z < 12289 ∨ 55295 < z; omega)]
  rw [own_inz_no (q := (63744, 64975)) (c := z) (by show z < 63744 ∨ 64975 < z; omega)]
  rw [own_inz_no (q := (65008, 65533)) (c := z) (by show z < 65008 ∨ 65533 < z; omega)]
  rw [own_inz_no (q := (65536, 983039)) (c := z) (by show z < 65536 ∨ 983039 < z; omega)]
  rfl
theorem own_par7 (z : Int) (h1 : 192 ≤ z) (h2 : z < 215) : own_inz own_RZ z = 1 := by
  unfold own_RZ
  rw [own_inz_no (q := (97, 122)) (c := z) (by show z < 97 ∨ 122 < z; omega)]
  rw [own_inz_no (q := (65, 90)) (c := z) (by show z < 65 ∨ 90 < z; omega)]
  rw [own_inz_no (q := (95, 95)) (c := z) (by show z < 95 ∨ 95 < z; omega)]
  rw [own_inz_yes (r := _) (q := (192, 214)) (c := z) (by show ¬ (z < 192 ∨ 214 < z); omega)]
theorem own_par8 (z : Int) (h1 : 215 ≤ z) (h2 : z < 216) : own_inz own_RZ z = 0 := by
  unfold own_RZ
  rw [own_inz_no (q := (97, 122)) (c := z) (by show z < 97 ∨ 122 < z; omega)]
  rw [own_inz_no (q := (65, 90)) (c := z) (by show z < 65 ∨ 90 < z; omega)]
  rw [own_inz_no (q := (95, 95)) (c := z) (by show z < 95 ∨ 95 < z; omega)]
  rw [own_inz_no (q := (192, 214)) (c := z) (by show z < 192 ∨ 214 < z; omega)]
  rw [own_inz_no (q := (216, 246)) (c := z) (by show z < 216 ∨ 246 < z; omega)]
  rw [own_inz_no (q := (248, 767)) (c := z) (by show z < 248 ∨ 767 < z; omega)]
  rw [own_inz_no (q := (880, 893)) (c := z) (by show z < 880 ∨ 893 < z; omega)]
  rw [own_inz_no (q := (895, 8191)) (c := z) (by show z < 895 ∨ 8191 < z; omega)]
  rw [own_inz_no (q := (8204, 8205)) (c := z) (by show z < 8204 ∨ 8205 < z; omega)]
  rw [own_inz_no (q := (8304, 8591)) (c := z) (by show z < 8304 ∨ 8591 < z; omega)]
  rw [own_inz_no (q := (11264, 12271)) (c := z) (by show z < 11264 ∨ 12271 < z; omega)]
  rw [own_inz_no (q := (12289, 55295)) (c := z) (by show z < 12289 ∨ 55295 < z; omega)]
  rw [own_inz_no (q := (63744, 64975)) (c := z) (by show z < 63744 ∨ 64975 < z; omega)]
  rw [own_inz_no (q := (65008, 65533)) (c := z) (by show z < 65008 ∨ 65533 < z; omega)]
  rw [own_inz_no (q := (65536, 983039)) (c := z) (by show z < 65536 ∨ 983039 < z; omega)]
  rfl
theorem own_par9 (z : Int) (h1 : 216 ≤ z) (h2 : z < 247) : own_inz own_RZ z = 1 := by
  unfold own_RZ
  rw [own_inz_no (q := (97, 122)) (c := z) (by show z < 97 ∨ 122 < z; omega)]
  rw [own_inz_no (q := (65, 90)) (c := z) (by show z < 65 ∨ 90 < z; omega)]
  rw [own_inz_no (q := (95, 95)) (c := z) (by show z < 95 ∨ 95 < z; omega)]
  rw [own_inz_no (q := (192, 214)) (c := z) (by show z < 192 ∨ 214 < z; omega)]
  rw [own_inz_yes (r := _) (q := (216, 246)) (c := z) (by show ¬ (z < 216 ∨ 246 < z); omega)]
theorem own_par10 (z : Int) (h1 : 247 ≤ z) (h2 : z < 248) : own_inz own_RZ z = 0 := by
  unfold own_RZ
  rw [own_inz_no (q := (97, 122)) (c := z) (by show z < 97 ∨ 122 < z; omega)]
  rw [own_inz_no (q := (65, 90)) (c := z) (by show z < 65 ∨ 90 < z; omega)]
  rw [own_inz_no (q := (95, 95)) (c := z) (by show z < 95 ∨ 95 < z; omega)]
  rw [own_inz_no (q := (192, 214)) (c := z) (by show z < 192 ∨ 214 < z; omega)]
  rw [own_inz_no (q := (216, 246)) (c := z) (by show z < 216 ∨ 246 < z; omega)]
  rw [own_inz_no (q := (248, 767)) (c := z) (by show z < 248 ∨ 767 < z; omega)]
  rw [own_inz_no (q := (880, 893)) (c := z) (by show z < 880 ∨ 893 < z; omega)]
  rw [own_inz_no (q := (895, 8191)) (c := z) (by show z < 895 ∨ 8191 < z; omega)]
  rw [own_inz_no (q := (8204, 8205)) (c := z) (by show z < 8204 ∨ 8205 < z; omega)]
  rw [own_inz_no (q := (8304, 8591)) (c := z) (by show z < 8304 ∨ 8591 < z; omega)]
  rw [own_inz_no (q := (11264, 12271)) (c := z) (by show z < 11264 ∨ 12271 < z; omega)]
  rw [own_inz_no (q := (12289, 55295)) (c := z) (by show z < 12289 ∨ 55295 < z; omega)]
  rw [own_inz_no (q := (63744, 64975)) (c := z) (by show z < 63744 ∨ 64975 < z; omega)]
  rw [own_inz_no (q := (65008, 65533)) (c := z) (by show z < 65008 ∨ 65533 < z; omega)]
  rw [own_inz_no (q := (65536, 983039)) (c := z) (by show z < 65536 ∨ 983039 < z; omega)]
  rfl
theorem own_par11 (z : Int) (h1 : 248 ≤ z) (h2 : z < 768) : own_inz own_RZ z = 1 := by
  unfold own_RZ
  rw [own_inz_no (q := (97, 122)) (c := z) (by show z < 97 ∨ 122 < z; omega)]
  rw [own_inz_no (q := (65, 90)) (c := z) (by show z < 65 ∨ 90 < z; omega)]
  rw [own_inz_no (q := (95, 95)) (c := z) (by show z < 95 ∨ 95 < z; omega)]
  rw [own_inz_no (q := (192, 214)) (c := z) (by show z < 192 ∨ 214 < z; omega)]
  rw [own_inz_no (q := (216, 246)) (c := z) (by show z < 216 ∨ 246 < z; omega)]
  rw [own_inz_yes (r := _) (q := (248, 767)) (c := z) (by show ¬ (z < 248 ∨ 767 < z); omega)]
theorem own_par12 (z : Int) (h1 : 768 ≤ z) (h2 : z < 880) : own_inz own_RZ z = 0 := by
  unfold own_RZ
  rw [own_inz_no (q := (97, 122)) (c := z) (by show z < 97 ∨ 122 < z; omega)]
  rw [own_inz_no (q := (65, 90)) (c := z) (by show z < 65 ∨ 90 < z; omega)]
  rw [own_inz_no (q := (95, 95)) (c := z) (by show z < 95 ∨ 95 < z; omega)]
  rw [own_inz_no (q := (192, 214)) (c := z) (by show z < 192 ∨ 214 < z; omega)]
  rw [own_inz_no (q := (216, 246)) (c := z) (by show z < 216 ∨ 246 < z; omega)]
  rw [own_inz_no (q := (248, 767)) (c := z) (by show z < 248 ∨ 767 < z; omega)]
  rw [own_inz_no (q := (880, 893)) (c := z) (by show z < 880 ∨ 893 < z; omega)]
  rw [own_inz_no (q := (895, 8191)) (c := z) (by show z < 895 ∨ 8191 < z; omega)]
  rw [own_inz_no (q := (8204, 8205)) (c := z) (by show z < 8204 ∨ 8205 < z; omega)]
  rw [own_inz_no (q := (8304, 8591)) (c := z) (by show z < 8304 ∨ 8591 < z; omega)]
  rw [own_inz_no (q := (11264, 12271)) (c := z) (by show z < 11264 ∨ 12271 < z; omega)]
  rw [own_inz_no (q := (12289, 55295)) (c := z) (by show z < 12289 ∨ 55295 < z; omega)]
  rw [own_inz_no (q := (63744, 64975)) (c := z) (by show z < 63744 ∨ 64975 < z; omega)]
  rw [own_inz_no (q := (65008, 65533)) (c := z) (by show z < 65008 ∨ 65533 < z; omega)]
  rw [own_inz_no (q := (65536, 983039)) (c := z) (by show z < 65536 ∨ 983039 < z; omega)]
  rfl
theorem own_par13 (z : Int) (h1 : 880 ≤ z) (h2 : z < 894) : own_inz own_RZ z = 1 := by
  unfold own_RZ
  rw [own_inz_no (q := (97, 122)) (c := z) (by show z < 97 ∨ 122 < z; omega)]
  rw [own_inz_no (q := (65, 90)) (c := z) (by show z < 65 ∨ 90 < z; omega)]
  rw [own_inz_no (q := (95, 95)) (c := z) (by show z < 95 ∨ 95 < z; omega)]
  rw [own_inz_no (q := (192, 214)) (c := z) (by show z < 192 ∨ 214 < z; omega)]
  rw [own_inz_no (q := (216, 246)) (c := z) (by show z < 216 ∨ 246 < z; omega)]
  rw [own_inz_no (q := (248, 767)) (c := z) (by show z < 248 ∨ 767 < z; omega)]
  rw [own_inz_yes (r := _) (q := (880, 893)) (c := z) (by show ¬ (z < 880 ∨ 893 < z); omega)]
theorem own_par14 (z : Int) (h1 : 894 ≤ z) (h2 : z < 895) : own_inz own_RZ z = 0 := by
  unfold own_RZ
  rw [own_inz_no (q := (97, 122)) (c := z) (by show z < 97 ∨ 122 < z; omega)]
  rw [own_inz_no (q := (65, 90)) (c := z) (by show z < 65 ∨ 90 < z; omega)]
  rw [own_inz_no (q := (95, 95)) (c := z) (by show z < 95 ∨ 95 < z; omega)]
  rw [own_inz_no (q := (192, 214)) (c := z) (by show z < 192 ∨ 214 < z; omega)]
  rw [own_inz_no (q := (216, 246)) (c := z) (by show z < 216 ∨ 246 < z; omega)]
  rw [own_inz_no (q := (248, 767)) (c := z) (by show z < 248 ∨ 767 < z; omega)]
  rw [own_inz_no (q := (880, 893)) (c := z) (by show z < 880 ∨ 893 < z; omega)]
  rw [own_inz_no (q := (895, 8191)) (c := z) (by show z < 895 ∨ 8191 < z; omega)]
  rw [own_inz_no (q := (8204, 8205)) (c := z) (by show z < 8204 ∨ 8205 < z; omega)]
  rw [own_inz_no (q := (8304, 8591)) (c := z) (by show z < 8304 ∨ 8591 < z; omega)]
  rw [own_inz_no (q := (11264, 12271)) (c := z) (by show z < 11264 ∨ 12271 < z; omega)]
  rw [own_inz_no (q := (12289, 55295)) (c := z) (by show z < 12289 ∨ 55295 < z; omega)]
  rw [own_inz_no (q := (63744, 64975)) (c := z) (by show z < 63744 ∨ 64975 < z; omega)]
  rw [own_inz_no (q := (65008, 65533)) (c := z) (by show z < 65008 ∨ 65533 < z; omega)]
  rw [own_inz_no (q := (65536, 983039)) (c := z) (by show z < 65536 ∨ 983039 < z; omega)]
  rfl
theorem own_par15 (z : Int) (h1 : 895 ≤ z) (h2 : z < 8192) : own_inz own_RZ z = 1 := by
  unfold own_RZ
  rw [own_inz_no (q := (97, 122)) (c := z) (by show z < 97 ∨ 122 < z; omega)]
  rw [own_inz_no (q := (65, 90)) (c := z) (by show z < 65 ∨ 90 < z; omega)]
  rw [own_inz_no (q := (95, 95)) (c := z) (by show z < 95 ∨ 95 < z; omega)]
  rw [own_inz_no (q := (192, 214)) (c := z) (by show z < 192 ∨ 214 < z; omega)]
  rw [own_inz_no (q := (216, 246)) (c := z) (by show z < 216 ∨ 246 < z; omega)]
  rw [own_inz_no (q := (248, 767)) (c := z) (by show z < 248 ∨ 767 < z; omega)]
  rw [own_inz_no (q := (880, 893)) (c := z) (by show z < 880 ∨ 893 < z; omega)]
  rw [own_inz_yes (r := _) (q := (895, 8191)) (c := z) (by show ¬ (z < 895 ∨ 8191 < z); omega)]
theorem own_par16 (z : Int) (h1 : 8192 ≤ z) (h2 : z < 8204) : own_inz own_RZ z = 0 := by
  unfold own_RZ
  rw [own_inz_no (q := (97, 122)) (c := z) (by show z < 97 ∨ 122 < z; omega)]
  rw [own_inz_no (q := (65, 90)) (c := z) (by show z < 65 ∨ 90 < z; omega)]
  rw [own_inz_no (q := (95, 95)) (c := z) (by show z < 95 ∨ 95 < z; omega)]
  rw [own_inz_no (q := (192, 214)) (c := z) (by show z < 192 ∨ 214 < z; omega)]
  rw [own_inz_no (q := (216, 246)) (c := z) (by show z < 216 ∨ 246 < z; omega)]
  rw [own_inz_no (q := (248, 767)) (c := z) (by show z < 248 ∨ 767 < z; omega)]
  rw [own_inz_no (q := (880, 893)) (c := z) (by show z < 880 ∨ 893 < z; omega)]
  rw [own_inz_no (q := (895, 8191)) (c := z) (by show z < 895 ∨ 8191 < z; omega)]
  rw [own_inz_no (q := (8204, 8205)) (c := z) (by show z < 8204 ∨ 8205 < z; omega)]
  rw [own_inz_no (q := (8304, 8591)) (c := z) (by show z < 8304 ∨ 8591 < z; omega)]
  rw [own_inz_no (q := (11264, 12271)) (c := z) (by show z < 11264 ∨ 12271 < z; omega)]
  rw [own_inz_no (q := (12289, 55295)) (c := z) (by show z < 12289 ∨ 55295 < z; omega)]
  rw [own_inz_no (q := (63744, 64975)) (c := z) (by show z < 63744 ∨ 64975 < z; omega)]
  rw [own_inz_no (q := (65008, 65533)) (c := z) (by show z < 65008 ∨ 65533 < z; omega)]
  rw [own_inz_no (q := (65536, 983039)) (c := z) (by show z < 65536 ∨ 983039 < z; omega)]
  rfl
theorem own_par17 (z : Int) (h1 : 8204 ≤ z) (h2 : z < 8206) : own_inz own_RZ z = 1 := by
  unfold own_RZ
  rw [own_inz_no (q := (97, 122)) (c := z) (by show z < 97 ∨ 122 < z; omega)]
  rw [own_inz_no (q := (65, 90)) (c := z) (by show z < 65 ∨ 90 < z; omega)]
  rw [own_inz_no (q := (95, 95)) (c := z) (by show z < 95 ∨ 95 < z; omega)]
  rw [own_inz_no (q := (192, 214)) (c := z) (by show z < 192 ∨ 214 < z; omega)]
  rw [own_inz_no (q := (216, 246)) (c := z) (by show z < 216 ∨ 246 < z; omega)]
  rw [own_inz_no (q := (248, 767)) (c := z) (by show z < 248 ∨ 767 < z; omega)]
  rw [own_inz_no (q := (880, 893)) (c := z) (by show z < 880 ∨ 893 < z; omega)]
  rw [own_inz_no (q := (895, 8191)) (c := z) (by show z < 895 ∨ 8191 < z; omega)]
  rw [own_inz_yes (r := _) (q := (8204, 8205)) (c := z) (by show ¬ (z < 8204 ∨ 8205 < z); omega)]
theorem own_par18 (z : Int) (h1 : 8206 ≤ z) (h2 : z < 8304) : own_inz own_RZ z = 0 := by
  unfold own_RZ
  rw [own_inz_no (q := (97, 122)) (c := z) (by show z < 97 ∨ 122 < z; omega)]
  rw [own_inz_no (q := (65, 90)) (c := z) (by show z < 65 ∨ 90 < z; omega)]
  rw [own_inz_no (q := (95, 95)) (c := z) (by show z < 95 ∨ 95 < z; omega)]
  rw [own_inz_no (q := (192, 214)) (c := z) (by show z < 192 ∨ 214 < z; omega)]
  rw [own_inz_no (q := (216, 246)) (c := z) (by show z < 216 ∨ 246 < z; omega)]
  rw [own_inz_no (q := (248, 767)) (c := z) (by show z < 248 ∨ 767 < z; omega)]
  rw [own_inz_no (q := (880, 893)) (c := z) (by show z < 880 ∨ 893 < z; omega)]
  rw [own_inz_no (q := (895, 8191)) (c := z) (by show z < 895 ∨ 8191 < z; omega)]
  rw [own_inz_no (q := (8204, 8205)) (c := z) (by show z < 8204 ∨ 8205 < z; omega)]
  rw [own_inz_no (q := (8304, 8591)) (c := z) (by show z < 8304 ∨ 8591 < z; omega)]
  rw [own_inz_no (q := (11264, 12271)) (c := z) (by show z < 11264 ∨ 12271 < z; omega)]
  rw [own_inz_no (q := (12289, 55295)) (c := z) (by show z < 12289 ∨ 55295 < z; omega)]
  rw [own_inz_no (q := (63744, 64975)) (c := z) (by show z < 63744 ∨ 64975 < z; omega)]
  rw [own_inz_no (q := (65008, 65533)) (c := z) (by show z < 65008 ∨ 65533 < z; omega)]
  rw [own_inz_no (q := (65536, 983039)) (c := z) (by show z < 65536 ∨ 983039 < z; omega)]
  rfl
theorem own_par19 (z : Int) (h1 : 8304 ≤ z) (h2 : z < 8592) : own_inz own_RZ z = 1 := by
  unfold own_RZ
  rw [own_inz_no (q := (97, 122)) (c := z) (by show z < 97 ∨ 122 < z; omega)]
  rw [own_inz_no (q := (65, 90)) (c := z) (by show z < 65 ∨ 90 < z; omega)]
  rw [own_inz_no (q := (95, 95)) (c := z) (by show z < 95 ∨ 95 < z; omega)]
  rw [own_inz_no (q := (192, 214)) (c := z) (by show z < 192 ∨ 214 < z; omega)]
  rw [own_inz_no (q := (216, 246)) (c := z) (by show z < 216 ∨ 246 < z; omega)]
  rw [own_inz_no (q := (248, 767)) (c := z) (by show z < 248 ∨ 767 < z; omega)]
  rw [own_inz_no (q := (880, 893)) (c := z) (by show z < 880 ∨ 893 < z; omega)]
  rw [own_inz_no (q := (895, 8191)) (c := z) (by show z < 895 ∨ 8191 < z; omega)]
  rw [own_inz_no (q := (8204, 8205)) (c := z) (by show z < 8204 ∨ 8205 < z; omega)]
  rw [own_inz_yes (r := _) (q := (8304, 8591)) (c := z) (by show ¬ (z < 8304 ∨ 8591 < z); omega)]
theorem own_par20 (z : Int) (h1 : 8592 ≤ z) (h2 : z < 11264) : own_inz own_RZ z = 0 := by
  unfold own_RZ
  rw [own_inz_no (q := (97, 122)) (c := z) (by show z < 97 ∨ 122 < z; omega)]
  rw [own_inz_no (q := (65, 90)) (c := z) (by show z < 65 ∨ 90 < z; omega)]
  rw [own_inz_no (q := (95, 95)) (c := z) (by show z < 95 ∨ 95 < z; omega)]
  rw [own_inz_no (q := (192, 214)) (c := z) (by show z < 192 ∨ 214 < z; omega)]
  rw [own_inz_no (q := (216, 246)) (c := z) (by show z < 216 ∨ 246 < z; omega)]
  rw [own_inz_no (q := (248, 767)) (c := z) (by show z < 248 ∨ 767 < z; omega)]
  rw [own_inz_no (q := (880, 893)) (c := z) (by show z < 880 ∨ 893 < z; omega)]
  rw [own_inz_no (q := (895, 8191)) (c := z) (by show z < 895 ∨ 8191 < z; omega)]
  rw [own_inz_no (q := (8204, 8205)) (c := z) (by show z < 8204 ∨ 8205 < z; omega)]
  rw [own_inz_no (q := (8304, 8591)) (c := z) (by show z < 8304 ∨ 8591 < z; omega)]
  rw [own_inz_no (q := (11264, 12271)) (c := z) (by show z < 11264 ∨ 12271 < z; omega)]
  rw [own_inz_no (q := (12289, 55295)) (c := z) (by show z < 12289 ∨ 55295 < z; omega)]
  rw [own_inz_no (q := (63744, 64975)) (c := z) (by show z < 63744 ∨ 64975 < z; omega)]
  rw [own_inz_no (q := (65008, 65533)) (c := z) (by show z < 65008 ∨ 65533 < z; omega)]
  rw [own_inz_no (q := (65536, 983039)) (c := z) (by show z < 65536 ∨ 983039 < z; omega)]
  rfl
theorem own_par21 (z : Int) (h1 : 11264 ≤ z) (h2 : z < 12272) : own_inz own_RZ z = 1 := by
  unfold own_RZ
  rw [own_inz_no (q := (97, 122)) (c := z) (by show z < 97 ∨ 122 < z; omega)]
  rw [own_inz_no (q := (65, 90)) (c := z) (by show z < 65 ∨ 90 < z; omega)]
  rw [own_inz_no (q := (95, 95)) (c := z) (by show z < 95 ∨ 95 < z; omega)]
  rw [own_inz_no (q := (192, 214)) (c := z) (by show z < 192 ∨ 214 < z; omega)]
  rw [own_inz_no (q := (216, 246)) (c := z) (by show z < 216 ∨ 246 < z; omega)]
  rw [own_inz_no (q := (248, 767)) (c := z) (by show z < 248 ∨ 767 < z; omega)]
  rw [own_inz_no (q := (880, 893)) (c := z) (by show z < 880 ∨ 893 < z; omega)]
  rw [own_inz_no (q := (895, 8191)) (c := z) (by show z < 895 ∨ 8191 < z; omega)]
  rw [own_inz_no (q := (8204, 8205)) (c := z) (by show z < 8204 ∨ 8205 < z; omega)]
  rw [own_inz_no (q := (8304, 8591)) (c := z) (by show z < 8304 ∨ 8591 < z; omega)]
  rw [own_inz_yes (r := _) (q := (11264, 12271)) (c := z) (by show ¬ (z < 11264 ∨ 12271 < z); omega)]
theorem own_par22 (z : Int) (h1 : 12272 ≤ z) (h2 : z < 12289) : own_inz own_RZ z = 0 := by
  unfold own_RZ
  rw [own_inz_no (q := (97, 122)) (c := z) (by show z < 97 ∨ 122 < z; omega)]
  rw [own_inz_no (q := (65, 90)) (c := z) (by show z < 65 ∨ 90 < z; omega)]
  rw [own_inz_no (q := (95, 95)) (c := z) (by show z < 95 ∨ 95 < z; omega)]
  rw [own_inz_no (q := (192, 214)) (c := z) (by show z < 192 ∨ 214 < z; omega)]
  rw [own_inz_no (q := (216, 246)) (c := z) (by show z < 216 ∨ 246 < z; omega)]
  rw [own_inz_no (q := (248, 767)) (c := z) (by show z < 248 ∨ 767 < z; omega)]
  rw [own_inz_no (q := (880, 893)) (c := z) (by show z < 880 ∨ 893 < z; omega)]
  rw [own_inz_no (q := (895, 8191)) (c := z) (by show z < 895 ∨ 8191 < z; omega)]
  rw [own_inz_no (q := (8204, 8205)) (c := z) (by show z < 8204 ∨ 8205 < z; omega)]
  rw [own_inz_no (q := (8304, 8591)) (c := z) (by show z < 8304 ∨ 8591 < z; omega)]
  rw [own_inz_no (q := (11264, 12271)) (c := z) (by show z < 11264 ∨ 12271 < z; omega)]
  rw [own_inz_no (q := (12289, 55295)) (c := z) (by show z < 12289 ∨ 55295 < z; omega)]
  rw [own_inz_no (q := (63744, 64975)) (c := z) (by show z < 63744 ∨ 64975 < z; omega)]
  rw [own_inz_no (q := (65008, 65533)) (c := z) (by show z < 65008 ∨ 65533 < z; omega)]
  rw [own_inz_no (q := (65536, 983039)) (c := z) (by show z < 65536 ∨ 983039 < z; omega)]
  rfl
theorem own_par23 (z : Int) (h1 : 12289 ≤ z) (h2 : z < 55296) : own_inz own_RZ z = 1 := by
  unfold own_RZ
  rw [own_inz_no (q := (97, 122)) (c := z) (by show z < 97 ∨ 122 < z; omega)]
  rw [own_inz_no (q := (65, 90)) (c := z) (by show z < 65 ∨ 90 < z; omega)]
  rw [own_inz_no (q := (95, 95)) (c := z) (by show z < 95 ∨ 95 < z; omega)]
  rw [own_inz_no (q := (192, 214)) (c := z) (by show z < 192 ∨ 214 < z; omega)]
  rw [own_inz_no (q := (216, 246)) (c := z) (by show z < 216 ∨ 246 < z; omega)]
  rw [own_inz_no (q := (248, 767)) (c := z) (by show z < 248 ∨ 767 < z; omega)]
  rw [own_inz_no (q := (880, 893)) (c := z) (by show z < 880 ∨ 893 < z; omega)]
  rw [own_inz_no (q := (895, 8191)) (c := z) (by show z < 895 ∨ 8191 < z; omega)]
  rw [own_inz_no (q := (8204, 8205)) (c := z) (by show z < 8204 ∨ 8205 < z; omega)]
  rw [own_inz_no (q := (8304, 8591)) (c := z) (by show z < 8304 ∨ 8591 < z; omega)]
  rw [own_inz_no (q := (11264, 12271)) (c := z) (by show z < 11264 ∨ 12271 < z; omega)]
  rw [own_inz_yes (r := _) (q := (12289, 55295)) (c := z) (by show ¬ (z < 12289 ∨ 55295 < z); omega)]
theorem own_par24 (z : Int) (h1 : 55296 ≤ z) (h2 : z < 63744) : own_inz own_RZ z = 0 := by
  unfold own_RZ
  rw [own_inz_no (q := (97, 122)) (c := z) (by show z < 97 ∨ 122 < z; omega)]
  rw [own_inz_no (q := (65, 90)) (c := z) (by show z < 65 ∨ 90 < z; omega)]
  rw [own_inz_no (q := (95, 95)) (c := z) (by show z < 95 ∨ 95 < z; omega)]
  rw [own_inz_no (q := (192, 214)) (c := z) (by show z < 192 ∨ 214 < z; omega)]
  rw [own_inz_no (q := (216, 246)) (c := z) (by show z < 216 ∨ 246 < z; omega)]
  rw [own_inz_no (q := (248, 767)) (c := z) (by show z < 248 ∨ 767 < z; omega)]
  rw [own_inz_no (q := (880, 893)) (c := z) (by show z < 880 ∨ 893 < z; omega)]
  rw [own_inz_no (q := (895, 8191)) (c := z) (by show z < 895 ∨ 8191 < z; omega)]
  rw [own_inz_no (q := (8204, 8205)) (c := z) (by show z < 8204 ∨ 8205 < z; omega)]
  rw [own_inz_no (q := (8304, 8591)) (c := z) (by show z < 8304 ∨ 8591 < z; omega)]
  rw [own_inz_no (q := (11264, 12271)) (c := z) (by show z < 11264 ∨ 12271 < z; omega)]
  rw [own_inz_no (q := (12289, 55295)) (c := z) (by show z < 12289 ∨ 55295 < z; omega)]
  rw [own_inz_no (q := (63744, 64975)) (c := z) (by show z < 63744 ∨ 64975 < z; omega)]
  rw [own_inz_no (q := (65008, 65533)) (c := z) (by show z < 65008 ∨ 65533 < z; omega)]
  rw [own_inz_no (q := (65536, 983039)) (c := z) (by show z < 65536 ∨ 983039 < z; omega)]
  rfl
theorem own_par25 (z : Int) (h1 : 63744 ≤ z) (h2 : z < 64976) : own_inz own_RZ z = 1 := by
  unfold own_RZ
  rw [own_inz_no (q := (97, 122)) (c := z) (by show z < 97 ∨ 122 < z; omega)]
  rw [own_inz_no (q := (65, 90)) (c := z) (by show z < 65 ∨ 90 < z; omega)]
  rw [own_inz_no (q := (95, 95)) (c := z) (by show z < 95 ∨ 95 < z; omega)]
  rw [own_inz_no (q := (192, 214)) (c := z) (by show z < 192 ∨ 214 < z; omega)]
  rw [own_inz_no (q := (216, 246)) (c := z) (by show z < 216 ∨ 246 < z; omega)]
  rw [own_inz_no (q := (248, 767)) (c := z) (by show z < 248 ∨ 767 < z; omega)]
  rw [own_inz_no (q := (880, 893)) (c := z) (by show z < 880 ∨ 893 < z; omega)]
  rw [own_inz_no (q := (895, 8191)) (c := z) (by show z < 895 ∨ 8191 < z; omega)]
  rw [own_inz_no (q := (8204, 8205)) (c := z) (by show z < 8204 ∨ 8205 < z; omega)]
  rw [own_inz_no (q := (8304, 8591)) (c := z) (by show z < 8304 ∨ 8591 < z; omega)]
  rw [own_inz_no (q := (11264, 12271)) (c := z) (by show z < 11264 ∨ 12271 < z; omega)]
  rw [own_inz_no (q := (12289, 55295)) (c := z) (by show z < 12289 ∨ 55295 < z; omega)]
  rw [own_inz_yes (r := _) (q := (63744, 64975)) (c := z) (by show ¬ (z < 63744 ∨ 64975 < z); omega)]
theorem own_par26 (z : Int) (h1 : 64976 ≤ z) (h2 : z < 65008) : own_inz own_RZ z = 0 := by
  unfold own_RZ
  rw [own_inz_no (q := (97, 122)) (c := z) (by show z < 97 ∨ 122 < z; omega)]
  rw [own_inz_no (q := (65, 90)) (c := z) (by show z < 65 ∨ 90 < z; omega)]
  rw [own_inz_no (q := (95, 95)) (c := z) (by show z < 95 ∨ 95 < z; omega)]
  rw [own_inz_no (q := (192, 214)) (c := z) (by show z < 192 ∨ 214 < z; omega)]
  rw [own_inz_no (q := (216, 246)) (c := z) (by show z < 216 ∨ 246 < z; omega)]
  rw [own_inz_no (q := (248, 767)) (c := z) (by show z < 248 ∨ 767 < z; omega)]
  rw [own_inz_no (q := (880, 893)) (c := z) (by show z < 880 ∨ 893 < z; omega)]
  rw [own_inz_no (q := (895, 8191)) (c := z) (by show z < 895 ∨ 8191 < z; omega)]
  rw [own_inz_no (q := (8204, 8205)) (c := z) (by show z < 8204 ∨ 8205 < z; omega)]
  rw [own_inz_no (q := (8304, 8591)) (c := z) (by show z < 8304 ∨ 8591 < z; omega)]
  rw [own_inz_no (q := (11264, 12271)) (c := z) (by show z < 11264 ∨ 12271 < z; omega)]
  rw [own_inz_no (q := (12289, 55295)) (c := z) (by show z < 12289 ∨ 55295 < z; omega)]
  rw [own_inz_no (q := (63744, 64975)) (c := z) (by show z < 63744 ∨ 64975 < z; omega)]
  rw [own_inz_no (q := (65008, 65533)) (c := z) (by show z < 65008 ∨ 65533 < z; omega)]
  rw [own_inz_no (q := (65536, 983039)) (c := z) (by show z < 65536 ∨ 983039 < z; omega)]
  rfl
theorem own_par27 (z : Int) (h1 : 65008 ≤ z) (h2 : z < 65534) : own_inz own_RZ z = 1 := by
  unfold own_RZ
  rw [own_inz_no (q := (97, 122)) (c := z) (by show z < 97 ∨ 122 < z; omega)]
  rw [own_inz_no (q := (65, 90)) (c := z) (by show z < 65 ∨ 90 < z; omega)]
  rw [own_inz_no (q := (95, 95)) (c := z) (by show z < 95 ∨ 95 < z; omega)]
  rw [own_inz_no (q := (192, 214)) (c := z) (by show z < 192 ∨ 214 < z; omega)]
  rw [own_inz_no (q := (216, 246)) (c := z) (by show z < 216 ∨ 246 < z; omega)]
  rw [own_inz_no (q := (248, 767)) (c := z) (by show z < 248 ∨ 767 < z; omega)]
  rw [own_inz_no (q := (880, 893)) (c := z) (by show z < 880 ∨ 893 < z; omega)]
  rw [own_inz_no (q := (895, 8191)) (c := z) (by show z < 895 ∨ 8191 < z; omega)]
  rw [own_inz_no (q := (8204, 8205)) (c := z) (by show z < 8204 ∨ 8205 < z; omega)]
  rw [own_inz_no (q := (8304, 8591)) (c := z) (by show z < 8304 ∨ 8591 < z; omega)]
  rw [own_inz_no (q := (11264, 12271)) (c := z) (by show z < 11264 ∨ 12271 < z; omega)]
  rw [own_inz_no (q := (12289, 55295)) (c := z) (by show z < 12289 ∨ 55295 < z; omega)]
  rw [own_inz_no (q := (63744, 64975)) (c := z) (by show z < 63744 ∨ 64975 < z; omega)]
  rw [own_inz_yes (r := _) (q := (65008, 65533)) (c := z) (by show ¬ (z < 65008 ∨ 65533 < z); omega)]
theorem own_par28 (z : Int) (h1 : 65534 ≤ z) (h2 : z < 65536) : own_inz own_RZ z = 0 := by
  unfold own_RZ
  rw [own_inz_no (q := (97, 122)) (c := z) (by show z < 97 ∨ 122 < z; omega)]
  rw [own_inz_no (q := (65, 90)) (c := z) (by show z < 65 ∨ 90 < z; omega)]
  rw [own_inz_no (q := (95, 95)) (c := z) (by show z < 95 ∨ 95 < z; omega)]
  rw [own_inz_no (q := (192, 214)) (c := z) (by show z < 192 ∨ 214 < z; omega)]
  rw [own_inz_no (q := (216, 246)) (c := z) (by show z < 216 ∨ 246 < z; omega)]
  rw [own_inz_no (q := (248, 767)) (c := z) (by show z < 248 ∨ 767 < z; omega)]
  rw [own_inz_no (q := (880, 893)) (c := z) (by show z < 880 ∨ 893 < z; omega)]
  rw [own_inz_no (q := (895, 8191)) (c := z) (by show z < 895 ∨ 8191 < z; omega)]
  rw [own_inz_no (q := (8204, 8205)) (c := z) (by show z < 8204 ∨ 8205 < z; omega)]
  rw [own_inz_no (q := (8304, 8591)) (c := z) (by show z < 8304 ∨ 8591 < z; omega)]
  rw [own_inz_no (q := (11264, 12271)) (c := z) (by show z < 11264 ∨ 12271 < z; omega)]
  rw [own_inz_no (q := (12289, 55295)) (c := z) (by show z < 12289 ∨ 55295 < z; omega)]
  rw [own_inz_no (q := (63744, 64975)) (c := z) (by show z < 63744 ∨ 64975 < z; omega)]
  rw [own_inz_no (q := (65008, 65533)) (c := z) (by show z < 65008 ∨ 65533 < z; omega)]
  rw [own_inz_no (q := (65536, 983039)) (c := z) (by show z < 65536 ∨ 983039 < z; omega)]
  rfl
theorem own_par29 (z : Int) (h1 : 65536 ≤ z) (h2 : z < 983040) : own_inz own_RZ z = 1 := by
  unfold own_RZ
  rw [own_inz_no (q := (97, 122)) (c := z) (by show z < 97 ∨ 122 < z; omega)]
  rw [own_inz_no (q := (65, 90)) (c := z) (by show z < 65 ∨ 90 < z; omega)]
  rw [own_inz_no (q := (95, 95)) (c := z) (by show z < 95 ∨ 95 < z; omega)]
  rw [own_inz_no (q := (192, 214)) (c := z) (by show z < 192 ∨ 214 < z; omega)]
  rw [own_inz_no (q := (216, 246)) (c := z) (by show z < 216 ∨ 246 < z; omega)]
  rw [own_inz_no (q := (248, 767)) (c := z) (by show z < 248 ∨ 767 < z; omega)]
  rw [own_inz_no (q := (880, 893)) (c := z) (by show z < 880 ∨ 893 < z; omega)]
  rw [own_inz_no (q := (895, 8191)) (c := z) (by show z < 895 ∨ 8191 < z; omega)]
  rw [own_inz_no (q := (8204, 8205)) (c := z) (by show z < 8204 ∨ 8205 < z; omega)]
  rw [own_inz_no (q := (8304, 8591)) (c := z) (by show z < 8304 ∨ 8591 < z; omega)]
  rw [own_inz_no (q := (11264, 12271)) (c := z) (by show z < 11264 ∨ 12271 < z; omega)]
  rw [own_inz_no (q := (12289, 55295)) (c := z) (by show z < 12289 ∨ 55295 < z; omega)]
  rw [own_inz_no (q := (63744, 64975)) (c := z) (by show z < 63744 ∨ 64975 < z; omega)]
  rw [own_inz_no (q := (65008, 65533)) (c := z) (by show z < 65008 ∨ 65533 < z; omega)]
  rw [own_inz_yes (r := _) (q := (65536, 983039)) (c := z) (by show ¬ (z < 65536 ∨ 983039 < z); omega)]
theorem own_parN (z : Int) (h2 : z < 0) : own_inz own_RZ z = 0 := by
  unfold own_RZ
  rw [own_inz_no (q := (97, 122)) (c := z) (by show z < 97 ∨ 122 < z; omega)]
  rw [own_inz_no (q := (65, 90)) (c := z) (by show z < 65 ∨ 90 < z; omega)]
  rw [own_inz_no (q := (95, 95)) (c := z) (by show z < 95 ∨ 95 < z; omega)]
  rw [own_inz_no (q := (192, 214)) (c := z) (by show z < 192 ∨ 214 < z; omega)]
  rw [own_inz_no (q := (216, 246)) (c := z) (by show z < 216 ∨ 246 < z; omega)]
  rw [own_inz_no (q := (248, 767)) (c := z) (by show z < 248 ∨ 767 < z; omega)]
  rw [own_inz_no (q := (880, 893)) (c := z) (by show z < 880 ∨ 893 < z; omega)]
  rw [own_inz_no (q := (895, 8191)) (c := z) (by show z < 895 ∨ 8191 < z; omega)]
  rw [own_inz_no (q := (8204, 8205)) (c := z) (by show z < 8204 ∨ 8205 < z; omega)]
  rw [own_inz_no (q := (8304, 8591)) (c := z) (by show z < 8304 ∨ 8591 < z; omega)]
  rw [own_inz_no (q := (11264, 12271)) (c := z) (by show z < 11264 ∨ 12271 < z; omega)]
  rw [own_inz_no (q := (12289, 55295)) (c := z) (by show z < 12289 ∨ 55295 < z; omega)]
  rw [own_inz_no (q := (63744, 64975)) (c := z) (by show z < 63744 ∨ 64975 < z; omega)]
  rw [own_inz_no (q := (65008, 65533)) (c := z) (by show z < 65008 ∨ 65533 < z; omega)]
  rw [own_inz_no (q := (65536, 983039)) (c := z) (by show z < 65536 ∨ 983039 < z; omega)]
  rfl
theorem own_parB (z : Int) (h1 : 983040 ≤ z) : own_inz own_RZ z = 0 := by
  unfold own_RZ
  rw [own_inz_no (q := (97, 122)) (c := z) (by show z < 97 ∨ 122 < z; omega)]
  rw [own_inz_no (q := (65, 90)) (c := z) (by show z < 65 ∨ 90 < z; omega)]
  rw [own_inz_no (q := (95, 95)) (c := z) (by show z < 95 ∨ 95 < z; omega)]
  rw [own_inz_no (q := (192, 214)) (c := z) (by show z < 192 ∨ 214 < z; omega)]
  rw [own_inz_no (q := (216, 246)) (c := z) (by show z < 216 ∨ 246 < z; omega)]
  rw [own_inz_no (q := (248, 767)) (c := z) (by show z < 248 ∨ 767 < z; omega)]
  rw [own_inz_no (q := (880, 893)) (c := z) (by show z < 880 ∨ 893 < z; omega)]
  rw [own_inz_no (q := (895, 8191)) (c := z) (by show z < 895 ∨ 8191 < z; omega)]
  rw [own_inz_no (q := (8204, 8205)) (c := z) (by show z < 8204 ∨ 8205 < z; omega)]
  rw [own_inz_no (q := (8304, 8591)) (c := z) (by show z < 8304 ∨ 8591 < z; omega)]
  rw [own_inz_no (q := (11264, 12271)) (c := z) (by show z < 11264 ∨ 12271 < z; omega)]
  rw [own_inz_no (q := (12289, 55295)) (c := z) (by show z < 12289 ∨ 55295 < z; omega)]
  rw [own_inz_no (q := (63744, 64975)) (c := z) (by show z < 63744 ∨ 64975 < z; omega)]
  rw [own_inz_no (q := (65008, 65533)) (c := z) (by show z < 65008 ∨ 65533 < z; omega)]
  rw [own_inz_no (q := (65536, 983039)) (c := z) (by show z < 65536 ∨ 983039 < z; omega)]
  rfl
theorem own_par (k : Fin 30) (z : Int) (h1 : (own_ws.getD k.val 0).toInt ≤ z) (h2 : z < (own_ws.getD (k.val + 1) 0).toInt) : own_inz own_RZ z = if (Int32.ofNat k.val &&& (1 : Int32)) = 1 then 1 else 0 := by
  match k, h1, h2 with
  | ⟨0, _⟩, h1, h2 => exact (own_par0 z h1 h2).trans (show (0 : Int32) = if (Int32.ofNat 0 &&& (1 : Int32)) = 1 then 1 else 0 from by decide)
  | ⟨1, _⟩, h1, h2 => exact (own_par1 z h1 h2).trans (show (1 : Int32) = if (Int32.ofNat 1 &&& (1 : Int32)) = 1 then 1 else 0 from by decide)
  | ⟨2, _⟩, h1, h2 => exact (own_par2 z h1 h2).trans (show (0 : Int32) = if (Int32.ofNat 2 &&& (1 : Int32)) = 1 then 1 else 0 from by decide)
  | ⟨3, _⟩, h1, h2 => exact (own_par3 z h1 h2).trans (show (1 : Int32) = if (Int32.ofNat 3 &&& (1 : Int32)) = 1 then 1 else 0 from by decide)
  | ⟨4, _⟩, h1, h2 => exact (own_par4 z h1 h2).trans (show (0 : Int32) = if (Int32.ofNat 4 &&& (1 : Int32)) = 1 then 1 else 0 from by decide)
  | ⟨5, _⟩, h1, h2 => exact (own_par5 z h1 h2).trans (show (1 : Int32) = if (Int32.ofNat 5 &&& (1 : Int32)) = 1 then 1 else 0 from by decide)
  | ⟨6, _⟩, h1, h2 => exact (own_par6 z h1 h2).trans (show (0 : Int32) = if (Int32.ofNat 6 &&& (1 : Int32)) = 1 then 1 else 0 from by decide)
  | ⟨7, _⟩, h1, h2 => exact (own_par7 z h1 h2).trans (show (1 : Int32) = if (Int32.ofNat 7 &&& (1 : Int32)) = 1 then 1 else 0 from by decide)
  | ⟨8, _⟩, h1, h2 => exact (own_par8 z h1 h2).trans (show (0 : Int32) = if (Int32.ofNat 8 &&& (1 : Int32)) = 1 then 1 else 0 from by decide)
  | ⟨9, _⟩, h1, h2 => exact (own_par9 z h1 h2).trans (show (1 : Int32) = if (Int32.ofNat 9 &&& (1 : Int32)) = 1 then 1 else 0 from by decide)
  | ⟨10, _⟩, h1, h2 => exact (own_par10 z h1 h2).trans (show (0 : Int32) = if (Int32.ofNat 10 &&& (1 : Int32)) = 1 then 1 else 0 from by decide)
  | ⟨11, _⟩, h1, h2 => exact (own_par11 z h1 h2).trans (show (1 : Int32) = if (Int32.ofNat 11 &&& (1 : Int32)) = 1 then 1 else 0 from by decide)
  | ⟨12, _⟩, h1, h2 => exact (own_par12 z h1 h2).trans (show (0 : Int32) = if (Int32.ofNat 12 &&& (1 : Int32)) = 1 then 1 else 0 from by decide)
  | ⟨13, _⟩, h1, h2 => exact (own_par13 z h1 h2).trans (show (1 : Int32) = if (Int32.ofNat 13 &&& (1 : Int32)) = 1 then 1 else 0 from by decide)
  | ⟨14, _⟩, h1, h2 => exact (own_par14 z h1 h2).trans (show (0 : Int32) = if (Int32.ofNat 14 &&& (1 : Int32)) = 1 then 1 else 0 from by decide)
  | ⟨15, _⟩, h1, h2 => exact (own_par15 z h1 h2).trans (show (1 : Int32) = if (Int32.ofNat 15 &&& (1 : Int32)) = 1 then 1 else 0 from by decide)
  | ⟨16, _⟩, h1, h2 => exact (own_par16 z h1 h2).trans (show (0 : Int32) = if (Int32.ofNat 16 &&& (1 : Int32)) = 1 then 1 else 0 from by decide)
  | ⟨17, _⟩, h1, h2 => exact (own_par17 z h1 h2).trans (show (1 : Int32) = if (Int32.ofNat 17 &&& (1 : Int32)) = 1 then 1 else 0 from by decide)
  | ⟨18, _⟩, h1, h2 => exact (own_par18 z h1 h2).trans (show (0 : Int32) = if (Int32.ofNat 18 &&& (1 : Int32)) = 1 then 1 else 0 from by decide)
  | ⟨19, _⟩, h1, h2 => exact (own_par19 z h1 h2).trans (show (1 : Int32) = if (Int32.ofNat 19 &&& (1 : Int32)) = 1 then 1 else 0 from by decide)
  | ⟨20, _⟩, h1, h2 => exact (own_par20 z h1 h2).trans (show (0 : Int32) = if (Int32.ofNat 20 &&& (1 : Int32)) = 1 then 1 else 0 from by decide)
  | ⟨21, _⟩, h1, h2 => exact (own_par21 z h1 h2).trans (show (1 : Int32) = if (Int32.ofNat 21 &&& (1 : Int32)) = 1 then 1 else 0 from by decide)
  | ⟨22, _⟩, h1, h2 => exact (own_par22 z h1 h2).trans (show (0 : Int32) = if (Int32.ofNat 22 &&& (1 : Int32)) = 1 then 1 else 0 from by decide)
  | ⟨23, _⟩, h1, h2 => exact (own_par23 z h1 h2).trans (show (1 : Int32) = if (Int32.ofNat 23 &&& (1 : Int32)) = 1 then 1 else 0 from by decide)
  | ⟨24, _⟩, h1, h2 => exact (own_par24 z h1 h2).trans (show (0 : Int32) = if (Int32.ofNat 24 &&& (1 : Int32)) = 1 then 1 else 0 from by decide)
  | ⟨25, _⟩, h1, h2 => exact (own_par25 z h1 h2).trans (show (1 : Int32) = if (Int32.ofNat 25 &&& (1 : Int32)) = 1 then 1 else 0 from by decide)
  | ⟨26, _⟩, h1, h2 => exact (own_par26 z h1 h2).trans (show (0 : Int32) = if (Int32.ofNat 26 &&& (1 : Int32)) = 1 then 1 else 0 from by decide)
  | ⟨27, _⟩, h1, h2 => exact (own_par27 z h1 h2).trans (show (1 : Int32) = if (Int32.ofNat 27 &&& (1 : Int32)) = 1 then 1 else 0 from by decide)
  | ⟨28, _⟩, h1, h2 => exact (own_par28 z h1 h2).trans (show (0 : Int32) = if (Int32.ofNat 28 &&& (1 : Int32)) = 1 then 1 else 0 from by decide)
  | ⟨29, _⟩, h1, h2 => exact (own_par29 z h1 h2).trans (show (1 : Int32) = if (Int32.ofNat 29 &&& (1 : Int32)) = 1 then 1 else 0 from by decide)
  | ⟨n + 30, h⟩, _, _ => exact absurd h (by omega)
theorem own_bnd : ∀ k : Fin 30, 0 ≤ (own_ws.getD k.val 0).toInt ∧ (own_ws.getD k.val 0).toInt < (own_ws.getD (k.val + 1) 0).toInt ∧ (own_ws.getD (k.val + 1) 0).toInt ≤ 983040 := by decide +kernel
theorem own_nat : ∀ k : Fin 30, (Int32.ofNat k.val).toNatClampNeg = k.val ∧ (Int32.ofNat k.val + (1 : Int32)).toNatClampNeg = k.val + 1 := by decide +kernel
theorem own_ib : ∀ k : Fin 30, (¬ Int32.ofNat k.val < 0 ∧ Int32.ofNat k.val < 31) ∧ (¬ Int32.ofNat k.val + (1 : Int32) < 0 ∧ Int32.ofNat k.val + (1 : Int32) < 31) := by decide +kernel
def own_Sx (s : Int32) : Prop := 0 ≤ s.toInt ∧ s.toInt < 32
theorem own_idx (p : Int32) : own_Sx (p &&& (31 : Int32)) := by
  have e : (p &&& (31 : Int32)).toInt = p.toInt % 2 ^ 5 := Jvm.Kit.i32_mask p 31 (k := 5) (by decide) (by decide)
  unfold own_Sx
  omega
theorem own_fin {s : Int32} (h : own_Sx s) (h31 : ¬ s = 31) (h30 : ¬ s = 30) : ∃ k : Fin 30, s = Int32.ofNat k.val := by
  obtain ⟨h1, h2⟩ := h
  have a : s.toInt ≠ 31 := fun e => h31 (Int32.toInt_inj.mp (e.trans (by decide)))
  have b : s.toInt ≠ 30 := fun e => h30 (Int32.toInt_inj.mp (e.trans (by decide)))
  refine ⟨⟨s.toInt.toNat, by omega⟩, ?_⟩
  apply Int32.toInt_inj.mp
  rw [Int32.toInt_ofNat_small (by show s.toInt.toNat < _; omega)]
  show _ = ((s.toInt.toNat : Nat) : Int)
  omega
theorem own_i1 {s : Int32} (h : own_Sx s) (h31 : ¬ s = 31) (h30 : ¬ s = 30) : ¬ (s + (1 : Int32)) < 0 ∧ (s + (1 : Int32)) < 31 := by
  obtain ⟨k, rfl⟩ := own_fin h h31 h30; exact (own_ib k).2
theorem own_i0 {s : Int32} (h : own_Sx s) (h31 : ¬ s = 31) (h30 : ¬ s = 30) : ¬ s < 0 ∧ s < 31 := by
  obtain ⟨k, rfl⟩ := own_fin h h31 h30; exact (own_ib k).1
theorem own_len {s a b : Int32} (h : own_Sx s) (h31 : ¬ s = 31) (h30 : ¬ s = 30) (ha : a = own_ws.getD (s + (1 : Int32)).toNatClampNeg 0) (hb : b = own_ws.getD s.toNatClampNeg 0) : (a - b).toInt = a.toInt - b.toInt ∧ 0 ≤ b.toInt ∧ b.toInt < a.toInt ∧ a.toInt ≤ 983040 := by
  obtain ⟨k, rfl⟩ := own_fin h h31 h30
  rw [(own_nat k).2] at ha
  rw [(own_nat k).1] at hb
  have q := own_bnd k
  rw [← ha, ← hb] at q
  refine ⟨Jvm.Kit.i32_sub (by omega) (by omega), q.1, q.2.1, q.2.2⟩
theorem own_nz {s a b : Int32} (h : own_Sx s) (h31 : ¬ s = 31) (h30 : ¬ s = 30) (ha : a = own_ws.getD (s + (1 : Int32)).toNatClampNeg 0) (hb : b = own_ws.getD s.toNatClampNeg 0) : a - b ≠ 0 := fun e => by
  have q := own_len h h31 h30 ha hb
  rw [e] at q
  have z0 : (0 : Int32).toInt = 0 := by decide
  omega
theorem own_msk (p : Int32) : 0 ≤ (p &&& (2147483647 : Int32)).toInt := by
  have e : (p &&& (2147483647 : Int32)).toInt = p.toInt % 2 ^ 31 := Jvm.Kit.i32_mask p 2147483647 (k := 31) (by decide) (by decide)
  omega
theorem own_seg {s a b c p : Int32} (h : own_Sx s) (h31 : ¬ s = 31) (h30 : ¬ s = 30) (ha : a = own_ws.getD (s + (1 : Int32)).toNatClampNeg 0) (hb : b = own_ws.getD s.toNatClampNeg 0) (hc : c = own_ws.getD s.toNatClampNeg 0) :
    own_in own_R1 (c + ((p &&& (2147483647 : Int32)) % (a - b))) = if (s &&& (1 : Int32)) = 1 then 1 else 0 := by
  obtain ⟨q1, q2, q3, q4⟩ := own_len h h31 h30 ha hb
  have m0 := own_msk p
  have e1 : ((p &&& (2147483647 : Int32)) % (a - b)).toInt = (p &&& (2147483647 : Int32)).toInt % (a - b).toInt := Jvm.Kit.i32_rem_nonneg m0
  have r1 := Int.emod_nonneg (p &&& (2147483647 : Int32)).toInt (b := (a - b).toInt) (by omega)
  have r2 := Int.emod_lt_of_pos (p &&& (2147483647 : Int32)).toInt (b := (a - b).toInt) (by omega)
  have hcb : c = b := hc.trans hb.symm
  subst hcb
  have e2 : (c + ((p &&& (2147483647 : Int32)) % (a - c))).toInt = c.toInt + ((p &&& (2147483647 : Int32)) % (a - c)).toInt := Jvm.Kit.i32_add (by omega) (by omega)
  rw [own_inz_eq, own_RZ_eq, e2]
  obtain ⟨k, rfl⟩ := own_fin h h31 h30
  rw [(own_nat k).2] at ha
  rw [(own_nat k).1] at hb
  refine own_par k _ ?_ ?_
  · rw [← hb]; omega
  · rw [← ha]; omega
theorem own_big (p : Int32) : own_in own_R1 ((983040 : Int32) + ((p &&& (2147483647 : Int32)) % (2146500608 : Int32))) = 0 := by
  have m0 := own_msk p
  have e1 : ((p &&& (2147483647 : Int32)) % (2146500608 : Int32)).toInt = (p &&& (2147483647 : Int32)).toInt % 2146500608 := Jvm.Kit.i32_rem_nonneg (y := 2146500608) m0
  have z : (983040 : Int32).toInt = 983040 := by decide
  have e2 : ((983040 : Int32) + ((p &&& (2147483647 : Int32)) % (2146500608 : Int32))).toInt = (983040 : Int32).toInt + ((p &&& (2147483647 : Int32)) % (2146500608 : Int32)).toInt := Jvm.Kit.i32_add (by omega) (by omega)
  rw [own_inz_eq, own_RZ_eq, e2]
  exact own_parB _ (by omega)
theorem own_neg (p : Int32) : own_in own_R1 (p ||| (-2147483648 : Int32)) = 0 := by
  have h : (p ||| (-2147483648 : Int32)).toBitVec.msb = true := by
    show (p.toBitVec ||| (-2147483648 : Int32).toBitVec).msb = true
    rw [BitVec.msb_or, show (-2147483648 : Int32).toBitVec.msb = true from by decide, Bool.or_true]
  have h2 : (p ||| (-2147483648 : Int32)).toInt < 0 := by
    show (p ||| (-2147483648 : Int32)).toBitVec.toInt < 0
    exact BitVec.toInt_neg_of_msb_true h
  rw [own_inz_eq, own_RZ_eq]
  exact own_parN _ h2
theorem pn_0 : plainName "com/example/resultree/resultree/xdm/NodeNameIsNameStartCharPinLaw" = true := by first | (simp [plainName, overriddenIn]; done) | decide +kernel
theorem pd_0_0 : parseMethodDescriptor "(I)Z" = some ⟨[.int], some .boolean⟩ := by decide +kernel
theorem ef_0 (m : MethodId) (p0 : Int32) (p1 : Int32) : entryFrame m #[(.int p0), (.int p1)] maxLocals = mkF m 0 #[.val (.int p0), .val (.int p1), .unset, .unset, .unset, .unset, .unset] [] := by first | (simp [entryFrame, mkF, argsToLocals, Value.category, maxLocals]; done) | rfl
def Q0 (Z : State) (p0 : Int32) (p1 : Int32)  (h0 : Heap) (n0 : Nat) (v : Option Value) (h : Heap) (L : List Loc) : Prop := v = some (.int 1) ∧ Fr n0 L
set_option maxRecDepth 65536 in
set_option maxHeartbeats 40000000 in
theorem rm0 (l : Launch) (Z : State) (a0 : Array Value) (hw : ∀ d ∈ tables_1, d.before a0 Z = true) (ws : List Jvm.Cond) (p0 : Int32) (p1 : Int32)  (h0 : Heap) (n0 : Nat) (Z0 : n0 ≤ h0.size)  :
    MetFree l x (head1 (Jvm.Cond.code x code maxLocals ret :: ws) room_1) (fun a U => a = #[(.int p0), (.int p1)] ∧ Z.Warmed39 U.vm ∧ U.heap = h0) (fun _ _ _ _ _ => True) (fun _ U o U' => ∃ v L, o = .returned v ∧ Q0 Z p0 p1 h0 n0 v U'.heap L ∧ FrameEnd U o U' L 1 31) := by
  refine MetFree.of_bodySF (plainFor_of_name pn_0) hisR ?_
  intro p e s m args below meth c s₁ Bd hml0 hP hK
  obtain ⟨rfl, hZ, hh⟩ := hP
  have hx := Bd.exec
  have hby := Bd.bytes
  have hml : c.maxLocals = 7 := hml0
  have hown : s.vm.findClass "com/example/resultree/resultree/xdm/NodeNameIsNameStartCharPinLaw" = some m.cls := findClass_of_methodNamed Bd.named
  have X0 : Stand p l e room_1 s m #[(.int p0), (.int p1)] below meth c s₁ [] 0 0 := Stand.of_body Bd
  have e0 : s₁.heap = h0 := by rw [← hh, Bd.state]; rfl
  have N0 := Fr.nil n0
  show own_G p e below (own_P s (Q0 Z p0 p1 h0 n0) 1 31) _
  refine own_via (A' := s₁.setTop (mkF m 0 #[.val (.int p0), .val (.int p1), .unset, .unset, .unset, .unset, .unset] [])) (fun t k => castTop (ef_0 m p0 p1) k) ?_
  refine own_via (A' := s₁.setTop (mkF m 2 #[.val (.int p0), .val (.int p1), .unset, .unset, .unset, .unset, .unset] [(.int (31 : Int32))])) (fun target kt => ?_) ?_
  · show Steps p.tables e below (s₁.setTop (mkF m 0 #[.val (.int p0), .val (.int p1), .unset, .unset, .unset, .unset, .unset] [])) _
    refine XS.bipush X0.here hx rfl (hb hby at_0) ?_
    exact kt
  obtain ⟨T1, h1, k1, X1, e1, E1, A1, st1⟩ := newP X0 hx hZ (hw _ (List.mem_of_getElem? (i := 0) rfl)) e0 (g := (mkF m 2 #[.val (.int p0), .val (.int p1), .unset, .unset, .unset, .unset, .unset] [(.int (31 : Int32))])) rfl (hb hby at_2) rfl (by decide) (cap := 31) (by decide) (by decide) (by decide) (by decide)
  obtain ⟨b1, g1⟩ : ∃ z, z = h0.size := ⟨_, rfl⟩
  rw [← g1] at A1 st1
  have V1 : Arv Z h1 b1 k1 .int (31 : Int32) [(.int (0 : Int32)), (.int (0 : Int32)), (.int (0 : Int32)), (.int (0 : Int32)), (.int (0 : Int32)), (.int (0 : Int32)), (.int (0 : Int32)), (.int (0 : Int32)), (.int (0 : Int32)), (.int (0 : Int32)), (.int (0 : Int32)), (.int (0 : Int32)), (.int (0 : Int32)), (.int (0 : Int32)), (.int (0 : Int32)), (.int (0 : Int32)), (.int (0 : Int32)), (.int (0 : Int32)), (.int (0 : Int32)), (.int (0 : Int32)), (.int (0 : Int32)), (.int (0 : Int32)), (.int (0 : Int32)), (.int (0 : Int32)), (.int (0 : Int32)), (.int (0 : Int32)), (.int (0 : Int32)), (.int (0 : Int32)), (.int (0 : Int32)), (.int (0 : Int32)), (.int (0 : Int32))] (.int (0 : Int32)) := (Arv.new A1 (by decide)).pad (pad_rep [] (.int (0 : Int32)) 31)
  have g_b1 : n0 ≤ b1 := Nat.le_trans Z0 (Nat.le_of_eq g1.symm)
  have Z1 : n0 ≤ h1.size := Nat.le_trans Z0 E1.1
  refine own_via (A' := T1.setTop (mkF m 4 #[.val (.int p0), .val (.int p1), .unset, .unset, .unset, .unset, .unset] [(.ref b1)])) st1 ?_
  refine own_via (A' := T1.setTop (mkF m 7 #[.val (.int p0), .val (.int p1), .unset, .unset, .unset, .unset, .unset] [(.int (0 : Int32)), (.int (0 : Int32)), (.ref b1), (.ref b1)])) (fun target kt => ?_) ?_
  · show Steps p.tables e below (T1.setTop (mkF m 4 #[.val (.int p0), .val (.int p1), .unset, .unset, .unset, .unset, .unset] [(.ref b1)])) _
    refine XS.dup X1.here hx rfl (hb hby at_4) rfl rfl ?_
    show Steps p.tables e below (T1.setTop (mkF m 5 #[.val (.int p0), .val (.int p1), .unset, .unset, .unset, .unset, .unset] [(.ref b1), (.ref b1)])) _
    refine XS.iconst X1.here hx rfl (hb hby at_5) ?_
    show Steps p.tables e below (T1.setTop (mkF m 6 #[.val (.int p0), .val (.int p1), .unset, .unset, .unset, .unset, .unset] [(.int (0 : Int32)), (.ref b1), (.ref b1)])) _
    refine XS.iconst X1.here hx rfl (hb hby at_6) ?_
    exact kt
  obtain ⟨cl2, Ar2, q2, S2, N2a, H2, G2⟩ := V1
  have hin2 : ¬ ((0 : Int32) < 0 ∨ cl2.slots.size ≤ ((0 : Int32)).toNatClampNeg) := inb_of S2 ⟨by decide, by decide⟩
  obtain ⟨T2, h2, X2, e2, W2, st2⟩ := stI X1 hx hZ e1 Ar2 (j := (0 : Int32)) hin2 (g := (mkF m 7 #[.val (.int p0), .val (.int p1), .unset, .unset, .unset, .unset, .unset] [(.int (0 : Int32)), (.int (0 : Int32)), (.ref b1), (.ref b1)])) rfl rfl (hb hby at_7)
  have V2 : Arv Z h2 b1 k1 .int (31 : Int32) [(.int (0 : Int32)), (.int (0 : Int32)), (.int (0 : Int32)), (.int (0 : Int32)), (.int (0 : Int32)), (.int (0 : Int32)), (.int (0 : Int32)), (.int (0 : Int32)), (.int (0 : Int32)), (.int (0 : Int32)), (.int (0 : Int32)), (.int (0 : Int32)), (.int (0 : Int32)), (.int (0 : Int32)), (.int (0 : Int32)), (.int (0 : Int32)), (.int (0 : Int32)), (.int (0 : Int32)), (.int (0 : Int32)), (.int (0 : Int32)), (.int (0 : Int32)), (.int (0 : Int32)), (.int (0 : Int32)), (.int (0 : Int32)), (.int (0 : Int32)), (.int (0 : Int32)), (.int (0 : Int32)), (.int (0 : Int32)), (.int (0 : Int32)), (.int (0 : Int32)), (.int (0 : Int32))] (.int (0 : Int32)) := Arv.set Ar2 q2 S2 N2a H2 G2 rfl W2 0 rfl (Nat.le_of_ble_eq_true rfl)
  have N2 := Fr.snoc X2 N0 g_b1
  obtain ⟨LL2, X2, N2⟩ := own_fold X2 N2
  have Z2 : n0 ≤ h2.size := Nat.le_trans Z1 (Nat.le_of_eq W2.size.symm)
  refine own_via (A' := T2.setTop (mkF m 8 #[.val (.int p0), .val (.int p1), .unset, .unset, .unset, .unset, .unset] [(.ref b1)])) st2 ?_
  refine own_via (A' := T2.setTop (mkF m 12 #[.val (.int p0), .val (.int p1), .unset, .unset, .unset, .unset, .unset] [(.int (65 : Int32)), (.int (1 : Int32)), (.ref b1), (.ref b1)])) (fun target kt => ?_) ?_
  · show Steps p.tables e below (T2.setTop (mkF m 8 #[.val (.int p0), .val (.int p1), .unset, .unset, .unset, .unset, .unset] [(.ref b1)])) _
    refine XS.dup X2.here hx rfl (hb hby at_8) rfl rfl ?_
    show Steps p.tables e below (T2.setTop (mkF m 9 #[.val (.int p0), .val (.int p1), .unset, .unset, .unset, .unset, .unset] [(.ref b1), (.ref b1)])) _
    refine XS.iconst X2.here hx rfl (hb hby at_9) ?_
    show Steps p.tables e below (T2.setTop (mkF m 10 #[.val (.int p0), .val (.int p1), .unset, .unset, .unset, .unset, .unset] [(.int (1 : Int32)), (.ref b1), (.ref b1)])) _
    refine XS.bipush X2.here hx rfl (hb hby at_10) ?_
    exact kt
  obtain ⟨cl3, Ar3, q3, S3, N3a, H3, G3⟩ := V2
  have hin3 : ¬ ((1 : Int32) < 0 ∨ cl3.slots.size ≤ ((1 : Int32)).toNatClampNeg) := inb_of S3 ⟨by decide, by decide⟩
  obtain ⟨T3, h3, X3, e3, W3, st3⟩ := stI X2 hx hZ e2 Ar3 (j := (1 : Int32)) hin3 (g := (mkF m 12 #[.val (.int p0), .val (.int p1), .unset, .unset, .unset, .unset, .unset] [(.int (65 : Int32)), (.int (1 : Int32)), (.ref b1), (.ref b1)])) rfl rfl (hb hby at_12)
  have V3 : Arv Z h3 b1 k1 .int (31 : Int32) [(.int (0 : Int32)), (.int (65 : Int32)), (.int (0 : Int32)), (.int (0 : Int32)), (.int (0 : Int32)), (.int (0 : Int32)), (.int (0 : Int32)), (.int (0 : Int32)), (.int (0 : Int32)), (.int (0 : Int32)), (.int (0 : Int32)), (.int (0 : Int32)), (.int (0 : Int32)), (.int (0 : Int32)), (.int (0 : Int32)), (.int (0 : Int32)), (.int (0 : Int32)), (.int (0 : Int32)), (.int (0 : Int32)), (.int (0 : Int32)), (.int (0 : Int32)), (.int (0 : Int32)), (.int (0 : Int32)), (.int (0 : Int32)), (.int (0 : Int32)), (.int (0 : Int32)), (.int (0 : Int32)), (.int (0 : Int32)), (.int (0 : Int32)), (.int (0 : Int32)), (.int (0 : Int32))] (.int (0 : Int32)) := Arv.set Ar3 q3 S3 N3a H3 G3 rfl W3 1 rfl (Nat.le_of_ble_eq_true rfl)
  have N3 := Fr.snoc X3 N2 g_b1
  obtain ⟨LL3, X3, N3⟩ := own_fold X3 N3
  have Z3 : n0 ≤ h3.size := Nat.le_trans Z2 (Nat.le_of_eq W3.size.symm)
  refine own_via (A' := T3.setTop (mkF m 13 #[.val (.int p0), .val (.int p1), .unset, .unset, .unset, .unset, .unset] [(.ref b1)])) st3 ?_
  refine own_via (A' := T3.setTop (mkF m 17 #[.val (.int p0), .val (.int p1), .unset, .unset, .unset, .unset, .unset] [(.int (91 : Int32)), (.int (2 : Int32)), (.ref b1), (.ref b1)])) (fun target kt => ?_) ?_
  · show Steps p.tables e below (T3.setTop (mkF m 13 #[.val (.int p0), .val (.int p1), .unset, .unset, .unset, .unset, .unset] [(.ref b1)])) _
    refine XS.dup X3.here hx rfl (hb hby at_13) rfl rfl ?_
    show Steps p.tables e below (T3.setTop (mkF m 14 #[.val (.int p0), .val (.int p1), .unset, .unset, .unset, .unset, .unset] [(.ref b1), (.ref b1)])) _
    refine XS.iconst X3.here hx rfl (hb hby at_14) ?_
    show Steps p.tables e below (T3.setTop (mkF m 15 #[.val (.int p0), .val (.int p1), .unset, .unset, .unset, .unset, .unset] [(.int (2 : Int32)), (.ref b1), (.ref b1)])) _
    refine XS.bipush X3.here hx rfl (hb hby at_15) ?_
    exact kt
  obtain ⟨cl4, Ar4, q4, S4, N4a, H4, G4⟩ := V3
  have hin4 : ¬ ((2 : Int32) < 0 ∨ cl4.slots.size ≤ ((2 : Int32)).toNatClampNeg) := inb_of S4 ⟨by decide, by decide⟩
  obtain ⟨T4, h4, X4, e4, W4, st4⟩ := stI X3 hx hZ e3 Ar4 (j := (2 : Int32)) hin4 (g := (mkF m 17 #[.val (.int p0), .val (.int p1), .unset, .unset, .unset, .unset, .unset] [(.int (91 : Int32)), (.int (2 : Int32)), (.ref b1), (.ref b1)])) rfl rfl (hb hby at_17)
  have V4 : Arv Z h4 b1 k1 .int (31 : Int32) [(.int (0 : Int32)), (.int (65 : Int32)), (.int (91 : Int32)), (.int (0 : Int32)), (.int (0 : Int32)), (.int (0 : Int32)), (.int (0 : Int32)), (.int (0 : Int32)), (.int (0 : Int32)), (.int (0 : Int32)), (.int (0 : Int32)), (.int (0 : Int32)), (.int (0 : Int32)), (.int (0 : Int32)), (.int (0 : Int32)), (.int (0 : Int32)), (.int (0 : Int32)), (.int (0 : Int32)), (.int (0 : Int32)), (.int (0 : Int32)), (.int (0 : Int32)), (.int (0 : Int32)), (.int (0 : Int32)), (.int (0 : Int32)), (.int (0 : Int32)), (.int (0 : Int32)), (.int (0 : Int32)), (.int (0 : Int32)), (.int (0 : Int32)), (.int (0 : Int32)), (.int (0 : Int32))] (.int (0 : Int32)) := Arv.set Ar4 q4 S4 N4a H4 G4 rfl W4 2 rfl (Nat.le_of_ble_eq_true rfl)
  have N4 := Fr.snoc X4 N3 g_b1
  obtain ⟨LL4, X4, N4⟩ := own_fold X4 N4
  have Z4 : n0 ≤ h4.size := Nat.le_trans Z3 (Nat.le_of_eq W4.size.symm)
  refine own_via (A' := T4.setTop (mkF m 18 #[.val (.int p0), .val (.int p1), .unset, .unset, .unset, .unset, .unset] [(.ref b1)])) st4 ?_
  refine own_via (A' := T4.setTop (mkF m 22 #[.val (.int p0), .val (.int p1), .unset, .unset, .unset, .unset, .unset] [(.int (95 : Int32)), (.int (3 : Int32)), (.ref b1), (.ref b1)])) (fun target kt => ?_) ?_
  · show Steps p.tables e below (T4.setTop (mkF m 18 #[.val (.int p0), .val (.int p1), .unset, .unset, .unset, .unset, .unset] [(.ref b1)])) _
    refine XS.dup X4.here hx rfl (hb hby at_18) rfl rfl ?_
    show Steps p.tables e below (T4.setTop (mkF m 19 #[.val (.int p0), .val (.int p1), .unset, .unset, .unset, .unset, .unset] [(.ref b1), (.ref b1)])) _
    refine XS.iconst X4.here hx rfl (hb hby at_19) ?_
    show Steps p.tables e below (T4.setTop (mkF m 20 #[.val (.int p0), .val (.int p1), .unset, .unset, .unset, .unset, .unset] [(.int (3 : Int32)), (.ref b1), (.ref b1)])) _
    refine XS.bipush X4.here hx rfl (hb hby at_20) ?_
    exact kt
  obtain ⟨cl5, Ar5, q5, S5, N5a, H5, G5⟩ := V4
  have hin5 : ¬ ((3 : Int32) < 0 ∨ cl5.slots.size ≤ ((3 : Int32)).toNatClampNeg) := inb_of S5 ⟨by decide, by decide⟩
  obtain ⟨T5, h5, X5, e5, W5, st5⟩ := stI X4 hx hZ e4 Ar5 (j := (3 : Int32)) hin5 (g := (mkF m 22 #[.val (.int p0), .val (.int p1), .unset, .unset, .unset, .unset, .unset] [(.int (95 : Int32)), (.int (3 : Int32)), (.ref b1), (.ref b1)])) rfl rfl (hb hby at_22)
  have V5 : Arv Z h5 b1 k1 .int (31 : Int32) [(.int (0 : Int32)), (.int (65 : Int32)), (.int (91 : Int32)), (.int (95 : Int32)), (.int (0 : Int32)), (.int (0 : Int32)), (.int (0 : Int32)), (.int (0 : Int32)), (.int (0 : Int32)), (.int (0 : Int32)), (.int (0 : Int32)), (.int (0 : Int32)), (.int (0 : Int32)), (.int (0 : Int32)), (.int (0 : Int32)), (.int (0 : Int32)), (.int (0 : Int32)), (.int (0 : Int32)), (.int (0 : Int32)), (.int (0 : Int32)), (.int (0 : Int32)), (.int (0 : Int32)), (.int (0 : Int32)), (.int (0 : Int32)), (.int (0 : Int32)), (.int (0 : Int32)), (.int (0 : Int32)), (.int (0 : Int32)), (.int (0 : Int32)), (.int (0 : Int32)), (.int (0 : Int32))] (.int (0 : Int32)) := Arv.set Ar5 q5 S5 N5a H5 G5 rfl W5 3 rfl (Nat.le_of_ble_eq_true rfl)
  have N5 := Fr.snoc X5 N4 g_b1
  obtain ⟨LL5, X5, N5⟩ := own_fold X5 N5
  have Z5 : n0 ≤ h5.size := Nat.le_trans Z4 (Nat.le_of_eq W5.size.symm)
  refine own_via (A' := T5.setTop (mkF m 23 #[.val (.int p0), .val (.int p1), .unset, .unset, .unset, .unset, .unset] [(.ref b1)])) st5 ?_
  refine own_via (A' := T5.setTop (mkF m 27 #[.val (.int p0), .val (.int p1), .unset, .unset, .unset, .unset, .unset] [(.int (96 : Int32)), (.int (4 : Int32)), (.ref b1), (.ref b1)])) (fun target kt => ?_) ?_
  · show Steps p.tables e below (T5.setTop (mkF m 23 #[.val (.int p0), .val (.int p1), .unset, .unset, .unset, .unset, .unset] [(.ref b1)])) _
    refine XS.dup X5.here hx rfl (hb hby at_23) rfl rfl ?_
    show Steps p.tables e below (T5.setTop (mkF m 24 #[.val (.int p0), .val (.int p1), .unset, .unset, .unset, .unset, .unset] [(.ref b1), (.ref b1)])) _
    refine XS.iconst X5.here hx rfl (hb hby at_24) ?_
    show Steps p.tables e below (T5.setTop (mkF m 25 #[.val (.int p0), .val (.int p1), .unset, .unset, .unset, .unset, .unset] [(.int (4 : Int32)), (.ref b1), (.ref b1)])) _
    refine XS.bipush X5.here hx rfl (hb hby at_25) ?_
    exact kt
  obtain ⟨cl6, Ar6, q6, S6, N6a, H6, G6⟩ := V5
  have hin6 : ¬ ((4 : Int32) < 0 ∨ cl6.slots.size ≤ ((4 : Int32)).toNatClampNeg) := inb_of S6 ⟨by decide, by decide⟩
  obtain ⟨T6, h6, X6, e6, W6, st6⟩ := stI X5 hx hZ e5 Ar6 (j := (4 : Int32)) hin6 (g := (mkF m 27 #[.val (.int p0), .val (.int p1), .unset, .unset, .unset, .unset, .unset] [(.int (96 : Int32)), (.int (4 : Int32)), (.ref b1), (.ref b1)])) rfl rfl (hb hby at_27)
  have V6 : Arv Z h6 b1 k1 .int (31 : Int32) [(.int (0 : Int32)), (.int (65 : Int32)), (.int (91 : Int32)), (.int (95 : Int32)), (.int (96 : Int32)), (.int (0 : Int32)), (.int (0 : Int32)), (.int (0 : Int32)), (.int (0 : Int32)), (.int (0 : Int32)), (.int (0 : Int32)), (.int (0 : Int32)), (.int (0 : Int32)), (.int (0 : Int32)), (.int (0 : Int32)), (.int (0 : Int32)), (.int (0 : Int32)), (.int (0 : Int32)), (.int (0 : Int32)), (.int (0 : Int32)), (.int (0 : Int32)), (.int (0 : Int32)), (.int (0 : Int32)), (.int (0 : Int32)), (.int (0 : Int32)), (.int (0 : Int32)), (.int (0 : Int32)), (.int (0 : Int32)), (.int (0 : Int32)), (.int (0 : Int32)), (.int (0 : Int32))] (.int (0 : Int32)) := Arv.set Ar6 q6 S6 N6a H6 G6 rfl W6 4 rfl (Nat.le_of_ble_eq_true rfl)
  have N6 := Fr.snoc X6 N5 g_b1
  obtain ⟨LL6, X6, N6⟩ := own_fold X6 N6
  have Z6 : n0 ≤ h6.size := Nat.le_trans Z5 (Nat.le_of_eq W6.size.symm)
  refine own_via (A' := T6.setTop (mkF m 28 #[.val (.int p0), .val (.int p1), .unset, .unset, .unset, .unset, .unset] [(.ref b1)])) st6 ?_
  refine own_via (A' := T6.setTop (mkF m 32 #[.val (.int p0), .val (.int p1), .unset, .unset, .unset, .unset, .unset] [(.int (97 : Int32)), (.int (5 : Int32)), (.ref b1), (.ref b1)])) (fun target kt => ?_) ?_
  · show Steps p.tables e below (T6.setTop (mkF m 28 #[.val (.int p0), .val (.int p1), .unset, .unset, .unset, .unset, .unset] [(.ref b1)])) _
    refine XS.dup X6.here hx rfl (hb hby at_28) rfl rfl ?_
    show Steps p.tables e below (T6.setTop (mkF m 29 #[.val (.int p0), .val (.int p1), .unset, .unset, .unset, .unset, .unset] [(.ref b1), (.ref b1)])) _
    refine XS.iconst X6.here hx rfl (hb hby at_29) ?_
    show Steps p.tables e below (T6.setTop (mkF m 30 #[.val (.int p0), .val (.int p1), .unset, .unset, .unset, .unset, .unset] [(.int (5 : Int32)), (.ref b1), (.ref b1)])) _
    refine XS.bipush X6.here hx rfl (hb hby at_30) ?_
    exact kt
  obtain ⟨cl7, Ar7, q7, S7, N7a, H7, G7⟩ := V6
  have hin7 : ¬ ((5 : Int32) < 0 ∨ cl7.slots.size ≤ ((5 : Int32)).toNatClampNeg) := inb_of S7 ⟨by decide, by decide⟩
  obtain ⟨T7, h7, X7, e7, W7, st7⟩ := stI X6 hx hZ e6 Ar7 (j := (5 : Int32)) hin7 (g := (mkF m 32 #[.val (.int p0), .val (.int p1), .unset, .unset, .unset, .unset, .unset] [(.int (97 : Int32)), (.int (5 : Int32)), (.ref b1), (.ref b1)])) rfl rfl (hb hby at_32)
  have V7 : Arv Z h7 b1 k1 .int (31 : Int32) [(.int (0 : Int32)), (.int (65 : Int32)), (.int (91 : Int32)), (.int (95 : Int32)), (.int (96 : Int32)), (.int (97 : Int32)), (.int (0 : Int32)), (.int (0 : Int32)), (.int (0 : Int32)), (.int (0 : Int32)), (.int (0 : Int32)), (.int (0 : Int32)), (.int (0 : Int32)), (.int (0 : Int32)), (.int (0 : Int32)), (.int (0 : Int32)), (.int (0 : Int32)), (.int (0 : Int32)), (.int (0 : Int32)), (.int (0 : Int32)), (.int (0 : Int32)), (.int (0 : Int32)), (.int (0 : Int32)), (.int (0 : Int32)), (.int (0 : Int32)), (.int (0 : Int32)), (.int (0 : Int32)), (.int (0 : Int32)), (.int (0 : Int32)), (.int (0 : Int32)), (.int (0 : Int32))] (.int (0 : Int32)) := Arv.set Ar7 q7 S7 N7a H7 G7 rfl W7 5 rfl (Nat.le_of_ble_eq_true rfl)
  have N7 := Fr.snoc X7 N6 g_b1
  obtain ⟨LL7, X7, N7⟩ := own_fold X7 N7
  have Z7 : n0 ≤ h7.size := Nat.le_trans Z6 (Nat.le_of_eq W7.size.symm)
  refine own_via (A' := T7.setTop (mkF m 33 #[.val (.int p0), .val (.int p1), .unset, .unset, .unset, .unset, .unset] [(.ref b1)])) st7 ?_
  refine own_via (A' := T7.setTop (mkF m 38 #[.val (.int p0), .val (.int p1), .unset, .unset, .unset, .unset, .unset] [(.int (123 : Int32)), (.int (6 : Int32)), (.ref b1), (.ref b1)])) (fun target kt => ?_) ?_
  · show Steps p.tables e below (T7.setTop (mkF m 33 #[.val (.int p0), .val (.int p1), .unset, .unset, .unset, .unset, .unset] [(.ref b1)])) _
    refine XS.dup X7.here hx rfl (hb hby at_33) rfl rfl ?_
    show Steps p.tables e below (T7.setTop (mkF m 34 #[.val (.int p0), .val (.int p1), .unset, .unset, .unset, .unset, .unset] [(.ref b1), (.ref b1)])) _
    refine XS.bipush X7.here hx rfl (hb hby at_34) ?_
    show Steps p.tables e below (T7.setTop (mkF m 36 #[.val (.int p0), .val (.int p1), .unset, .unset, .unset, .unset, .unset] [(.int (6 : Int32)), (.ref b1), (.ref b1)])) _
    refine XS.bipush X7.here hx rfl (hb hby at_36) ?_
    exact kt
  obtain ⟨cl8, Ar8, q8, S8, N8a, H8, G8⟩ := V7
  have hin8 : ¬ ((6 : Int32) < 0 ∨ cl8.slots.size ≤ ((6 : Int32)).toNatClampNeg) := inb_of S8 ⟨by decide, by decide⟩
  obtain ⟨T8, h8, X8, e8, W8, st8⟩ := stI X7 hx hZ e7 Ar8 (j := (6 : Int32)) hin8 (g := (mkF m 38 #[.val (.int p0), .val (.int p1), .unset, .unset, .unset, .unset, .unset] [(.int (123 : Int32)), (.int (6 : Int32)), (.ref b1), (.ref b1)])) rfl rfl (hb hby at_38)
  have V8 : Arv Z h8 b1 k1 .int (31 : Int32) [(.int (0 : Int32)), (.int (65 : Int32)), (.int (91 : Int32)), (.int (95 : Int32)), (.int (96 : Int32)), (.int (97 : Int32)), (.int (123 : Int32)), (.int (0 : Int32)), (.int (0 : Int32)), (.int (0 : Int32)), (.int (0 : Int32)), (.int (0 : Int32)), (.int (0 : Int32)), (.int (0 : Int32)), (.int (0 : Int32)), (.int (0 : Int32)), (.int (0 : Int32)), (.int (0 : Int32)), (.int (0 : Int32)), (.int (0 : Int32)), (.int (0 : Int32)), (.int (0 : Int32)), (.int (0 : Int32)), (.int (0 : Int32)), (.int (0 : Int32)), (.int (0 : Int32)), (.int (0 : Int32)), (.int (0 : Int32)), (.int (0 : Int32)), (.int (0 : Int32)), (.int (0 : Int32))] (.int (0 : Int32)) := Arv.set Ar8 q8 S8 N8a H8 G8 rfl W8 6 rfl (Nat.le_of_ble_eq_true rfl)
  have N8 := Fr.snoc X8 N7 g_b1
  obtain ⟨LL8, X8, N8⟩ := own_fold X8 N8
  have Z8 : n0 ≤ h8.size := Nat.le_trans Z7 (Nat.le_of_eq W8.size.symm)
  refine own_via (A' := T8.setTop (mkF m 39 #[.val (.int p0), .val (.int p1), .unset, .unset, .unset, .unset, .unset] [(.ref b1)])) st8 ?_
  refine own_via (A' := T8.setTop (mkF m 45 #[.val (.int p0), .val (.int p1), .unset, .unset, .unset, .unset, .unset] [(.int (192 : Int32)), (.int (7 : Int32)), (.ref b1), (.ref b1)])) (fun target kt => ?_) ?_
  · show Steps p.tables e below (T8.setTop (mkF m 39 #[.val (.int p0), .val (.int p1), .unset, .unset, .unset, .unset, .unset] [(.ref b1)])) _
    refine XS.dup X8.here hx rfl (hb hby at_39) rfl rfl ?_
    show Steps p.tables e below (T8.setTop (mkF m 40 #[.val (.int p0), .val (.int p1), .unset, .unset, .unset, .unset, .unset] [(.ref b1), (.ref b1)])) _
    refine XS.bipush X8.here hx rfl (hb hby at_40) ?_
    show Steps p.tables e below (T8.setTop (mkF m 42 #[.val (.int p0), .val (.int p1), .unset, .unset, .unset, .unset, .unset] [(.int (7 : Int32)), (.ref b1), (.ref b1)])) _
    refine XS.sipush X8.here hx rfl (hb hby at_42) ?_
    exact kt
  obtain ⟨cl9, Ar9, q9, S9, N9a, H9, G9⟩ := V8
  have hin9 : ¬ ((7 : Int32) < 0 ∨ cl9.slots.size ≤ ((7 : Int32)).toNatClampNeg) := inb_of S9 ⟨by decide, by decide⟩
  obtain ⟨T9, h9, X9, e9, W9, st9⟩ := stI X8 hx hZ e8 Ar9 (j := (7 : Int32)) hin9 (g := (mkF m 45 #[.val (.int p0), .val (.int p1), .unset, .unset, .unset, .unset, .unset] [(.int (192 : Int32)), (.int (7 : Int32)), (.ref b1), (.ref b1)])) rfl rfl (hb hby at_45)
  have V9 : Arv Z h9 b1 k1 .int (31 : Int32) [(.int (0 : Int32)), (.int (65 : Int32)), (.int (91 : Int32)), (.int (95 : Int32)), (.int (96 : Int32)), (.int (97 : Int32)), (.int (123 : Int32)), (.int (192 : Int32)), (.int (0 : Int32)), (.int (0 : Int32)), (.int (0 : Int32)), (.int (0 : Int32)), (.int (0 : Int32)), (.int (0 : Int32)), (.int (0 : Int32)), (.int (0 : Int32)), (.int (0 : Int32)), (.int (0 : Int32)), (.int (0 : Int32)), (.int (0 : Int32)), (.int (0 : Int32)), (.int (0 : Int32)), (.int (0 : Int32)), (.int (0 : Int32)), (.int (0 : Int32)), (.int (0 : Int32)), (.int (0 : Int32)), (.int (0 : Int32)), (.int (0 : Int32)), (.int (0 : Int32)), (.int (0 : Int32))] (.int (0 : Int32)) := Arv.set Ar9 q9 S9 N9a H9 G9 rfl W9 7 rfl (Nat.le_of_ble_eq_true rfl)
  have N9 := Fr.snoc X9 N8 g_b1
  obtain ⟨LL9, X9, N9⟩ := own_fold X9 N9
  have Z9 : n0 ≤ h9.size := Nat.le_trans Z8 (Nat.le_of_eq W9.size.symm)
  refine own_via (A' := T9.setTop (mkF m 46 #[.val (.int p0), .val (.int p1), .unset, .unset, .unset, .unset, .unset] [(.ref b1)])) st9 ?_
  refine own_via (A' := T9.setTop (mkF m 52 #[.val (.int p0), .val (.int p1), .unset, .unset, .unset, .unset, .unset] [(.int (215 : Int32)), (.int (8 : Int32)), (.ref b1), (.ref b1)])) (fun target kt => ?_) ?_
  · show Steps p.tables e below (T9.setTop (mkF m 46 #[.val (.int p0), .val (.int p1), .unset, .unset, .unset, .unset, .unset] [(.ref b1)])) _
    refine XS.dup X9.here hx rfl (hb hby at_46) rfl rfl ?_
    show Steps p.tables e below (T9.setTop (mkF m 47 #[.val (.int p0), .val (.int p1), .unset, .unset, .unset, .unset, .unset] [(.ref b1), (.ref b1)])) _
    refine XS.bipush X9.here hx rfl (hb hby at_47) ?_
    show Steps p.tables e below (T9.setTop (mkF m 49 #[.val (.int p0), .val (.int p1), .unset, .unset, .unset, .unset, .unset] [(.int (8 : Int32)), (.ref b1), (.ref b1)])) _
    refine XS.sipush X9.here hx rfl (hb hby at_49) ?_
    exact kt
  obtain ⟨cl10, Ar10, q10, S10, N10a, H10, G10⟩ := V9
  have hin10 : ¬ ((8 : Int32) < 0 ∨ cl10.slots.size ≤ ((8 : Int32)).toNatClampNeg) := inb_of S10 ⟨by decide, by decide⟩
  obtain ⟨T10, h10, X10, e10, W10, st10⟩ := stI X9 hx hZ e9 Ar10 (j := (8 : Int32)) hin10 (g := (mkF m 52 #[.val (.int p0), .val (.int p1), .unset, .unset, .unset, .unset, .unset] [(.int (215 : Int32)), (.int (8 : Int32)), (.ref b1), (.ref b1)])) rfl rfl (hb hby at_52)
  have V10 : Arv Z h10 b1 k1 .int (31 : Int32) [(.int (0 : Int32)), (.int (65 : Int32)), (.int (91 : Int32)), (.int (95 : Int32)), (.int (96 : Int32)), (.int (97 : Int32)), (.int (123 : Int32)), (.int (192 : Int32)), (.int (215 : Int32)), (.int (0 : Int32)), (.int (0 : Int32)), (.int (0 : Int32)), (.int (0 : Int32)), (.int (0 : Int32)), (.int (0 : Int32)), (.int (0 : Int32)), (.int (0 : Int32)), (.int (0 : Int32)), (.int (0 : Int32)), (.int (0 : Int32)), (.int (0 : Int32)), (.int (0 : Int32)), (.int (0 : Int32)), (.int (0 : Int32)), (.int (0 : Int32)), (.int (0 : Int32)), (.int (0 : Int32)), (.int (0 : Int32)), (.int (0 : Int32)), (.int (0 : Int32)), (.int (0 : Int32))] (.int (0 : Int32)) := Arv.set Ar10 q10 S10 N10a H10 G10 rfl W10 8 rfl (Nat.le_of_ble_eq_true rfl)
  have N10 := Fr.snoc X10 N9 g_b1
  obtain ⟨LL10, X10, N10⟩ := own_fold X10 N10
  have Z10 : n0 ≤ h10.size := Nat.le_trans Z9 (Nat.le_of_eq W10.size.symm)
  refine own_via (A' := T10.setTop (mkF m 53 #[.val (.int p0), .val (.int p1), .unset, .unset, .unset, .unset, .unset] [(.ref b1)])) st10 ?_
  refine own_via (A' := T10.setTop (mkF m 59 #[.val (.int p0), .val (.int p1), .unset, .unset, .unset, .unset, .unset] [(.int (216 : Int32)), (.int (9 : Int32)), (.ref b1), (.ref b1)])) (fun target kt => ?_) ?_
  · show Steps p.tables e below (T10.setTop (mkF m 53 #[.val (.int p0), .val (.int p1), .unset, .unset, .unset, .unset, .unset] [(.ref b1)])) _
    refine XS.dup X10.here hx rfl (hb hby at_53) rfl rfl ?_
    show Steps p.tables e below (T10.setTop (mkF m 54 #[.val (.int p0), .val (.int p1), .unset, .unset, .unset, .unset, .unset] [(.ref b1), (.ref b1)])) _
    refine XS.bipush X10.here hx rfl (hb hby at_54) ?_
    show Steps p.tables e below (T10.setTop (mkF m 56 #[.val (.int p0), .val (.int p1), .unset, .unset, .unset, .unset, .unset] [(.int (9 : Int32)), (.ref b1), (.ref b1)])) _
    refine XS.sipush X10.here hx rfl (hb hby at_56) ?_
    exact kt
  obtain ⟨cl11, Ar11, q11, S11, N11a, H11, G11⟩ := V10
  have hin11 : ¬ ((9 : Int32) < 0 ∨ cl11.slots.size ≤ ((9 : Int32)).toNatClampNeg) := inb_of S11 ⟨by decide, by decide⟩
  obtain ⟨T11, h11, X11, e11, W11, st11⟩ := stI X10 hx hZ e10 Ar11 (j := (9 : Int32)) hin11 (g := (mkF m 59 #[.val (.int p0), .val (.int p1), .unset, .unset, .unset, .unset, .unset] [(.int (216 : Int32)), (.int (9 : Int32)), (.ref b1), (.ref b1)])) rfl rfl (hb hby at_59)
  have V11 : Arv Z h11 b1 k1 .int (31 : Int32) [(.int (0 : Int32)), (.int (65 : Int32)), (.int (91 : Int32)), (.int (95 : Int32)), (.int (96 : Int32)), (.int (97 : Int32)), (.int (123 : Int32)), (.int (192 : Int32)), (.int (215 : Int32)), (.int (216 : Int32)), (.int (0 : Int32)), (.int (0 : Int32)), (.int (0 : Int32)), (.int (0 : Int32)), (.int (0 : Int32)), (.int (0 : Int32)), (.int (0 : Int32)), (.int (0 : Int32)), (.int (0 : Int32)), (.int (0 : Int32)), (.int (0 : Int32)), (.int (0 : Int32)), (.int (0 : Int32)), (.int (0 : Int32)), (.int (0 : Int32)), (.int (0 : Int32)), (.int (0 : Int32)), (.int (0 : Int32)), (.int (0 : Int32)), (.int (0 : Int32)), (.int (0 : Int32))] (.int (0 : Int32)) := Arv.set Ar11 q11 S11 N11a H11 G11 rfl W11 9 rfl (Nat.le_of_ble_eq_true rfl)
  have N11 := Fr.snoc X11 N10 g_b1
  obtain ⟨LL11, X11, N11⟩ := own_fold X11 N11
  have Z11 : n0 ≤ h11.size := Nat.le_trans Z10 (Nat.le_of_eq W11.size.symm)
  refine own_via (A' := T11.setTop (mkF m 60 #[.val (.int p0), .val (.int p1), .unset, .unset, .unset, .unset, .unset] [(.ref b1)])) st11 ?_
  refine own_via (A' := T11.setTop (mkF m 66 #[.val (.int p0), .val (.int p1), .unset, .unset, .unset, .unset, .unset] [(.int (247 : Int32)), (.int (10 : Int32)), (.ref b1), (.ref b1)])) (fun target kt => ?_) ?_
  · show Steps p.tables e below (T11.setTop (mkF m 60 #[.val (.int p0), .val (.int p1), .unset, .unset, .unset, .unset, .unset] [(.ref b1)])) _
    refine XS.dup X11.here hx rfl (hb hby at_60) rfl rfl ?_
    show Steps p.tables e below (T11.setTop (mkF m 61 #[.val (.int p0), .val (.int p1), .unset, .unset, .unset, .unset, .unset] [(.ref b1), (.ref b1)])) _
    refine XS.bipush X11.here hx rfl (hb hby at_61) ?_
    show Steps p.tables e below (T11.setTop (mkF m 63 #[.val (.int p0), .val (.int p1), .unset, .unset, .unset, .unset, .unset] [(.int (10 : Int32)), (.ref b1), (.ref b1)])) _
    refine XS.sipush X11.here hx rfl (hb hby at_63) ?_
    exact kt
  obtain ⟨cl12, Ar12, q12, S12, N12a, H12, G12⟩ := V11
  have hin12 : ¬ ((10 : Int32) < 0 ∨ cl12.slots.size ≤ ((10 : Int32)).toNatClampNeg) := inb_of S12 ⟨by decide, by decide⟩
  obtain ⟨T12, h12, X12, e12, W12, st12⟩ := stI X11 hx hZ e11 Ar12 (j := (10 : Int32)) hin12 (g := (mkF m 66 #[.val (.int p0), .val (.int p1), .unset, .unset, .unset, .unset, .unset] [(.int (247 : Int32)), (.int (10 : Int32)), (.ref b1), (.ref b1)])) rfl rfl (hb hby at_66)
  have V12 : Arv Z h12 b1 k1 .int (31 : Int32) [(.int (0 : Int32)), (.int (65 : Int32)), (.int (91 : Int32)), (.int (95 : Int32)), (.int (96 : Int32)), (.int (97 : Int32)), (.int (123 : Int32)), (.int (192 : Int32)), (.int (215 : Int32)), (.int (216 : Int32)), (.int (247 : Int32)), (.int (0 : Int32)), (.int (0 : Int32)), (.int (0 : Int32)), (.int (0 : Int32)), (.int (0 : Int32)), (.int (0 : Int32)), (.int (0 : Int32)), (.int (0 : Int32)), (.int (0 : Int32)), (.int (0 : Int32)), (.int (0 : Int32)), (.int (0 : Int32)), (.int (0 : Int32)), (.int (0 : Int32)), (.int (0 : Int32)), (.int (0 : Int32)), (.int (0 : Int32)), (.int (0 : Int32)), (.int (0 : Int32)), (.int (0 : Int32))] (.int (0 : Int32)) := Arv.set Ar12 q12 S12 N12a H12 G12 rfl W12 10 rfl (Nat.le_of_ble_eq_true rfl)
  have N12 := Fr.snoc X12 N11 g_b1
  obtain ⟨LL12, X12, N12⟩ := own_fold X12 N12
  have Z12 : n0 ≤ h12.size := Nat.le_trans Z11 (Nat.le_of_eq W12.size.symm)
  refine own_via (A' := T12.setTop (mkF m 67 #[.val (.int p0), .val (.int p1), .unset, .unset, .unset, .unset, .unset] [(.ref b1)])) st12 ?_
  refine own_via (A' := T12.setTop (mkF m 73 #[.val (.int p0), .val (.int p1), .unset, .unset, .unset, .unset, .unset] [(.int (248 : Int32)), (.int (11 : Int32)), (.ref b1), (.ref b1)])) (fun target kt => ?_) ?_
  · show Steps p.tables e below (T12.setTop (mkF m 67 #[.val (.int p0), .val (.int p1), .unset, .unset, .unset, .unset, .unset] [(.ref b1)])) _
    refine XS.dup X12.here hx rfl (hb hby at_67) rfl rfl ?_
    show Steps p.tables e below (T12.setTop (mkF m 68 #[.val (.int p0), .val (.int p1), .unset, .unset, .unset, .unset, .unset] [(.ref b1), (.ref b1)])) _
    refine XS.bipush X12.here hx rfl (hb hby at_68) ?_
    show Steps p.tables e below (T12.setTop (mkF m 70 #[.val (.int p0), .val (.int p1), .unset, .unset, .unset, .unset, .unset] [(.int (11 : Int32)), (.ref b1), (.ref b1)])) _
    refine XS.sipush X12.here hx rfl (hb hby at_70) ?_
    exact kt
  obtain ⟨cl13, Ar13, q13, S13, N13a, H13, G13⟩ := V12
  have hin13 : ¬ ((11 : Int32) < 0 ∨ cl13.slots.size ≤ ((11 : Int32)).toNatClampNeg) := inb_of S13 ⟨by decide, by decide⟩
  obtain ⟨T13, h13, X13, e13, W13, st13⟩ := stI X12 hx hZ e12 Ar13 (j := (11 : Int32)) hin13 (g := (mkF m 73 #[.val (.int p0), .val (.int p1), .unset, .unset, .unset, .unset, .unset] [(.int (248 : Int32)), (.int (11 : Int32)), (.ref b1), (.ref b1)])) rfl rfl (hb hby at_73)
  have V13 : Arv Z h13 b1 k1 .int (31 : Int32) [(.int (0 : Int32)), (.int (65 : Int32)), (.int (91 : Int32)), (.int (95 : Int32)), (.int (96 : Int32)), (.int (97 : Int32)), (.int (123 : Int32)), (.int (192 : Int32)), (.int (215 : Int32)), (.int (216 : Int32)), (.int (247 : Int32)), (.int (248 : Int32)), (.int (0 : Int32)), (.int (0 : Int32)), (.int (0 : Int32)), (.int (0 : Int32)), (.int (0 : Int32)), (.int (0 : Int32)), (.int (0 : Int32)), (.int (0 : Int32)), (.int (0 : Int32)), (.int (0 : Int32)), (.int (0 : Int32)), (.int (0 : Int32)), (.int (0 : Int32)), (.int (0 : Int32)), (.int (0 : Int32)), (.int (0 : Int32)), (.int (0 : Int32)), (.int (0 : Int32)), (.int (0 : Int32))] (.int (0 : Int32)) := Arv.set Ar13 q13 S13 N13a H13 G13 rfl W13 11 rfl (Nat.le_of_ble_eq_true rfl)
  have N13 := Fr.snoc X13 N12 g_b1
  obtain ⟨LL13, X13, N13⟩ := own_fold X13 N13
  have Z13 : n0 ≤ h13.size := Nat.le_trans Z12 (Nat.le_of_eq W13.size.symm)
  refine own_via (A' := T13.setTop (mkF m 74 #[.val (.int p0), .val (.int p1), .unset, .unset, .unset, .unset, .unset] [(.ref b1)])) st13 ?_
  refine own_via (A' := T13.setTop (mkF m 80 #[.val (.int p0), .val (.int p1), .unset, .unset, .unset, .unset, .unset] [(.int (768 : Int32)), (.int (12 : Int32)), (.ref b1), (.ref b1)])) (fun target kt => ?_) ?_
  · show Steps p.tables e below (T13.setTop (mkF m 74 #[.val (.int p0), .val (.int p1), .unset, .unset, .unset, .unset, .unset] [(.ref b1)])) _
    refine XS.dup X13.here hx rfl (hb hby at_74) rfl rfl ?_
    show Steps p.tables e below (T13.setTop (mkF m 75 #[.val (.int p0), .val (.int p1), .unset, .unset, .unset, .unset, .unset] [(.ref b1), (.ref b1)])) _
    refine XS.bipush X13.here hx rfl (hb hby at_75) ?_
    show Steps p.tables e below (T13.setTop (mkF m 77 #[.val (.int p0), .val (.int p1), .unset, .unset, .unset, .unset, .unset] [(.int (12 : Int32)), (.ref b1), (.ref b1)])) _
    refine XS.sipush X13.here hx rfl (hb hby at_77) ?_
    exact kt
  obtain ⟨cl14, Ar14, q14, S14, N14a, H14, G14⟩ := V13
  have hin14 : ¬ ((12 : Int32) < 0 ∨ cl14.slots.size ≤ ((12 : Int32)).toNatClampNeg) := inb_of S14 ⟨by decide, by decide⟩
  obtain ⟨T14, h14, X14, e14, W14, st14⟩ := stI X13 hx hZ e13 Ar14 (j := (12 : Int32)) hin14 (g := (mkF m 80 #[.val (.int p0), .val (.int p1), .unset, .unset, .unset, .unset, .unset] [(.int (768 : Int32)), (.int (12 : Int32)), (.ref b1), (.ref b1)])) rfl rfl (hb hby at_80)
  have V14 : Arv Z h14 b1 k1 .int (31 : Int32) [(.int (0 : Int32)), (.int (65 : Int32)), (.int (91 : Int32)), (.int (95 : Int32)), (.int (96 : Int32)), (.int (97 : Int32)), (.int (123 : Int32)), (.int (192 : Int32)), (.int (215 : Int32)), (.int (216 : Int32)), (.int (247 : Int32)), (.int (248 : Int32)), (.int (768 : Int32)), (.int (0 : Int32)), (.int (0 : Int32)), (.int (0 : Int32)), (.int (0 : Int32)), (.int (0 : Int32)), (.int (0 : Int32)), (.int (0 : Int32)), (.int (0 : Int32)), (.int (0 : Int32)), (.int (0 : Int32)), (.int (0 : Int32)), (.int (0 : Int32)), (.int (0 : Int32)), (.int (0 : Int32)), (.int (0 : Int32)), (.int (0 : Int32)), (.int (0 : Int32)), (.int (0 : Int32))] (.int (0 : Int32)) := Arv.set Ar14 q14 S14 N14a H14 G14 rfl W14 12 rfl (Nat.le_of_ble_eq_true rfl)
  have N14 := Fr.snoc X14 N13 g_b1
  obtain ⟨LL14, X14, N14⟩ := own_fold X14 N14
  have Z14 : n0 ≤ h14.size := Nat.le_trans Z13 (Nat.le_of_eq W14.size.symm)
  refine own_via (A' := T14.setTop (mkF m 81 #[.val (.int p0), .val (.int p1), .unset, .unset, .unset, .unset, .unset] [(.ref b1)])) st14 ?_
  refine own_via (A' := T14.setTop (mkF m 87 #[.val (.int p0), .val (.int p1), .unset, .unset, .unset, .unset, .unset] [(.int (880 : Int32)), (.int (13 : Int32)), (.ref b1), (.ref b1)])) (fun target kt => ?_) ?_
  · show Steps p.tables e below (T14.setTop (mkF m 81 #[.val (.int p0), .val (.int p1), .unset, .unset, .unset, .unset, .unset] [(.ref b1)])) _
    refine XS.dup X14.here hx rfl (hb hby at_81) rfl rfl ?_
    show Steps p.tables e below (T14.setTop (mkF m 82 #[.val (.int p0), .val (.int p1), .unset, .unset, .unset, .unset, .unset] [(.ref b1), (.ref b1)])) _
    refine XS.bipush X14.here hx rfl (hb hby at_82) ?_
    show Steps p.tables e below (T14.setTop (mkF m 84 #[.val (.int p0), .val (.int p1), .unset, .unset, .unset, .unset, .unset] [(.int (13 : Int32)), (.ref b1), (.ref b1)])) _
    refine XS.sipush X14.here hx rfl (hb hby at_84) ?_
    exact kt
  obtain ⟨cl15, Ar15, q15, S15, N15a, H15, G15⟩ := V14
  have hin15 : ¬ ((13 : Int32) < 0 ∨ cl15.slots.size ≤ ((13 : Int32)).toNatClampNeg) := inb_of S15 ⟨by decide, by decide⟩
  obtain ⟨T15, h15, X15, e15, W15, st15⟩ := stI X14 hx hZ e14 Ar15 (j := (13 : Int32)) hin15 (g := (mkF m 87 #[.val (.int p0), .val (.int p1), .unset, .unset, .unset, .unset, .unset] [(.int (880 : Int32)), (.int (13 : Int32)), (.ref b1), (.ref b1)])) rfl rfl (hb hby at_87)
  have V15 : Arv Z h15 b1 k1 .int (31 : Int32) [(.int (0 : Int32)), (.int (65 : Int32)), (.int (91 : Int32)), (.int (95 : Int32)), (.int (96 : Int32)), (.int (97 : Int32)), (.int (123 : Int32)), (.int (192 : Int32)), (.int (215 : Int32)), (.int (216 : Int32)), (.int (247 : Int32)), (.int (248 : Int32)), (.int (768 : Int32)), (.int (880 : Int32)), (.int (0 : Int32)), (.int (0 : Int32)), (.int (0 : Int32)), (.int (0 : Int32)), (.int (0 : Int32)), (.int (0 : Int32)), (.int (0 : Int32)), (.int (0 : Int32)), (.int (0 : Int32)), (.int (0 : Int32)), (.int (0 : Int32)), (.int (0 : Int32)), (.int (0 : Int32)), (.int (0 : Int32)), (.int (0 : Int32)), (.int (0 : Int32)), (.int (0 : Int32))] (.int (0 : Int32)) := Arv.set Ar15 q15 S15 N15a H15 G15 rfl W15 13 rfl (Nat.le_of_ble_eq_true rfl)
  have N15 := Fr.snoc X15 N14 g_b1
  obtain ⟨LL15, X15, N15⟩ := own_fold X15 N15
  have Z15 : n0 ≤ h15.size := Nat.le_trans Z14 (Nat.le_of_eq W15.size.symm)
  refine own_via (A' := T15.setTop (mkF m 88 #[.val (.int p0), .val (.int p1), .unset, .unset, .unset, .unset, .unset] [(.ref b1)])) st15 ?_
  refine own_via (A' := T15.setTop (mkF m 94 #[.val (.int p0), .val (.int p1), .unset, .unset, .unset, .unset, .unset] [(.int (894 : Int32)), (.int (14 : Int32)), (.ref b1), (.ref b1)])) (fun target kt => ?_) ?_
  · show Steps p.tables e below (T15.setTop (mkF m 88 #[.val (.int p0), .val (.int p1), .unset, .unset, .unset, .unset, .unset] [(.ref b1)])) _
    refine XS.dup X15.here hx rfl (hb hby at_88) rfl rfl ?_
    show Steps p.tables e below (T15.setTop (mkF m 89 #[.val (.int p0), .val (.int p1), .unset, .unset, .unset, .unset, .unset] [(.ref b1), (.ref b1)])) _
    refine XS.bipush X15.here hx rfl (hb hby at_89) ?_
    show Steps p.tables e below (T15.setTop (mkF m 91 #[.val (.int p0), .val (.int p1), .unset, .unset, .unset, .unset, .unset] [(.int (14 : Int32)), (.ref b1), (.ref b1)])) _
    refine XS.sipush X15.here hx rfl (hb hby at_91) ?_
    exact kt
  obtain ⟨cl16, Ar16, q16, S16, N16a, H16, G16⟩ := V15
  have hin16 : ¬ ((14 : Int32) < 0 ∨ cl16.slots.size ≤ ((14 : Int32)).toNatClampNeg) := inb_of S16 ⟨by decide, by decide⟩
  obtain ⟨T16, h16, X16, e16, W16, st16⟩ := stI X15 hx hZ e15 Ar16 (j := (14 : Int32)) hin16 (g := (mkF m 94 #[.val (.int p0), .val (.int p1), .unset, .unset, .unset, .unset, .unset] [(.int (894 : Int32)), (.int (14 : Int32)), (.ref b1), (.ref b1)])) rfl rfl (hb hby at_94)
  have V16 : Arv Z h16 b1 k1 .int (31 : Int32) [(.int (0 : Int32)), (.int (65 : Int32)), (.int (91 : Int32)), (.int (95 : Int32)), (.int (96 : Int32)), (.int (97 : Int32)), (.int (123 : Int32)), (.int (192 : Int32)), (.int (215 : Int32)), (.int (216 : Int32)), (.int (247 : Int32)), (.int (248 : Int32)), (.int (768 : Int32)), (.int (880 : Int32)), (.int (894 : Int32)), (.int (0 : Int32)), (.int (0 : Int32)), (.int (0 : Int32)), (.int (0 : Int32)), (.int (0 : Int32)), (.int (0 : Int32)), (.int (0 : Int32)), (.int (0 : Int32)), (.int (0 : Int32)), (.int (0 : Int32)), (.int (0 : Int32)), (.int (0 : Int32)), (.int (0 : Int32)), (.int (0 : Int32)), (.int (0 : Int32)), (.int (0 : Int32))] (.int (0 : Int32)) := Arv.set Ar16 q16 S16 N16a H16 G16 rfl W16 14 rfl (Nat.le_of_ble_eq_true rfl)
  have N16 := Fr.snoc X16 N15 g_b1
  obtain ⟨LL16, X16, N16⟩ := own_fold X16 N16
  have Z16 : n0 ≤ h16.size := Nat.le_trans Z15 (Nat.le_of_eq W16.size.symm)
  refine own_via (A' := T16.setTop (mkF m 95 #[.val (.int p0), .val (.int p1), .unset, .unset, .unset, .unset, .unset] [(.ref b1)])) st16 ?_
  refine own_via (A' := T16.setTop (mkF m 101 #[.val (.int p0), .val (.int p1), .unset, .unset, .unset, .unset, .unset] [(.int (895 : Int32)), (.int (15 : Int32)), (.ref b1), (.ref b1)])) (fun target kt => ?_) ?_
  · show Steps p.tables e below (T16.setTop (mkF m 95 #[.val (.int p0), .val (.int p1), .unset, .unset, .unset, .unset, .unset] [(.ref b1)])) _
    refine XS.dup X16.here hx rfl (hb hby at_95) rfl rfl ?_
    show Steps p.tables e below (T16.setTop (mkF m 96 #[.val (.int p0), .val (.int p1), .unset, .unset, .unset, .unset, .unset] [(.ref b1), (.ref b1)])) _
    refine XS.bipush X16.here hx rfl (hb hby at_96) ?_
    show Steps p.tables e below (T16.setTop (mkF m 98 #[.val (.int p0), .val (.int p1), .unset, .unset, .unset, .unset, .unset] [(.int (15 : Int32)), (.ref b1), (.ref b1)])) _
    refine XS.sipush X16.here hx rfl (hb hby at_98) ?_
    exact kt
  obtain ⟨cl17, Ar17, q17, S17, N17a, H17, G17⟩ := V16
  have hin17 : ¬ ((15 : Int32) < 0 ∨ cl17.slots.size ≤ ((15 : Int32)).toNatClampNeg) := inb_of S17 ⟨by decide, by decide⟩
  obtain ⟨T17, h17, X17, e17, W17, st17⟩ := stI X16 hx hZ e16 Ar17 (j := (15 : Int32)) hin17 (g := (mkF m 101 #[.val (.int p0), .val (.int p1), .unset, .unset, .unset, .unset, .unset] [(.int (895 : Int32)), (.int (15 : Int32)), (.ref b1), (.ref b1)])) rfl rfl (hb hby at_101)
  have V17 : Arv Z h17 b1 k1 .int (31 : Int32) [(.int (0 : Int32)), (.int (65 : Int32)), (.int (91 : Int32)), (.int (95 : Int32)), (.int (96 : Int32)), (.int (97 : Int32)), (.int (123 : Int32)), (.int (192 : Int32)), (.int (215 : Int32)), (.int (216 : Int32)), (.int (247 : Int32)), (.int (248 : Int32)), (.int (768 : Int32)), (.int (880 : Int32)), (.int (894 : Int32)), (.int (895 : Int32)), (.int (0 : Int32)), (.int (0 : Int32)), (.int (0 : Int32)), (.int (0 : Int32)), (.int (0 : Int32)), (.int (0 : Int32)), (.int (0 : Int32)), (.int (0 : Int32)), (.int (0 : Int32)), (.int (0 : Int32)), (.int (0 : Int32)), (.int (0 : Int32)), (.int (0 : Int32)), (.int (0 : Int32)), (.int (0 : Int32))] (.int (0 : Int32)) := Arv.set Ar17 q17 S17 N17a H17 G17 rfl W17 15 rfl (Nat.le_of_ble_eq_true rfl)
  have N17 := Fr.snoc X17 N16 g_b1
  obtain ⟨LL17, X17, N17⟩ := own_fold X17 N17
  have Z17 : n0 ≤ h17.size := Nat.le_trans Z16 (Nat.le_of_eq W17.size.symm)
  refine own_via (A' := T17.setTop (mkF m 102 #[.val (.int p0), .val (.int p1), .unset, .unset, .unset, .unset, .unset] [(.ref b1)])) st17 ?_
  refine own_via (A' := T17.setTop (mkF m 108 #[.val (.int p0), .val (.int p1), .unset, .unset, .unset, .unset, .unset] [(.int (8192 : Int32)), (.int (16 : Int32)), (.ref b1), (.ref b1)])) (fun target kt => ?_) ?_
  · show Steps p.tables e below (T17.setTop (mkF m 102 #[.val (.int p0), .val (.int p1), .unset, .unset, .unset, .unset, .unset] [(.ref b1)])) _
    refine XS.dup X17.here hx rfl (hb hby at_102) rfl rfl ?_
    show Steps p.tables e below (T17.setTop (mkF m 103 #[.val (.int p0), .val (.int p1), .unset, .unset, .unset, .unset, .unset] [(.ref b1), (.ref b1)])) _
    refine XS.bipush X17.here hx rfl (hb hby at_103) ?_
    show Steps p.tables e below (T17.setTop (mkF m 105 #[.val (.int p0), .val (.int p1), .unset, .unset, .unset, .unset, .unset] [(.int (16 : Int32)), (.ref b1), (.ref b1)])) _
    refine XS.sipush X17.here hx rfl (hb hby at_105) ?_
    exact kt
  obtain ⟨cl18, Ar18, q18, S18, N18a, H18, G18⟩ := V17
  have hin18 : ¬ ((16 : Int32) < 0 ∨ cl18.slots.size ≤ ((16 : Int32)).toNatClampNeg) := inb_of S18 ⟨by decide, by decide⟩
  obtain ⟨T18, h18, X18, e18, W18, st18⟩ := stI X17 hx hZ e17 Ar18 (j := (16 : Int32)) hin18 (g := (mkF m 108 #[.val (.int p0), .val (.int p1), .unset, .unset, .unset, .unset, .unset] [(.int (8192 : Int32)), (.int (16 : Int32)), (.ref b1), (.ref b1)])) rfl rfl (hb hby at_108)
  have V18 : Arv Z h18 b1 k1 .int (31 : Int32) [(.int (0 : Int32)), (.int (65 : Int32)), (.int (91 : Int32)), (.int (95 : Int32)), (.int (96 : Int32)), (.int (97 : Int32)), (.int (123 : Int32)), (.int (192 : Int32)), (.int (215 : Int32)), (.int (216 : Int32)), (.int (247 : Int32)), (.int (248 : Int32)), (.int (768 : Int32)), (.int (880 : Int32)), (.int (894 : Int32)), (.int (895 : Int32)), (.int (8192 : Int32)), (.int (0 : Int32)), (.int (0 : Int32)), (.int (0 : Int32)), (.int (0 : Int32)), (.int (0 : Int32)), (.int (0 : Int32)), (.int (0 : Int32)), (.int (0 : Int32)), (.int (0 : Int32)), (.int (0 : Int32)), (.int (0 : Int32)), (.int (0 : Int32)), (.int (0 : Int32)), (.int (0 : Int32))] (.int (0 : Int32)) := Arv.set Ar18 q18 S18 N18a H18 G18 rfl W18 16 rfl (Nat.le_of_ble_eq_true rfl)
  have N18 := Fr.snoc X18 N17 g_b1
  obtain ⟨LL18, X18, N18⟩ := own_fold X18 N18
  have Z18 : n0 ≤ h18.size := Nat.le_trans Z17 (Nat.le_of_eq W18.size.symm)
  refine own_via (A' := T18.setTop (mkF m 109 #[.val (.int p0), .val (.int p1), .unset, .unset, .unset, .unset, .unset] [(.ref b1)])) st18 ?_
  refine own_via (A' := T18.setTop (mkF m 115 #[.val (.int p0), .val (.int p1), .unset, .unset, .unset, .unset, .unset] [(.int (8204 : Int32)), (.int (17 : Int32)), (.ref b1), (.ref b1)])) (fun target kt => ?_) ?_
  · show Steps p.tables e below (T18.setTop (mkF m 109 #[.val (.int p0), .val (.int p1), .unset, .unset, .unset, .unset, .unset] [(.ref b1)])) _
    refine XS.dup X18.here hx rfl (hb hby at_109) rfl rfl ?_
    show Steps p.tables e below (T18.setTop (mkF m 110 #[.val (.int p0), .val (.int p1), .unset, .unset, .unset, .unset, .unset] [(.ref b1), (.ref b1)])) _
    refine XS.bipush X18.here hx rfl (hb hby at_110) ?_
    show Steps p.tables e below (T18.setTop (mkF m 112 #[.val (.int p0), .val (.int p1), .unset, .unset, .unset, .unset, .unset] [(.int (17 : Int32)), (.ref b1), (.ref b1)])) _
    refine XS.sipush X18.here hx rfl (hb hby at_112) ?_
    exact kt
  obtain ⟨cl19, Ar19, q19, S19, N19a, H19, G19⟩ := V18
  have hin19 : ¬ ((17 : Int32) < 0 ∨ cl19.slots.size ≤ ((17 : Int32)).toNatClampNeg) := inb_of S19 ⟨by decide, by decide⟩
  obtain ⟨T19, h19, X19, e19, W19, st19⟩ := stI X18 hx hZ e18 Ar19 (j := (17 : Int32)) hin19 (g := (mkF m 115 #[.val (.int p0), .val (.int p1), .unset, .unset, .unset, .unset, .unset] [(.int (8204 : Int32)), (.int (17 : Int32)), (.ref b1), (.ref b1)])) rfl rfl (hb hby at_115)
  have V19 : Arv Z h19 b1 k1 .int (31 : Int32) [(.int (0 : Int32)), (.int (65 : Int32)), (.int (91 : Int32)), (.int (95 : Int32)), (.int (96 : Int32)), (.int (97 : Int32)), (.int (123 : Int32)), (.int (192 : Int32)), (.int (215 : Int32)), (.int (216 : Int32)), (.int (247 : Int32)), (.int (248 : Int32)), (.int (768 : Int32)), (.int (880 : Int32)), (.int (894 : Int32)), (.int (895 : Int32)), (.int (8192 : Int32)), (.int (8204 : Int32)), (.int (0 : Int32)), (.int (0 : Int32)), (.int (0 : Int32)), (.int (0 : Int32)), (.int (0 : Int32)), (.int (0 : Int32)), (.int (0 : Int32)), (.int (0 : Int32)), (.int (0 : Int32)), (.int (0 : Int32)), (.int (0 : Int32)), (.int (0 : Int32)), (.int (0 : Int32))] (.int (0 : Int32)) := Arv.set Ar19 q19 S19 N19a H19 G19 rfl W19 17 rfl (Nat.le_of_ble_eq_true rfl)
  have N19 := Fr.snoc X19 N18 g_b1
  obtain ⟨LL19, X19, N19⟩ := own_fold X19 N19
  have Z19 : n0 ≤ h19.size := Nat.le_trans Z18 (Nat.le_of_eq W19.size.symm)
  refine own_via (A' := T19.setTop (mkF m 116 #[.val (.int p0), .val (.int p1), .unset, .unset, .unset, .unset, .unset] [(.ref b1)])) st19 ?_
  refine own_via (A' := T19.setTop (mkF m 122 #[.val (.int p0), .val (.int p1), .unset, .unset, .unset, .unset, .unset] [(.int (8206 : Int32)), (.int (18 : Int32)), (.ref b1), (.ref b1)])) (fun target kt => ?_) ?_
  · show Steps p.tables e below (T19.setTop (mkF m 116 #[.val (.int p0), .val (.int p1), .unset, .unset, .unset, .unset, .unset] [(.ref b1)])) _
    refine XS.dup X19.here hx rfl (hb hby at_116) rfl rfl ?_
    show Steps p.tables e below (T19.setTop (mkF m 117 #[.val (.int p0), .val (.int p1), .unset, .unset, .unset, .unset, .unset] [(.ref b1), (.ref b1)])) _
    refine XS.bipush X19.here hx rfl (hb hby at_117) ?_
    show Steps p.tables e below (T19.setTop (mkF m 119 #[.val (.int p0), .val (.int p1), .unset, .unset, .unset, .unset, .unset] [(.int (18 : Int32)), (.ref b1), (.ref b1)])) _
    refine XS.sipush X19.here hx rfl (hb hby at_119) ?_
    exact kt
  obtain ⟨cl20, Ar20, q20, S20, N20a, H20, G20⟩ := V19
  have hin20 : ¬ ((18 : Int32) < 0 ∨ cl20.slots.size ≤ ((18 : Int32)).toNatClampNeg) := inb_of S20 ⟨by decide, by decide⟩
  obtain ⟨T20, h20, X20, e20, W20, st20⟩ := stI X19 hx hZ e19 Ar20 (j := (18 : Int32)) hin20 (g := (mkF m 122 #[.val (.int p0), .val (.int p1), .unset, .unset, .unset, .unset, .unset] [(.int (8206 : Int32)), (.int (18 : Int32)), (.ref b1), (.ref b1)])) rfl rfl (hb hby at_122)
  have V20 : Arv Z h20 b1 k1 .int (31 : Int32) [(.int (0 : Int32)), (.int (65 : Int32)), (.int (91 : Int32)), (.int (95 : Int32)), (.int (96 : Int32)), (.int (97 : Int32)), (.int (123 : Int32)), (.int (192 : Int32)), (.int (215 : Int32)), (.int (216 : Int32)), (.int (247 : Int32)), (.int (248 : Int32)), (.int (768 : Int32)), (.int (880 : Int32)), (.int (894 : Int32)), (.int (895 : Int32)), (.int (8192 : Int32)), (.int (8204 : Int32)), (.int (8206 : Int32)), (.int (0 : Int32)), (.int (0 : Int32)), (.int (0 : Int32)), (.int (0 : Int32)), (.int (0 : Int32)), (.int (0 : Int32)), (.int (0 : Int32)), (.int (0 : Int32)), (.int (0 : Int32)), (.int (0 : Int32)), (.int (0 : Int32)), (.int (0 : Int32))] (.int (0 : Int32)) := Arv.set Ar20 q20 S20 N20a H20 G20 rfl W20 18 rfl (Nat.le_of_ble_eq_true rfl)
  have N20 := Fr.snoc X20 N19 g_b1
  obtain ⟨LL20, X20, N20⟩ := own_fold X20 N20
  have Z20 : n0 ≤ h20.size := Nat.le_trans Z19 (Nat.le_of_eq W20.size.symm)
  refine own_via (A' := T20.setTop (mkF m 123 #[.val (.int p0), .val (.int p1), .unset, .unset, .unset, .unset, .unset] [(.ref b1)])) st20 ?_
  refine own_via (A' := T20.setTop (mkF m 129 #[.val (.int p0), .val (.int p1), .unset, .unset, .unset, .unset, .unset] [(.int (8304 : Int32)), (.int (19 : Int32)), (.ref b1), (.ref b1)])) (fun target kt => ?_) ?_
  · show Steps p.tables e below (T20.setTop (mkF m 123 #[.val (.int p0), .val (.int p1), .unset, .unset, .unset, .unset, .unset] [(.ref b1)])) _
    refine XS.dup X20.here hx rfl (hb hby at_123) rfl rfl ?_
    show Steps p.tables e below (T20.setTop (mkF m 124 #[.val (.int p0), .val (.int p1), .unset, .unset, .unset, .unset, .unset] [(.ref b1), (.ref b1)])) _
    refine XS.bipush X20.here hx rfl (hb hby at_124) ?_
    show Steps p.tables e below (T20.setTop (mkF m 126 #[.val (.int p0), .val (.int p1), .unset, .unset, .unset, .unset, .unset] [(.int (19 : Int32)), (.ref b1), (.ref b1)])) _
    refine XS.sipush X20.here hx rfl (hb hby at_126) ?_
    exact kt
  obtain ⟨cl21, Ar21, q21, S21, N21a, H21, G21⟩ := V20
  have hin21 : ¬ ((19 : Int32) < 0 ∨ cl21.slots.size ≤ ((19 : Int32)).toNatClampNeg) := inb_of S21 ⟨by decide, by decide⟩
  obtain ⟨T21, h21, X21, e21, W21, st21⟩ := stI X20 hx hZ e20 Ar21 (j := (19 : Int32)) hin21 (g := (mkF m 129 #[.val (.int p0), .val (.int p1), .unset, .unset, .unset, .unset, .unset] [(.int (8304 : Int32)), (.int (19 : Int32)), (.ref b1), (.ref b1)])) rfl rfl (hb hby at_129)
  have V21 : Arv Z h21 b1 k1 .int (31 : Int32) [(.int (0 : Int32)), (.int (65 : Int32)), (.int (91 : Int32)), (.int (95 : Int32)), (.int (96 : Int32)), (.int (97 : Int32)), (.int (123 : Int32)), (.int (192 : Int32)), (.int (215 : Int32)), (.int (216 : Int32)), (.int (247 : Int32)), (.int (248 : Int32)), (.int (768 : Int32)), (.int (880 : Int32)), (.int (894 : Int32)), (.int (895 : Int32)), (.int (8192 : Int32)), (.int (8204 : Int32)), (.int (8206 : Int32)), (.int (8304 : Int32)), (.int (0 : Int32)), (.int (0 : Int32)), (.int (0 : Int32)), (.int (0 : Int32)), (.int (0 : Int32)), (.int (0 : Int32)), (.int (0 : Int32)), (.int (0 : Int32)), (.int (0 : Int32)), (.int (0 : Int32)), (.int (0 : Int32))] (.int (0 : Int32)) := Arv.set Ar21 q21 S21 N21a H21 G21 rfl W21 19 rfl (Nat.le_of_ble_eq_true rfl)
  have N21 := Fr.snoc X21 N20 g_b1
  obtain ⟨LL21, X21, N21⟩ := own_fold X21 N21
  have Z21 : n0 ≤ h21.size := Nat.le_trans Z20 (Nat.le_of_eq W21.size.symm)
  refine own_via (A' := T21.setTop (mkF m 130 #[.val (.int p0), .val (.int p1), .unset, .unset, .unset, .unset, .unset] [(.ref b1)])) st21 ?_
  refine own_via (A' := T21.setTop (mkF m 136 #[.val (.int p0), .val (.int p1), .unset, .unset, .unset, .unset, .unset] [(.int (8592 : Int32)), (.int (20 : Int32)), (.ref b1), (.ref b1)])) (fun target kt => ?_) ?_
  · show Steps p.tables e below (T21.setTop (mkF m 130 #[.val (.int p0), .val (.int p1), .unset, .unset, .unset, .unset, .unset] [(.ref b1)])) _
    refine XS.dup X21.here hx rfl (hb hby at_130) rfl rfl ?_
    show Steps p.tables e below (T21.setTop (mkF m 131 #[.val (.int p0), .val (.int p1), .unset, .unset, .unset, .unset, .unset] [(.ref b1), (.ref b1)])) _
    refine XS.bipush X21.here hx rfl (hb hby at_131) ?_
    show Steps p.tables e below (T21.setTop (mkF m 133 #[.val (.int p0), .val (.int p1), .unset, .unset, .unset, .unset, .unset] [(.int (20 : Int32)), (.ref b1), (.ref b1)])) _
    refine XS.sipush X21.here hx rfl (hb hby at_133) ?_
    exact kt
  obtain ⟨cl22, Ar22, q22, S22, N22a, H22, G22⟩ := V21
  have hin22 : ¬ ((20 : Int32) < 0 ∨ cl22.slots.size ≤ ((20 : Int32)).toNatClampNeg) := inb_of S22 ⟨by decide, by decide⟩
  obtain ⟨T22, h22, X22, e22, W22, st22⟩ := stI X21 hx hZ e21 Ar22 (j := (20 : Int32)) hin22 (g := (mkF m 136 #[.val (.int p0), .val (.int p1), .unset, .unset, .unset, .unset, .unset] [(.int (8592 : Int32)), (.int (20 : Int32)), (.ref b1), (.ref b1)])) rfl rfl (hb hby at_136)
  have V22 : Arv Z h22 b1 k1 .int (31 : Int32) [(.int (0 : Int32)), (.int (65 : Int32)), (.int (91 : Int32)), (.int (95 : Int32)), (.int (96 : Int32)), (.int (97 : Int32)), (.int (123 : Int32)), (.int (192 : Int32)), (.int (215 : Int32)), (.int (216 : Int32)), (.int (247 : Int32)), (.int (248 : Int32)), (.int (768 : Int32)), (.int (880 : Int32)), (.int (894 : Int32)), (.int (895 : Int32)), (.int (8192 : Int32)), (.int (8204 : Int32)), (.int (8206 : Int32)), (.int (8304 : Int32)), (.int (8592 : Int32)), (.int (0 : Int32)), (.int (0 : Int32)), (.int (0 : Int32)), (.int (0 : Int32)), (.int (0 : Int32)), (.int (0 : Int32)), (.int (0 : Int32)), (.int (0 : Int32)), (.int (0 : Int32)), (.int (0 : Int32))] (.int (0 : Int32)) := Arv.set Ar22 q22 S22 N22a H22 G22 rfl W22 20 rfl (Nat.le_of_ble_eq_true rfl)
  have N22 := Fr.snoc X22 N21 g_b1
  obtain ⟨LL22, X22, N22⟩ := own_fold X22 N22
  have Z22 : n0 ≤ h22.size := Nat.le_trans Z21 (Nat.le_of_eq W22.size.symm)
  refine own_via (A' := T22.setTop (mkF m 137 #[.val (.int p0), .val (.int p1), .unset, .unset, .unset, .unset, .unset] [(.ref b1)])) st22 ?_
  refine own_via (A' := T22.setTop (mkF m 143 #[.val (.int p0), .val (.int p1), .unset, .unset, .unset, .unset, .unset] [(.int (11264 : Int32)), (.int (21 : Int32)), (.ref b1), (.ref b1)])) (fun target kt => ?_) ?_
  · show Steps p.tables e below (T22.setTop (mkF m 137 #[.val (.int p0), .val (.int p1), .unset, .unset, .unset, .unset, .unset] [(.ref b1)])) _
    refine XS.dup X22.here hx rfl (hb hby at_137) rfl rfl ?_
    show Steps p.tables e below (T22.setTop (mkF m 138 #[.val (.int p0), .val (.int p1), .unset, .unset, .unset, .unset, .unset] [(.ref b1), (.ref b1)])) _
    refine XS.bipush X22.here hx rfl (hb hby at_138) ?_
    show Steps p.tables e below (T22.setTop (mkF m 140 #[.val (.int p0), .val (.int p1), .unset, .unset, .unset, .unset, .unset] [(.int (21 : Int32)), (.ref b1), (.ref b1)])) _
    refine XS.sipush X22.here hx rfl (hb hby at_140) ?_
    exact kt
  obtain ⟨cl23, Ar23, q23, S23, N23a, H23, G23⟩ := V22
  have hin23 : ¬ ((21 : Int32) < 0 ∨ cl23.slots.size ≤ ((21 : Int32)).toNatClampNeg) := inb_of S23 ⟨by decide, by decide⟩
  obtain ⟨T23, h23, X23, e23, W23, st23⟩ := stI X22 hx hZ e22 Ar23 (j := (21 : Int32)) hin23 (g := (mkF m 143 #[.val (.int p0), .val (.int p1), .unset, .unset, .unset, .unset, .unset] [(.int (11264 : Int32)), (.int (21 : Int32)), (.ref b1), (.ref b1)])) rfl rfl (hb hby at_143)
  have V23 : Arv Z h23 b1 k1 .int (31 : Int32) [(.int (0 : Int32)), (.int (65 : Int32)), (.int (91 : Int32)), (.int (95 : Int32)), (.int (96 : Int32)), (.int (97 : Int32)), (.int (123 : Int32)), (.int (192 : Int32)), (.int (215 : Int32)), (.int (216 : Int32)), (.int (247 : Int32)), (.int (248 : Int32)), (.int (768 : Int32)), (.int (880 : Int32)), (.int (894 : Int32)), (.int (895 : Int32)), (.int (8192 : Int32)), (.int (8204 : Int32)), (.int (8206 : Int32)), (.int (8304 : Int32)), (.int (8592 : Int32)), (.int (11264 : Int32)), (.int (0 : Int32)), (.int (0 : Int32)), (.int (0 : Int32)), (.int (0 : Int32)), (.int (0 : Int32)), (.int (0 : Int32)), (.int (0 : Int32)), (.int (0 : Int32)), (.int (0 : Int32))] (.int (0 : Int32)) := Arv.set Ar23 q23 S23 N23a H23 G23 rfl W23 21 rfl (Nat.le_of_ble_eq_true rfl)
  have N23 := Fr.snoc X23 N22 g_b1
  obtain ⟨LL23, X23, N23⟩ := own_fold X23 N23
  have Z23 : n0 ≤ h23.size := Nat.le_trans Z22 (Nat.le_of_eq W23.size.symm)
  refine own_via (A' := T23.setTop (mkF m 144 #[.val (.int p0), .val (.int p1), .unset, .unset, .unset, .unset, .unset] [(.ref b1)])) st23 ?_
  refine own_via (A' := T23.setTop (mkF m 150 #[.val (.int p0), .val (.int p1), .unset, .unset, .unset, .unset, .unset] [(.int (12272 : Int32)), (.int (22 : Int32)), (.ref b1), (.ref b1)])) (fun target kt => ?_) ?_
  · show Steps p.tables e below (T23.setTop (mkF m 144 #[.val (.int p0), .val (.int p1), .unset, .unset, .unset, .unset, .unset] [(.ref b1)])) _
    refine XS.dup X23.here hx rfl (hb hby at_144) rfl rfl ?_
    show Steps p.tables e below (T23.setTop (mkF m 145 #[.val (.int p0), .val (.int p1), .unset, .unset, .unset, .unset, .unset] [(.ref b1), (.ref b1)])) _
    refine XS.bipush X23.here hx rfl (hb hby at_145) ?_
    show Steps p.tables e below (T23.setTop (mkF m 147 #[.val (.int p0), .val (.int p1), .unset, .unset, .unset, .unset, .unset] [(.int (22 : Int32)), (.ref b1), (.ref b1)])) _
    refine XS.sipush X23.here hx rfl (hb hby at_147) ?_
    exact kt
  obtain ⟨cl24, Ar24, q24, S24, N24a, H24, G24⟩ := V23
  have hin24 : ¬ ((22 : Int32) < 0 ∨ cl24.slots.size ≤ ((22 : Int32)).toNatClampNeg) := inb_of S24 ⟨by decide, by decide⟩
  obtain ⟨T24, h24, X24, e24, W24, st24⟩ := stI X23 hx hZ e23 Ar24 (j := (22 : Int32)) hin24 (g := (mkF m 150 #[.val (.int p0), .val (.int p1), .unset, .unset, .unset, .unset, .unset] [(.int (12272 : Int32)), (.int (22 : Int32)), (.ref b1), (.ref b1)])) rfl rfl (hb hby at_150)
  have V24 : Arv Z h24 b1 k1 .int (31 : Int32) [(.int (0 : Int32)), (.int (65 : Int32)), (.int (91 : Int32)), (.int (95 : Int32)), (.int (96 : Int32)), (.int (97 : Int32)), (.int (123 : Int32)), (.int (192 : Int32)), (.int (215 : Int32)), (.int (216 : Int32)), (.int (247 : Int32)), (.int (248 : Int32)), (.int (768 : Int32)), (.int (880 : Int32)), (.int (894 : Int32)), (.int (895 : Int32)), (.int (8192 : Int32)), (.int (8204 : Int32)), (.int (8206 : Int32)), (.int (8304 : Int32)), (.int (8592 : Int32)), (.int (11264 : Int32)), (.int (12272 : Int32)), (.int (0 : Int32)), (.int (0 : Int32)), (.int (0 : Int32)), (.int (0 : Int32)), (.int (0 : Int32)), (.int (0 : Int32)), (.int (0 : Int32)), (.int (0 : Int32))] (.int (0 : Int32)) := Arv.set Ar24 q24 S24 N24a H24 G24 rfl W24 22 rfl (Nat.le_of_ble_eq_true rfl)
  have N24 := Fr.snoc X24 N23 g_b1
  obtain ⟨LL24, X24, N24⟩ := own_fold X24 N24
  have Z24 : n0 ≤ h24.size := Nat.le_trans Z23 (Nat.le_of_eq W24.size.symm)
  refine own_via (A' := T24.setTop (mkF m 151 #[.val (.int p0), .val (.int p1), .unset, .unset, .unset, .unset, .unset] [(.ref b1)])) st24 ?_
  refine own_via (A' := T24.setTop (mkF m 157 #[.val (.int p0), .val (.int p1), .unset, .unset, .unset, .unset, .unset] [(.int (12289 : Int32)), (.int (23 : Int32)), (.ref b1), (.ref b1)])) (fun target kt => ?_) ?_
  · show Steps p.tables e below (T24.setTop (mkF m 151 #[.val (.int p0), .val (.int p1), .unset, .unset, .unset, .unset, .unset] [(.ref b1)])) _
    refine XS.dup X24.here hx rfl (hb hby at_151) rfl rfl ?_
    show Steps p.tables e below (T24.setTop (mkF m 152 #[.val (.int p0), .val (.int p1), .unset, .unset, .unset, .unset, .unset] [(.ref b1), (.ref b1)])) _
    refine XS.bipush X24.here hx rfl (hb hby at_152) ?_
    show Steps p.tables e below (T24.setTop (mkF m 154 #[.val (.int p0), .val (.int p1), .unset, .unset, .unset, .unset, .unset] [(.int (23 : Int32)), (.ref b1), (.ref b1)])) _
    refine XS.sipush X24.here hx rfl (hb hby at_154) ?_
    exact kt
  obtain ⟨cl25, Ar25, q25, S25, N25a, H25, G25⟩ := V24
  have hin25 : ¬ ((23 : Int32) < 0 ∨ cl25.slots.size ≤ ((23 : Int32)).toNatClampNeg) := inb_of S25 ⟨by decide, by decide⟩
  obtain ⟨T25, h25, X25, e25, W25, st25⟩ := stI X24 hx hZ e24 Ar25 (j := (23 : Int32)) hin25 (g := (mkF m 157 #[.val (.int p0), .val (.int p1), .unset, .unset, .unset, .unset, .unset] [(.int (12289 : Int32)), (.int (23 : Int32)), (.ref b1), (.ref b1)])) rfl rfl (hb hby at_157)
  have V25 : Arv Z h25 b1 k1 .int (31 : Int32) [(.int (0 : Int32)), (.int (65 : Int32)), (.int (91 : Int32)), (.int (95 : Int32)), (.int (96 : Int32)), (.int (97 : Int32)), (.int (123 : Int32)), (.int (192 : Int32)), (.int (215 : Int32)), (.int (216 : Int32)), (.int (247 : Int32)), (.int (248 : Int32)), (.int (768 : Int32)), (.int (880 : Int32)), (.int (894 : Int32)), (.int (895 : Int32)), (.int (8192 : Int32)), (.int (8204 : Int32)), (.int (8206 : Int32)), (.int (8304 : Int32)), (.int (8592 : Int32)), (.int (11264 : Int32)), (.int (12272 : Int32)), (.int (12289 : Int32)), (.int (0 : Int32)), (.int (0 : Int32)), (.int (0 : Int32)), (.int (0 : Int32)), (.int (0 : Int32)), (.int (0 : Int32)), (.int (0 : Int32))] (.int (0 : Int32)) := Arv.set Ar25 q25 S25 N25a H25 G25 rfl W25 23 rfl (Nat.le_of_ble_eq_true rfl)
  have N25 := Fr.snoc X25 N24 g_b1
  obtain ⟨LL25, X25, N25⟩ := own_fold X25 N25
  have Z25 : n0 ≤ h25.size := Nat.le_trans Z24 (Nat.le_of_eq W25.size.symm)
  refine own_via (A' := T25.setTop (mkF m 158 #[.val (.int p0), .val (.int p1), .unset, .unset, .unset, .unset, .unset] [(.ref b1)])) st25 ?_
  refine own_via (A' := T25.setTop (mkF m 163 #[.val (.int p0), .val (.int p1), .unset, .unset, .unset, .unset, .unset] [(.int (55296 : Int32)), (.int (24 : Int32)), (.ref b1), (.ref b1)])) (fun target kt => ?_) ?_
  · show Steps p.tables e below (T25.setTop (mkF m 158 #[.val (.int p0), .val (.int p1), .unset, .unset, .unset, .unset, .unset] [(.ref b1)])) _
    refine XS.dup X25.here hx rfl (hb hby at_158) rfl rfl ?_
    show Steps p.tables e below (T25.setTop (mkF m 159 #[.val (.int p0), .val (.int p1), .unset, .unset, .unset, .unset, .unset] [(.ref b1), (.ref b1)])) _
    refine XS.bipush X25.here hx rfl (hb hby at_159) ?_
    show Steps p.tables e below (T25.setTop (mkF m 161 #[.val (.int p0), .val (.int p1), .unset, .unset, .unset, .unset, .unset] [(.int (24 : Int32)), (.ref b1), (.ref b1)])) _
    refine X25.ldcInt hx hown (mvT hZ (hw _ (List.mem_of_getElem? (i := 1) rfl))) (g := (mkF m 161 #[.val (.int p0), .val (.int p1), .unset, .unset, .unset, .unset, .unset] [(.int (24 : Int32)), (.ref b1), (.ref b1)])) rfl (hb hby at_161) _ ?_
    exact kt
  obtain ⟨cl26, Ar26, q26, S26, N26a, H26, G26⟩ := V25
  have hin26 : ¬ ((24 : Int32) < 0 ∨ cl26.slots.size ≤ ((24 : Int32)).toNatClampNeg) := inb_of S26 ⟨by decide, by decide⟩
  obtain ⟨T26, h26, X26, e26, W26, st26⟩ := stI X25 hx hZ e25 Ar26 (j := (24 : Int32)) hin26 (g := (mkF m 163 #[.val (.int p0), .val (.int p1), .unset, .unset, .unset, .unset, .unset] [(.int (55296 : Int32)), (.int (24 : Int32)), (.ref b1), (.ref b1)])) rfl rfl (hb hby at_163)
  have V26 : Arv Z h26 b1 k1 .int (31 : Int32) [(.int (0 : Int32)), (.int (65 : Int32)), (.int (91 : Int32)), (.int (95 : Int32)), (.int (96 : Int32)), (.int (97 : Int32)), (.int (123 : Int32)), (.int (192 : Int32)), (.int (215 : Int32)), (.int (216 : Int32)), (.int (247 : Int32)), (.int (248 : Int32)), (.int (768 : Int32)), (.int (880 : Int32)), (.int (894 : Int32)), (.int (895 : Int32)), (.int (8192 : Int32)), (.int (8204 : Int32)), (.int (8206 : Int32)), (.int (8304 : Int32)), (.int (8592 : Int32)), (.int (11264 : Int32)), (.int (12272 : Int32)), (.int (12289 : Int32)), (.int (55296 : Int32)), (.int (0 : Int32)), (.int (0 : Int32)), (.int (0 : Int32)), (.int (0 : Int32)), (.int (0 : Int32)), (.int (0 : Int32))] (.int (0 : Int32)) := Arv.set Ar26 q26 S26 N26a H26 G26 rfl W26 24 rfl (Nat.le_of_ble_eq_true rfl)
  have N26 := Fr.snoc X26 N25 g_b1
  obtain ⟨LL26, X26, N26⟩ := own_fold X26 N26
  have Z26 : n0 ≤ h26.size := Nat.le_trans Z25 (Nat.le_of_eq W26.size.symm)
  refine own_via (A' := T26.setTop (mkF m 164 #[.val (.int p0), .val (.int p1), .unset, .unset, .unset, .unset, .unset] [(.ref b1)])) st26 ?_
  refine own_via (A' := T26.setTop (mkF m 169 #[.val (.int p0), .val (.int p1), .unset, .unset, .unset, .unset, .unset] [(.int (63744 : Int32)), (.int (25 : Int32)), (.ref b1), (.ref b1)])) (fun target kt => ?_) ?_
  · show Steps p.tables e below (T26.setTop (mkF m 164 #[.val (.int p0), .val (.int p1), .unset, .unset, .unset, .unset, .unset] [(.ref b1)])) _
    refine XS.dup X26.here hx rfl (hb hby at_164) rfl rfl ?_
    show Steps p.tables e below (T26.setTop (mkF m 165 #[.val (.int p0), .val (.int p1), .unset, .unset, .unset, .unset, .unset] [(.ref b1), (.ref b1)])) _
    refine XS.bipush X26.here hx rfl (hb hby at_165) ?_
    show Steps p.tables e below (T26.setTop (mkF m 167 #[.val (.int p0), .val (.int p1), .unset, .unset, .unset, .unset, .unset] [(.int (25 : Int32)), (.ref b1), (.ref b1)])) _
    refine X26.ldcInt hx hown (mvT hZ (hw _ (List.mem_of_getElem? (i := 2) rfl))) (g := (mkF m 167 #[.val (.int p0), .val (.int p1), .unset, .unset, .unset, .unset, .unset] [(.int (25 : Int32)), (.ref b1), (.ref b1)])) rfl (hb hby at_167) _ ?_
    exact kt
  obtain ⟨cl27, Ar27, q27, S27, N27a, H27, G27⟩ := V26
  have hin27 : ¬ ((25 : Int32) < 0 ∨ cl27.slots.size ≤ ((25 : Int32)).toNatClampNeg) := inb_of S27 ⟨by decide, by decide⟩
  obtain ⟨T27, h27, X27, e27, W27, st27⟩ := stI X26 hx hZ e26 Ar27 (j := (25 : Int32)) hin27 (g := (mkF m 169 #[.val (.int p0), .val (.int p1), .unset, .unset, .unset, .unset, .unset] [(.int (63744 : Int32)), (.int (25 : Int32)), (.ref b1), (.ref b1)])) rfl rfl (hb hby at_169)
  have V27 : Arv Z h27 b1 k1 .int (31 : Int32) [(.int (0 : Int32)), (.int (65 : Int32)), (.int (91 : Int32)), (.int (95 : Int32)), (.int (96 : Int32)), (.int (97 : Int32)), (.int (123 : Int32)), (.int (192 : Int32)), (.int (215 : Int32)), (.int (216 : Int32)), (.int (247 : Int32)), (.int (248 : Int32)), (.int (768 : Int32)), (.int (880 : Int32)), (.int (894 : Int32)), (.int (895 : Int32)), (.int (8192 : Int32)), (.int (8204 : Int32)), (.int (8206 : Int32)), (.int (8304 : Int32)), (.int (8592 : Int32)), (.int (11264 : Int32)), (.int (12272 : Int32)), (.int (12289 : Int32)), (.int (55296 : Int32)), (.int (63744 : Int32)), (.int (0 : Int32)), (.int (0 : Int32)), (.int (0 : Int32)), (.int (0 : Int32)), (.int (0 : Int32))] (.int (0 : Int32)) := Arv.set Ar27 q27 S27 N27a H27 G27 rfl W27 25 rfl (Nat.le_of_ble_eq_true rfl)
  have N27 := Fr.snoc X27 N26 g_b1
  obtain ⟨LL27, X27, N27⟩ := own_fold X27 N27
  have Z27 : n0 ≤ h27.size := Nat.le_trans Z26 (Nat.le_of_eq W27.size.symm)
  refine own_via (A' := T27.setTop (mkF m 170 #[.val (.int p0), .val (.int p1), .unset, .unset, .unset, .unset, .unset] [(.ref b1)])) st27 ?_
  refine own_via (A' := T27.setTop (mkF m 175 #[.val (.int p0), .val (.int p1), .unset, .unset, .unset, .unset, .unset] [(.int (64976 : Int32)), (.int (26 : Int32)), (.ref b1), (.ref b1)])) (fun target kt => ?_) ?_
  · show Steps p.tables e below (T27.setTop (mkF m 170 #[.val (.int p0), .val (.int p1), .unset, .unset, .unset, .unset, .unset] [(.ref b1)])) _
    refine XS.dup X27.here hx rfl (hb hby at_170) rfl rfl ?_
    show Steps p.tables e below (T27.setTop (mkF m 171 #[.val (.int p0), .val (.int p1), .unset, .unset, .unset, .unset, .unset] [(.ref b1), (.ref b1)])) _
    refine XS.bipush X27.here hx rfl (hb hby at_171) ?_
    show Steps p.tables e below (T27.setTop (mkF m 173 #[.val (.int p0), .val (.int p1), .unset, .unset, .unset, .unset, .unset] [(.int (26 : Int32)), (.ref b1), (.ref b1)])) _
    refine X27.ldcInt hx hown (mvT hZ (hw _ (List.mem_of_getElem? (i := 3) rfl))) (g := (mkF m 173 #[.val (.int p0), .val (.int p1), .unset, .unset, .unset, .unset, .unset] [(.int (26 : Int32)), (.ref b1), (.ref b1)])) rfl (hb hby at_173) _ ?_
    exact kt
  obtain ⟨cl28, Ar28, q28, S28, N28a, H28, G28⟩ := V27
  have hin28 : ¬ ((26 : Int32) < 0 ∨ cl28.slots.size ≤ ((26 : Int32)).toNatClampNeg) := inb_of S28 ⟨by decide, by decide⟩
  obtain ⟨T28, h28, X28, e28, W28, st28⟩ := stI X27 hx hZ e27 Ar28 (j := (26 : Int32)) hin28 (g := (mkF m 175 #[.val (.int p0), .val (.int p1), .unset, .unset, .unset, .unset, .unset] [(.int (64976 : Int32)), (.int (26 : Int32)), (.ref b1), (.ref b1)])) rfl rfl (hb hby at_175)
  have V28 : Arv Z h28 b1 k1 .int (31 : Int32) [(.int (0 : Int32)), (.int (65 : Int32)), (.int (91 : Int32)), (.int (95 : Int32)), (.int (96 : Int32)), (.int (97 : Int32)), (.int (123 : Int32)), (.int (192 : Int32)), (.int (215 : Int32)), (.int (216 : Int32)), (.int (247 : Int32)), (.int (248 : Int32)), (.int (768 : Int32)), (.int (880 : Int32)), (.int (894 : Int32)), (.int (895 : Int32)), (.int (8192 : Int32)), (.int (8204 : Int32)), (.int (8206 : Int32)), (.int (8304 : Int32)), (.int (8592 : Int32)), (.int (11264 : Int32)), (.int (12272 : Int32)), (.int (12289 : Int32)), (.int (55296 : Int32)), (.int (63744 : Int32)), (.int (64976 : Int32)), (.int (0 : Int32)), (.int (0 : Int32)), (.int (0 : Int32)), (.int (0 : Int32))] (.int (0 : Int32)) := Arv.set Ar28 q28 S28 N28a H28 G28 rfl W28 26 rfl (Nat.le_of_ble_eq_true rfl)
  have N28 := Fr.snoc X28 N27 g_b1
  obtain ⟨LL28, X28, N28⟩ := own_fold X28 N28
  have Z28 : n0 ≤ h28.size := Nat.le_trans Z27 (Nat.le_of_eq W28.size.symm)
  refine own_via (A' := T28.setTop (mkF m 176 #[.val (.int p0), .val (.int p1), .unset, .unset, .unset, .unset, .unset] [(.ref b1)])) st28 ?_
  refine own_via (A' := T28.setTop (mkF m 181 #[.val (.int p0), .val (.int p1), .unset, .unset, .unset, .unset, .unset] [(.int (65008 : Int32)), (.int (27 : Int32)), (.ref b1), (.ref b1)])) (fun target kt => ?_) ?_
  · show Steps p.tables e below (T28.setTop (mkF m 176 #[.val (.int p0), .val (.int p1), .unset, .unset, .unset, .unset, .unset] [(.ref b1)])) _
    refine XS.dup X28.here hx rfl (hb hby at_176) rfl rfl ?_
    show Steps p.tables e below (T28.setTop (mkF m 177 #[.val (.int p0), .val (.int p1), .unset, .unset, .unset, .unset, .unset] [(.ref b1), (.ref b1)])) _
    refine XS.bipush X28.here hx rfl (hb hby at_177) ?_
    show Steps p.tables e below (T28.setTop (mkF m 179 #[.val (.int p0), .val (.int p1), .unset, .unset, .unset, .unset, .unset] [(.int (27 : Int32)), (.ref b1), (.ref b1)])) _
    refine X28.ldcInt hx hown (mvT hZ (hw _ (List.mem_of_getElem? (i := 4) rfl))) (g := (mkF m 179 #[.val (.int p0), .val (.int p1), .unset, .unset, .unset, .unset, .unset] [(.int (27 : Int32)), (.ref b1), (.ref b1)])) rfl (hb hby at_179) _ ?_
    exact kt
  obtain ⟨cl29, Ar29, q29, S29, N29a, H29, G29⟩ := V28
  have hin29 : ¬ ((27 : Int32) < 0 ∨ cl29.slots.size ≤ ((27 : Int32)).toNatClampNeg) := inb_of S29 ⟨by decide, by decide⟩
  obtain ⟨T29, h29, X29, e29, W29, st29⟩ := stI X28 hx hZ e28 Ar29 (j := (27 : Int32)) hin29 (g := (mkF m 181 #[.val (.int p0), .val (.int p1), .unset, .unset, .unset, .unset, .unset] [(.int (65008 : Int32)), (.int (27 : Int32)), (.ref b1), (.ref b1)])) rfl rfl (hb hby at_181)
  have V29 : Arv Z h29 b1 k1 .int (31 : Int32) [(.int (0 : Int32)), (.int (65 : Int32)), (.int (91 : Int32)), (.int (95 : Int32)), (.int (96 : Int32)), (.int (97 : Int32)), (.int (123 : Int32)), (.int (192 : Int32)), (.int (215 : Int32)), (.int (216 : Int32)), (.int (247 : Int32)), (.int (248 : Int32)), (.int (768 : Int32)), (.int (880 : Int32)), (.int (894 : Int32)), (.int (895 : Int32)), (.int (8192 : Int32)), (.int (8204 : Int32)), (.int (8206 : Int32)), (.int (8304 : Int32)), (.int (8592 : Int32)), (.int (11264 : Int32)), (.int (12272 : Int32)), (.int (12289 : Int32)), (.int (55296 : Int32)), (.int (63744 : Int32)), (.int (64976 : Int32)), (.int (65008 : Int32)), (.int (0 : Int32)), (.int (0 : Int32)), (.int (0 : Int32))] (.int (0 : Int32)) := Arv.set Ar29 q29 S29 N29a H29 G29 rfl W29 27 rfl (Nat.le_of_ble_eq_true rfl)
  have N29 := Fr.snoc X29 N28 g_b1
  obtain ⟨LL29, X29, N29⟩ := own_fold X29 N29
  have Z29 : n0 ≤ h29.size := Nat.le_trans Z28 (Nat.le_of_eq W29.size.symm)
  refine own_via (A' := T29.setTop (mkF m 182 #[.val (.int p0), .val (.int p1), .unset, .unset, .unset, .unset, .unset] [(.ref b1)])) st29 ?_
  refine own_via (A' := T29.setTop (mkF m 187 #[.val (.int p0), .val (.int p1), .unset, .unset, .unset, .unset, .unset] [(.int (65534 : Int32)), (.int (28 : Int32)), (.ref b1), (.ref b1)])) (fun target kt => ?_) ?_
  · show Steps p.tables e below (T29.setTop (mkF m 182 #[.val (.int p0), .val (.int p1), .unset, .unset, .unset, .unset, .unset] [(.ref b1)])) _
    refine XS.dup X29.here hx rfl (hb hby at_182) rfl rfl ?_
    show Steps p.tables e below (T29.setTop (mkF m 183 #[.val (.int p0), .val (.int p1), .unset, .unset, .unset, .unset, .unset] [(.ref b1), (.ref b1)])) _
    refine XS.bipush X29.here hx rfl (hb hby at_183) ?_
    show Steps p.tables e below (T29.setTop (mkF m 185 #[.val (.int p0), .val (.int p1), .unset, .unset, .unset, .unset, .unset] [(.int (28 : Int32)), (.ref b1), (.ref b1)])) _
    refine X29.ldcInt hx hown (mvT hZ (hw _ (List.mem_of_getElem? (i := 5) rfl))) (g := (mkF m 185 #[.val (.int p0), .val (.int p1), .unset, .unset, .unset, .unset, .unset] [(.int (28 : Int32)), (.ref b1), (.ref b1)])) rfl (hb hby at_185) _ ?_
    exact kt
  obtain ⟨cl30, Ar30, q30, S30, N30a, H30, G30⟩ := V29
  have hin30 : ¬ ((28 : Int32) < 0 ∨ cl30.slots.size ≤ ((28 : Int32)).toNatClampNeg) := inb_of S30 ⟨by decide, by decide⟩
  obtain ⟨T30, h30, X30, e30, W30, st30⟩ := stI X29 hx hZ e29 Ar30 (j := (28 : Int32)) hin30 (g := (mkF m 187 #[.val (.int p0), .val (.int p1), .unset, .unset, .unset, .unset, .unset] [(.int (65534 : Int32)), (.int (28 : Int32)), (.ref b1), (.ref b1)])) rfl rfl (hb hby at_187)
  have V30 : Arv Z h30 b1 k1 .int (31 : Int32) [(.int (0 : Int32)), (.int (65 : Int32)), (.int (91 : Int32)), (.int (95 : Int32)), (.int (96 : Int32)), (.int (97 : Int32)), (.int (123 : Int32)), (.int (192 : Int32)), (.int (215 : Int32)), (.int (216 : Int32)), (.int (247 : Int32)), (.int (248 : Int32)), (.int (768 : Int32)), (.int (880 : Int32)), (.int (894 : Int32)), (.int (895 : Int32)), (.int (8192 : Int32)), (.int (8204 : Int32)), (.int (8206 : Int32)), (.int (8304 : Int32)), (.int (8592 : Int32)), (.int (11264 : Int32)), (.int (12272 : Int32)), (.int (12289 : Int32)), (.int (55296 : Int32)), (.int (63744 : Int32)), (.int (64976 : Int32)), (.int (65008 : Int32)), (.int (65534 : Int32)), (.int (0 : Int32)), (.int (0 : Int32))] (.int (0 : Int32)) := Arv.set Ar30 q30 S30 N30a H30 G30 rfl W30 28 rfl (Nat.le_of_ble_eq_true rfl)
  have N30 := Fr.snoc X30 N29 g_b1
  obtain ⟨LL30, X30, N30⟩ := own_fold X30 N30
  have Z30 : n0 ≤ h30.size := Nat.le_trans Z29 (Nat.le_of_eq W30.size.symm)
  refine own_via (A' := T30.setTop (mkF m 188 #[.val (.int p0), .val (.int p1), .unset, .unset, .unset, .unset, .unset] [(.ref b1)])) st30 ?_
  refine own_via (A' := T30.setTop (mkF m 193 #[.val (.int p0), .val (.int p1), .unset, .unset, .unset, .unset, .unset] [(.int (65536 : Int32)), (.int (29 : Int32)), (.ref b1), (.ref b1)])) (fun target kt => ?_) ?_
  · show Steps p.tables e below (T30.setTop (mkF m 188 #[.val (.int p0), .val (.int p1), .unset, .unset, .unset, .unset, .unset] [(.ref b1)])) _
    refine XS.dup X30.here hx rfl (hb hby at_188) rfl rfl ?_
    show Steps p.tables e below (T30.setTop (mkF m 189 #[.val (.int p0), .val (.int p1), .unset, .unset, .unset, .unset, .unset] [(.ref b1), (.ref b1)])) _
    refine XS.bipush X30.here hx rfl (hb hby at_189) ?_
    show Steps p.tables e below (T30.setTop (mkF m 191 #[.val (.int p0), .val (.int p1), .unset, .unset, .unset, .unset, .unset] [(.int (29 : Int32)), (.ref b1), (.ref b1)])) _
    refine X30.ldcInt hx hown (mvT hZ (hw _ (List.mem_of_getElem? (i := 6) rfl))) (g := (mkF m 191 #[.val (.int p0), .val (.int p1), .unset, .unset, .unset, .unset, .unset] [(.int (29 : Int32)), (.ref b1), (.ref b1)])) rfl (hb hby at_191) _ ?_
    exact kt
  obtain ⟨cl31, Ar31, q31, S31, N31a, H31, G31⟩ := V30
  have hin31 : ¬ ((29 : Int32) < 0 ∨ cl31.slots.size ≤ ((29 : Int32)).toNatClampNeg) := inb_of S31 ⟨by decide, by decide⟩
  obtain ⟨T31, h31, X31, e31, W31, st31⟩ := stI X30 hx hZ e30 Ar31 (j := (29 : Int32)) hin31 (g := (mkF m 193 #[.val (.int p0), .val (.int p1), .unset, .unset, .unset, .unset, .unset] [(.int (65536 : Int32)), (.int (29 : Int32)), (.ref b1), (.ref b1)])) rfl rfl (hb hby at_193)
  have V31 : Arv Z h31 b1 k1 .int (31 : Int32) [(.int (0 : Int32)), (.int (65 : Int32)), (.int (91 : Int32)), (.int (95 : Int32)), (.int (96 : Int32)), (.int (97 : Int32)), (.int (123 : Int32)), (.int (192 : Int32)), (.int (215 : Int32)), (.int (216 : Int32)), (.int (247 : Int32)), (.int (248 : Int32)), (.int (768 : Int32)), (.int (880 : Int32)), (.int (894 : Int32)), (.int (895 : Int32)), (.int (8192 : Int32)), (.int (8204 : Int32)), (.int (8206 : Int32)), (.int (8304 : Int32)), (.int (8592 : Int32)), (.int (11264 : Int32)), (.int (12272 : Int32)), (.int (12289 : Int32)), (.int (55296 : Int32)), (.int (63744 : Int32)), (.int (64976 : Int32)), (.int (65008 : Int32)), (.int (65534 : Int32)), (.int (65536 : Int32)), (.int (0 : Int32))] (.int (0 : Int32)) := Arv.set Ar31 q31 S31 N31a H31 G31 rfl W31 29 rfl (Nat.le_of_ble_eq_true rfl)
  have N31 := Fr.snoc X31 N30 g_b1
  obtain ⟨LL31, X31, N31⟩ := own_fold X31 N31
  have Z31 : n0 ≤ h31.size := Nat.le_trans Z30 (Nat.le_of_eq W31.size.symm)
  refine own_via (A' := T31.setTop (mkF m 194 #[.val (.int p0), .val (.int p1), .unset, .unset, .unset, .unset, .unset] [(.ref b1)])) st31 ?_
  refine own_via (A' := T31.setTop (mkF m 199 #[.val (.int p0), .val (.int p1), .unset, .unset, .unset, .unset, .unset] [(.int (983040 : Int32)), (.int (30 : Int32)), (.ref b1), (.ref b1)])) (fun target kt => ?_) ?_
  · show Steps p.tables e below (T31.setTop (mkF m 194 #[.val (.int p0), .val (.int p1), .unset, .unset, .unset, .unset, .unset] [(.ref b1)])) _
    refine XS.dup X31.here hx rfl (hb hby at_194) rfl rfl ?_
    show Steps p.tables e below (T31.setTop (mkF m 195 #[.val (.int p0), .val (.int p1), .unset, .unset, .unset, .unset, .unset] [(.ref b1), (.ref b1)])) _
    refine XS.bipush X31.here hx rfl (hb hby at_195) ?_
    show Steps p.tables e below (T31.setTop (mkF m 197 #[.val (.int p0), .val (.int p1), .unset, .unset, .unset, .unset, .unset] [(.int (30 : Int32)), (.ref b1), (.ref b1)])) _
    refine X31.ldcInt hx hown (mvT hZ (hw _ (List.mem_of_getElem? (i := 7) rfl))) (g := (mkF m 197 #[.val (.int p0), .val (.int p1), .unset, .unset, .unset, .unset, .unset] [(.int (30 : Int32)), (.ref b1), (.ref b1)])) rfl (hb hby at_197) _ ?_
    exact kt
  obtain ⟨cl32, Ar32, q32, S32, N32a, H32, G32⟩ := V31
  have hin32 : ¬ ((30 : Int32) < 0 ∨ cl32.slots.size ≤ ((30 : Int32)).toNatClampNeg) := inb_of S32 ⟨by decide, by decide⟩
  obtain ⟨T32, h32, X32, e32, W32, st32⟩ := stI X31 hx hZ e31 Ar32 (j := (30 : Int32)) hin32 (g := (mkF m 199 #[.val (.int p0), .val (.int p1), .unset, .unset, .unset, .unset, .unset] [(.int (983040 : Int32)), (.int (30 : Int32)), (.ref b1), (.ref b1)])) rfl rfl (hb hby at_199)
  have V32 : Arv Z h32 b1 k1 .int (31 : Int32) [(.int (0 : Int32)), (.int (65 : Int32)), (.int (91 : Int32)), (.int (95 : Int32)), (.int (96 : Int32)), (.int (97 : Int32)), (.int (123 : Int32)), (.int (192 : Int32)), (.int (215 : Int32)), (.int (216 : Int32)), (.int (247 : Int32)), (.int (248 : Int32)), (.int (768 : Int32)), (.int (880 : Int32)), (.int (894 : Int32)), (.int (895 : Int32)), (.int (8192 : Int32)), (.int (8204 : Int32)), (.int (8206 : Int32)), (.int (8304 : Int32)), (.int (8592 : Int32)), (.int (11264 : Int32)), (.int (12272 : Int32)), (.int (12289 : Int32)), (.int (55296 : Int32)), (.int (63744 : Int32)), (.int (64976 : Int32)), (.int (65008 : Int32)), (.int (65534 : Int32)), (.int (65536 : Int32)), (.int (983040 : Int32))] (.int (0 : Int32)) := Arv.set Ar32 q32 S32 N32a H32 G32 rfl W32 30 rfl (Nat.le_of_ble_eq_true rfl)
  have N32 := Fr.snoc X32 N31 g_b1
  obtain ⟨LL32, X32, N32⟩ := own_fold X32 N32
  have Z32 : n0 ≤ h32.size := Nat.le_trans Z31 (Nat.le_of_eq W32.size.symm)
  refine own_via (A' := T32.setTop (mkF m 200 #[.val (.int p0), .val (.int p1), .unset, .unset, .unset, .unset, .unset] [(.ref b1)])) st32 ?_
  refine own_via (A' := T32.setTop (mkF m 201 #[.val (.int p0), .val (.int p1), .val (.ref b1), .unset, .unset, .unset, .unset] [])) (fun target kt => ?_) ?_
  · show Steps p.tables e below (T32.setTop (mkF m 200 #[.val (.int p0), .val (.int p1), .unset, .unset, .unset, .unset, .unset] [(.ref b1)])) _
    refine XS.astoreN X32.here hx rfl (hb hby at_200) rfl rfl (l' := #[.val (.int p0), .val (.int p1), .val (.ref b1), .unset, .unset, .unset, .unset]) rfl ?_
    exact kt
  have VW : Arv Z h32 b1 k1 .int (31 : Int32) (own_ws.map Value.int) (.int (0 : Int32)) := V32
  refine own_via (A' := T32.setTop (mkF m 206 #[.val (.int p0), .val (.int p1), .val (.ref b1), .val (.int (p0 &&& (31 : Int32))), .unset, .unset, .unset] [])) (fun target kt => ?_) ?_
  · show Steps p.tables e below (T32.setTop (mkF m 201 #[.val (.int p0), .val (.int p1), .val (.ref b1), .unset, .unset, .unset, .unset] [])) _
    refine XS.iloadN X32.here hx rfl (hb hby at_201) rfl ?_
    show Steps p.tables e below (T32.setTop (mkF m 202 #[.val (.int p0), .val (.int p1), .val (.ref b1), .unset, .unset, .unset, .unset] [(.int p0)])) _
    refine XS.bipush X32.here hx rfl (hb hby at_202) ?_
    show Steps p.tables e below (T32.setTop (mkF m 204 #[.val (.int p0), .val (.int p1), .val (.ref b1), .unset, .unset, .unset, .unset] [(.int (31 : Int32)), (.int p0)])) _
    refine XS.iand X32.here hx rfl (hb hby at_204) rfl ?_
    show Steps p.tables e below (T32.setTop (mkF m 205 #[.val (.int p0), .val (.int p1), .val (.ref b1), .unset, .unset, .unset, .unset] [(.int (p0 &&& (31 : Int32)))])) _
    refine XS.istoreN X32.here hx rfl (hb hby at_205) rfl (l' := #[.val (.int p0), .val (.int p1), .val (.ref b1), .val (.int (p0 &&& (31 : Int32))), .unset, .unset, .unset]) rfl ?_
    exact kt
  have hsx := own_idx p0
  generalize (p0 &&& (31 : Int32)) = sx at hsx ⊢
  refine own_via (A' := T32.setTop (mkF m 209 #[.val (.int p0), .val (.int p1), .val (.ref b1), .val (.int sx), .unset, .unset, .unset] [(.int (31 : Int32)), (.int sx)])) (fun target kt => ?_) ?_
  · show Steps p.tables e below (T32.setTop (mkF m 206 #[.val (.int p0), .val (.int p1), .val (.ref b1), .val (.int sx), .unset, .unset, .unset] [])) _
    refine XS.iloadN X32.here hx rfl (hb hby at_206) rfl ?_
    show Steps p.tables e below (T32.setTop (mkF m 207 #[.val (.int p0), .val (.int p1), .val (.ref b1), .val (.int sx), .unset, .unset, .unset] [(.int sx)])) _
    refine XS.bipush X32.here hx rfl (hb hby at_207) ?_
    exact kt
  by_cases hc209 : sx = (31 : Int32)
  · refine own_via (A' := T32.setTop (mkF m 212 #[.val (.int p0), .val (.int p1), .val (.ref b1), .val (.int sx), .unset, .unset, .unset] [])) (fun target kt => XS.icmpNo X32.here hx rfl (hb hby at_209) rfl (teq hc209).2 kt) ?_
    refine own_via (A' := T32.setTop (mkF m 292 #[.val (.int p0), .val (.int p1), .val (.ref b1), .val (.int sx), .val (.int (p1 ||| (-2147483648 : Int32))), .val (.int (0 : Int32)), .unset] [(.int (p1 ||| (-2147483648 : Int32)))])) (fun target kt => ?_) ?_
    · show Steps p.tables e below (T32.setTop (mkF m 212 #[.val (.int p0), .val (.int p1), .val (.ref b1), .val (.int sx), .unset, .unset, .unset] [])) _
      refine XS.iloadN X32.here hx rfl (hb hby at_212) rfl ?_
      show Steps p.tables e below (T32.setTop (mkF m 213 #[.val (.int p0), .val (.int p1), .val (.ref b1), .val (.int sx), .unset, .unset, .unset] [(.int p1)])) _
      refine X32.ldcInt hx hown (mvT hZ (hw _ (List.mem_of_getElem? (i := 17) rfl))) (g := (mkF m 213 #[.val (.int p0), .val (.int p1), .val (.ref b1), .val (.int sx), .unset, .unset, .unset] [(.int p1)])) rfl (hb hby at_213) _ ?_
      show Steps p.tables e below (T32.setTop (mkF m 215 #[.val (.int p0), .val (.int p1), .val (.ref b1), .val (.int sx), .unset, .unset, .unset] [(.int (-2147483648 : Int32)), (.int p1)])) _
      refine XS.ior X32.here hx rfl (hb hby at_215) rfl ?_
      show Steps p.tables e below (T32.setTop (mkF m 216 #[.val (.int p0), .val (.int p1), .val (.ref b1), .val (.int sx), .unset, .unset, .unset] [(.int (p1 ||| (-2147483648 : Int32)))])) _
      refine XS.istore X32.here hx rfl (hb hby at_216) rfl (l' := #[.val (.int p0), .val (.int p1), .val (.ref b1), .val (.int sx), .val (.int (p1 ||| (-2147483648 : Int32))), .unset, .unset]) rfl ?_
      show Steps p.tables e below (T32.setTop (mkF m 218 #[.val (.int p0), .val (.int p1), .val (.ref b1), .val (.int sx), .val (.int (p1 ||| (-2147483648 : Int32))), .unset, .unset] [])) _
      refine XS.iconst X32.here hx rfl (hb hby at_218) ?_
      show Steps p.tables e below (T32.setTop (mkF m 219 #[.val (.int p0), .val (.int p1), .val (.ref b1), .val (.int sx), .val (.int (p1 ||| (-2147483648 : Int32))), .unset, .unset] [(.int (0 : Int32))])) _
      refine XS.istore X32.here hx rfl (hb hby at_219) rfl (l' := #[.val (.int p0), .val (.int p1), .val (.ref b1), .val (.int sx), .val (.int (p1 ||| (-2147483648 : Int32))), .val (.int (0 : Int32)), .unset]) rfl ?_
      show Steps p.tables e below (T32.setTop (mkF m 221 #[.val (.int p0), .val (.int p1), .val (.ref b1), .val (.int sx), .val (.int (p1 ||| (-2147483648 : Int32))), .val (.int (0 : Int32)), .unset] [])) _
      refine XS.goto X32.here hx rfl (pc0 := 221) (pc' := 290) rfl (hb hby at_221) (by decide) (by decide) ?_
      show Steps p.tables e below (T32.setTop (mkF m 290 #[.val (.int p0), .val (.int p1), .val (.ref b1), .val (.int sx), .val (.int (p1 ||| (-2147483648 : Int32))), .val (.int (0 : Int32)), .unset] [])) _
      refine XS.iload X32.here hx rfl (hb hby at_290) rfl ?_
      exact kt
    obtain ⟨_, _, ⟨T33, L33, k33, n33⟩, -, X33, ⟨Lc33, hQ33, l33, y33, z33⟩, st33⟩ := Jvm.LawKit.callS X32 hx (y := (⟨"com/example/resultree/resultree/xdm/NodeName", "isNameStartChar", "(I)Z"⟩ : MethodName)) hown (mvT hZ (hw _ (List.mem_of_getElem? (i := 9) rfl))) (mvT hZ (hw _ (List.mem_of_getElem? (i := 10) rfl))) (mvT hZ (hw _ (List.mem_of_getElem? (i := 11) rfl))) (mvT hZ (hw _ (List.mem_of_getElem? (i := 12) rfl))) (by decide) (backOf (W := 0) (rm1 l Z a0 hw [] (p1 ||| (-2147483648 : Int32))  h32 n0 Z32 ) hZ (hw _ (List.mem_of_getElem? (i := 12) rfl)) (hw _ (List.mem_of_getElem? (i := 11) rfl)) (by decide) (by decide)) (g := (mkF m 292 #[.val (.int p0), .val (.int p1), .val (.ref b1), .val (.int sx), .val (.int (p1 ||| (-2147483648 : Int32))), .val (.int (0 : Int32)), .unset] [(.int (p1 ||| (-2147483648 : Int32)))])) rfl (by rw [hml]; rfl) (argsL := [(.int (p1 ||| (-2147483648 : Int32)))]) (rest := []) (lenOf pd_0_0 rfl) rfl (by show 2 * 0 + _ ≤ _; exact Nat.le_of_eq rfl) (hb hby at_292) (fun _ _ => ⟨rfl, e32, (by decide : 1 + 0 ≤ _), (by decide : 31 + 0 ≤ _)⟩)
    dsimp only [Pt.U, Pt.locs, Pt.cells, Pt.slots] at X33 l33 y33 z33 st33 hQ33
    subst l33 y33 z33
    obtain ⟨rfl, N33q, e33⟩ := hQ33
    have N33 := Fr.app N32 N33q
    refine own_via (A' := T33.setTop (mkF m 295 #[.val (.int p0), .val (.int p1), .val (.ref b1), .val (.int sx), .val (.int (p1 ||| (-2147483648 : Int32))), .val (.int (0 : Int32)), .unset] [(.int (own_in own_R1 (p1 ||| (-2147483648 : Int32))))])) st33 ?_
    refine own_via (A' := T33.setTop (mkF m 297 #[.val (.int p0), .val (.int p1), .val (.ref b1), .val (.int sx), .val (.int (p1 ||| (-2147483648 : Int32))), .val (.int (0 : Int32)), .unset] [(.int (0 : Int32)), (.int (own_in own_R1 (p1 ||| (-2147483648 : Int32))))])) (fun target kt => ?_) ?_
    · show Steps p.tables e below (T33.setTop (mkF m 295 #[.val (.int p0), .val (.int p1), .val (.ref b1), .val (.int sx), .val (.int (p1 ||| (-2147483648 : Int32))), .val (.int (0 : Int32)), .unset] [(.int (own_in own_R1 (p1 ||| (-2147483648 : Int32))))])) _
      refine XS.iload X33.here hx rfl (hb hby at_295) rfl ?_
      exact kt
    refine own_via (A' := T33.setTop (mkF m 300 #[.val (.int p0), .val (.int p1), .val (.ref b1), .val (.int sx), .val (.int (p1 ||| (-2147483648 : Int32))), .val (.int (0 : Int32)), .unset] [])) (fun target kt => XS.icmpNo X33.here hx rfl (hb hby at_297) rfl (teq (own_neg p1 : (own_in own_R1 (p1 ||| (-2147483648 : Int32))) = (0 : Int32))).2 kt) ?_
    refine own_via (A' := T33.setTop (mkF m 305 #[.val (.int p0), .val (.int p1), .val (.ref b1), .val (.int sx), .val (.int (p1 ||| (-2147483648 : Int32))), .val (.int (0 : Int32)), .unset] [(.int (1 : Int32))])) (fun target kt => ?_) ?_
    · show Steps p.tables e below (T33.setTop (mkF m 300 #[.val (.int p0), .val (.int p1), .val (.ref b1), .val (.int sx), .val (.int (p1 ||| (-2147483648 : Int32))), .val (.int (0 : Int32)), .unset] [])) _
      refine XS.iconst X33.here hx rfl (hb hby at_300) ?_
      show Steps p.tables e below (T33.setTop (mkF m 301 #[.val (.int p0), .val (.int p1), .val (.ref b1), .val (.int sx), .val (.int (p1 ||| (-2147483648 : Int32))), .val (.int (0 : Int32)), .unset] [(.int (1 : Int32))])) _
      refine XS.goto X33.here hx rfl (pc0 := 301) (pc' := 305) rfl (hb hby at_301) (by decide) (by decide) ?_
      exact kt
    exact own_retN X33 Bd.notSynchronized hx (t := .boolean) Bd.returns (by simp) (hb hby at_305) (show Q0 Z p0 p1 h0 n0 _ _ _ from ⟨rfl, N33⟩) (by decide) (by decide)
  · refine own_via (A' := T32.setTop (mkF m 224 #[.val (.int p0), .val (.int p1), .val (.ref b1), .val (.int sx), .unset, .unset, .unset] [])) (fun target kt => XS.icmpYes X32.here hx rfl (pc0 := 209) (pc' := 224) rfl (hb hby at_209) rfl (feq hc209).2 (by decide) (by decide) kt) ?_
    refine own_via (A' := T32.setTop (mkF m 227 #[.val (.int p0), .val (.int p1), .val (.ref b1), .val (.int sx), .unset, .unset, .unset] [(.int (30 : Int32)), (.int sx)])) (fun target kt => ?_) ?_
    · show Steps p.tables e below (T32.setTop (mkF m 224 #[.val (.int p0), .val (.int p1), .val (.ref b1), .val (.int sx), .unset, .unset, .unset] [])) _
      refine XS.iloadN X32.here hx rfl (hb hby at_224) rfl ?_
      show Steps p.tables e below (T32.setTop (mkF m 225 #[.val (.int p0), .val (.int p1), .val (.ref b1), .val (.int sx), .unset, .unset, .unset] [(.int sx)])) _
      refine XS.bipush X32.here hx rfl (hb hby at_225) ?_
      exact kt
    by_cases hc227 : sx = (30 : Int32)
    · refine own_via (A' := T32.setTop (mkF m 230 #[.val (.int p0), .val (.int p1), .val (.ref b1), .val (.int sx), .unset, .unset, .unset] [])) (fun target kt => XS.icmpNo X32.here hx rfl (hb hby at_227) rfl (teq hc227).2 kt) ?_
      refine own_via (A' := T32.setTop (mkF m 292 #[.val (.int p0), .val (.int p1), .val (.ref b1), .val (.int sx), .val (.int ((983040 : Int32) + ((p1 &&& (2147483647 : Int32)) % (2146500608 : Int32)))), .val (.int (0 : Int32)), .val (.int (2146500608 : Int32))] [(.int ((983040 : Int32) + ((p1 &&& (2147483647 : Int32)) % (2146500608 : Int32))))])) (fun target kt => ?_) ?_
      · show Steps p.tables e below (T32.setTop (mkF m 230 #[.val (.int p0), .val (.int p1), .val (.ref b1), .val (.int sx), .unset, .unset, .unset] [])) _
        refine X32.ldcInt hx hown (mvT hZ (hw _ (List.mem_of_getElem? (i := 18) rfl))) (g := (mkF m 230 #[.val (.int p0), .val (.int p1), .val (.ref b1), .val (.int sx), .unset, .unset, .unset] [])) rfl (hb hby at_230) _ ?_
        show Steps p.tables e below (T32.setTop (mkF m 232 #[.val (.int p0), .val (.int p1), .val (.ref b1), .val (.int sx), .unset, .unset, .unset] [(.int (2146500608 : Int32))])) _
        refine XS.istore X32.here hx rfl (hb hby at_232) rfl (l' := #[.val (.int p0), .val (.int p1), .val (.ref b1), .val (.int sx), .unset, .unset, .val (.int (2146500608 : Int32))]) rfl ?_
        show Steps p.tables e below (T32.setTop (mkF m 234 #[.val (.int p0), .val (.int p1), .val (.ref b1), .val (.int sx), .unset, .unset, .val (.int (2146500608 : Int32))] [])) _
        refine X32.ldcInt hx hown (mvT hZ (hw _ (List.mem_of_getElem? (i := 7) rfl))) (g := (mkF m 234 #[.val (.int p0), .val (.int p1), .val (.ref b1), .val (.int sx), .unset, .unset, .val (.int (2146500608 : Int32))] [])) rfl (hb hby at_234) _ ?_
        show Steps p.tables e below (T32.setTop (mkF m 236 #[.val (.int p0), .val (.int p1), .val (.ref b1), .val (.int sx), .unset, .unset, .val (.int (2146500608 : Int32))] [(.int (983040 : Int32))])) _
        refine XS.iloadN X32.here hx rfl (hb hby at_236) rfl ?_
        show Steps p.tables e below (T32.setTop (mkF m 237 #[.val (.int p0), .val (.int p1), .val (.ref b1), .val (.int sx), .unset, .unset, .val (.int (2146500608 : Int32))] [(.int p1), (.int (983040 : Int32))])) _
        refine X32.ldcInt hx hown (mvT hZ (hw _ (List.mem_of_getElem? (i := 8) rfl))) (g := (mkF m 237 #[.val (.int p0), .val (.int p1), .val (.ref b1), .val (.int sx), .unset, .unset, .val (.int (2146500608 : Int32))] [(.int p1), (.int (983040 : Int32))])) rfl (hb hby at_237) _ ?_
        show Steps p.tables e below (T32.setTop (mkF m 239 #[.val (.int p0), .val (.int p1), .val (.ref b1), .val (.int sx), .unset, .unset, .val (.int (2146500608 : Int32))] [(.int (2147483647 : Int32)), (.int p1), (.int (983040 : Int32))])) _
        refine XS.iand X32.here hx rfl (hb hby at_239) rfl ?_
        show Steps p.tables e below (T32.setTop (mkF m 240 #[.val (.int p0), .val (.int p1), .val (.ref b1), .val (.int sx), .unset, .unset, .val (.int (2146500608 : Int32))] [(.int (p1 &&& (2147483647 : Int32))), (.int (983040 : Int32))])) _
        refine XS.iload X32.here hx rfl (hb hby at_240) rfl ?_
        show Steps p.tables e below (T32.setTop (mkF m 242 #[.val (.int p0), .val (.int p1), .val (.ref b1), .val (.int sx), .unset, .unset, .val (.int (2146500608 : Int32))] [(.int (2146500608 : Int32)), (.int (p1 &&& (2147483647 : Int32))), (.int (983040 : Int32))])) _
        refine iremM X32 hx rfl (hb hby at_242) rfl (by decide) ?_
        show Steps p.tables e below (T32.setTop (mkF m 243 #[.val (.int p0), .val (.int p1), .val (.ref b1), .val (.int sx), .unset, .unset, .val (.int (2146500608 : Int32))] [(.int ((p1 &&& (2147483647 : Int32)) % (2146500608 : Int32))), (.int (983040 : Int32))])) _
        refine XS.iadd X32.here hx rfl (hb hby at_243) rfl ?_
        show Steps p.tables e below (T32.setTop (mkF m 244 #[.val (.int p0), .val (.int p1), .val (.ref b1), .val (.int sx), .unset, .unset, .val (.int (2146500608 : Int32))] [(.int ((983040 : Int32) + ((p1 &&& (2147483647 : Int32)) % (2146500608 : Int32))))])) _
        refine XS.istore X32.here hx rfl (hb hby at_244) rfl (l' := #[.val (.int p0), .val (.int p1), .val (.ref b1), .val (.int sx), .val (.int ((983040 : Int32) + ((p1 &&& (2147483647 : Int32)) % (2146500608 : Int32)))), .unset, .val (.int (2146500608 : Int32))]) rfl ?_
        show Steps p.tables e below (T32.setTop (mkF m 246 #[.val (.int p0), .val (.int p1), .val (.ref b1), .val (.int sx), .val (.int ((983040 : Int32) + ((p1 &&& (2147483647 : Int32)) % (2146500608 : Int32)))), .unset, .val (.int (2146500608 : Int32))] [])) _
        refine XS.iconst X32.here hx rfl (hb hby at_246) ?_
        show Steps p.tables e below (T32.setTop (mkF m 247 #[.val (.int p0), .val (.int p1), .val (.ref b1), .val (.int sx), .val (.int ((983040 : Int32) + ((p1 &&& (2147483647 : Int32)) % (2146500608 : Int32)))), .unset, .val (.int (2146500608 : Int32))] [(.int (0 : Int32))])) _
        refine XS.istore X32.here hx rfl (hb hby at_247) rfl (l' := #[.val (.int p0), .val (.int p1), .val (.ref b1), .val (.int sx), .val (.int ((983040 : Int32) + ((p1 &&& (2147483647 : Int32)) % (2146500608 : Int32)))), .val (.int (0 : Int32)), .val (.int (2146500608 : Int32))]) rfl ?_
        show Steps p.tables e below (T32.setTop (mkF m 249 #[.val (.int p0), .val (.int p1), .val (.ref b1), .val (.int sx), .val (.int ((983040 : Int32) + ((p1 &&& (2147483647 : Int32)) % (2146500608 : Int32)))), .val (.int (0 : Int32)), .val (.int (2146500608 : Int32))] [])) _
        refine XS.goto X32.here hx rfl (pc0 := 249) (pc' := 290) rfl (hb hby at_249) (by decide) (by decide) ?_
        show Steps p.tables e below (T32.setTop (mkF m 290 #[.val (.int p0), .val (.int p1), .val (.ref b1), .val (.int sx), .val (.int ((983040 : Int32) + ((p1 &&& (2147483647 : Int32)) % (2146500608 : Int32)))), .val (.int (0 : Int32)), .val (.int (2146500608 : Int32))] [])) _
        refine XS.iload X32.here hx rfl (hb hby at_290) rfl ?_
        exact kt
      obtain ⟨_, _, ⟨T34, L34, k34, n34⟩, -, X34, ⟨Lc34, hQ34, l34, y34, z34⟩, st34⟩ := Jvm.LawKit.callS X32 hx (y := (⟨"com/example/resultree/resultree/xdm/NodeName", "isNameStartChar", "(I)Z"⟩ : MethodName)) hown (mvT hZ (hw _ (List.mem_of_getElem? (i := 9) rfl))) (mvT hZ (hw _ (List.mem_of_getElem? (i := 10) rfl))) (mvT hZ (hw _ (List.mem_of_getElem? (i := 11) rfl))) (mvT hZ (hw _ (List.mem_of_getElem? (i := 12) rfl))) (by decide) (backOf (W := 0) (rm1 l Z a0 hw [] ((983040 : Int32) + ((p1 &&& (2147483647 : Int32)) % (2146500608 : Int32)))  h32 n0 Z32 ) hZ (hw _ (List.mem_of_getElem? (i := 12) rfl)) (hw _ (List.mem_of_getElem? (i := 11) rfl)) (by decide) (by decide)) (g := (mkF m 292 #[.val (.int p0), .val (.int p1), .val (.ref b1), .val (.int sx), .val (.int ((983040 : Int32) + ((p1 &&& (2147483647 : Int32)) % (2146500608 : Int32)))), .val (.int (0 : Int32)), .val (.int (2146500608 : Int32))] [(.int ((983040 : Int32) + ((p1 &&& (2147483647 : Int32)) % (2146500608 : Int32))))])) rfl (by rw [hml]; rfl) (argsL := [(.int ((983040 : Int32) + ((p1 &&& (2147483647 : Int32)) % (2146500608 : Int32))))]) (rest := []) (lenOf pd_0_0 rfl) rfl (by show 2 * 0 + _ ≤ _; exact Nat.le_of_eq rfl) (hb hby at_292) (fun _ _ => ⟨rfl, e32, (by decide : 1 + 0 ≤ _), (by decide : 31 + 0 ≤ _)⟩)
      dsimp only [Pt.U, Pt.locs, Pt.cells, Pt.slots] at X34 l34 y34 z34 st34 hQ34
      subst l34 y34 z34
      obtain ⟨rfl, N34q, e34⟩ := hQ34
      have N34 := Fr.app N32 N34q
      refine own_via (A' := T34.setTop (mkF m 295 #[.val (.int p0), .val (.int p1), .val (.ref b1), .val (.int sx), .val (.int ((983040 : Int32) + ((p1 &&& (2147483647 : Int32)) % (2146500608 : Int32)))), .val (.int (0 : Int32)), .val (.int (2146500608 : Int32))] [(.int (own_in own_R1 ((983040 : Int32) + ((p1 &&& (2147483647 : Int32)) % (2146500608 : Int32)))))])) st34 ?_
      refine own_via (A' := T34.setTop (mkF m 297 #[.val (.int p0), .val (.int p1), .val (.ref b1), .val (.int sx), .val (.int ((983040 : Int32) + ((p1 &&& (2147483647 : Int32)) % (2146500608 : Int32)))), .val (.int (0 : Int32)), .val (.int (2146500608 : Int32))] [(.int (0 : Int32)), (.int (own_in own_R1 ((983040 : Int32) + ((p1 &&& (2147483647 : Int32)) % (2146500608 : Int32)))))])) (fun target kt => ?_) ?_
      · show Steps p.tables e below (T34.setTop (mkF m 295 #[.val (.int p0), .val (.int p1), .val (.ref b1), .val (.int sx), .val (.int ((983040 : Int32) + ((p1 &&& (2147483647 : Int32)) % (2146500608 : Int32)))), .val (.int (0 : Int32)), .val (.int (2146500608 : Int32))] [(.int (own_in own_R1 ((983040 : Int32) + ((p1 &&& (2147483647 : Int32)) % (2146500608 : Int32)))))])) _
        refine XS.iload X34.here hx rfl (hb hby at_295) rfl ?_
        exact kt
      refine own_via (A' := T34.setTop (mkF m 300 #[.val (.int p0), .val (.int p1), .val (.ref b1), .val (.int sx), .val (.int ((983040 : Int32) + ((p1 &&& (2147483647 : Int32)) % (2146500608 : Int32)))), .val (.int (0 : Int32)), .val (.int (2146500608 : Int32))] [])) (fun target kt => XS.icmpNo X34.here hx rfl (hb hby at_297) rfl (teq (own_big p1 : (own_in own_R1 ((983040 : Int32) + ((p1 &&& (2147483647 : Int32)) % (2146500608 : Int32)))) = (0 : Int32))).2 kt) ?_
      refine own_via (A' := T34.setTop (mkF m 305 #[.val (.int p0), .val (.int p1), .val (.ref b1), .val (.int sx), .val (.int ((983040 : Int32) + ((p1 &&& (2147483647 : Int32)) % (2146500608 : Int32)))), .val (.int (0 : Int32)), .val (.int (2146500608 : Int32))] [(.int (1 : Int32))])) (fun target kt => ?_) ?_
      · show Steps p.tables e below (T34.setTop (mkF m 300 #[.val (.int p0), .val (.int p1), .val (.ref b1), .val (.int sx), .val (.int ((983040 : Int32) + ((p1 &&& (2147483647 : Int32)) % (2146500608 : Int32)))), .val (.int (0 : Int32)), .val (.int (2146500608 : Int32))] [])) _
        refine XS.iconst X34.here hx rfl (hb hby at_300) ?_
        show Steps p.tables e below (T34.setTop (mkF m 301 #[.val (.int p0), .val (.int p1), .val (.ref b1), .val (.int sx), .val (.int ((983040 : Int32) + ((p1 &&& (2147483647 : Int32)) % (2146500608 : Int32)))), .val (.int (0 : Int32)), .val (.int (2146500608 : Int32))] [(.int (1 : Int32))])) _
        refine XS.goto X34.here hx rfl (pc0 := 301) (pc' := 305) rfl (hb hby at_301) (by decide) (by decide) ?_
        exact kt
      exact own_retN X34 Bd.notSynchronized hx (t := .boolean) Bd.returns (by simp) (hb hby at_305) (show Q0 Z p0 p1 h0 n0 _ _ _ from ⟨rfl, N34⟩) (by decide) (by decide)
    · refine own_via (A' := T32.setTop (mkF m 252 #[.val (.int p0), .val (.int p1), .val (.ref b1), .val (.int sx), .unset, .unset, .unset] [])) (fun target kt => XS.icmpYes X32.here hx rfl (pc0 := 227) (pc' := 252) rfl (hb hby at_227) rfl (feq hc227).2 (by decide) (by decide) kt) ?_
      refine own_via (A' := T32.setTop (mkF m 256 #[.val (.int p0), .val (.int p1), .val (.ref b1), .val (.int sx), .unset, .unset, .unset] [(.int (sx + (1 : Int32))), (.ref b1)])) (fun target kt => ?_) ?_
      · show Steps p.tables e below (T32.setTop (mkF m 252 #[.val (.int p0), .val (.int p1), .val (.ref b1), .val (.int sx), .unset, .unset, .unset] [])) _
        refine XS.aloadN X32.here hx rfl (hb hby at_252) rfl rfl ?_
        show Steps p.tables e below (T32.setTop (mkF m 253 #[.val (.int p0), .val (.int p1), .val (.ref b1), .val (.int sx), .unset, .unset, .unset] [(.ref b1)])) _
        refine XS.iloadN X32.here hx rfl (hb hby at_253) rfl ?_
        show Steps p.tables e below (T32.setTop (mkF m 254 #[.val (.int p0), .val (.int p1), .val (.ref b1), .val (.int sx), .unset, .unset, .unset] [(.int sx), (.ref b1)])) _
        refine XS.iconst X32.here hx rfl (hb hby at_254) ?_
        show Steps p.tables e below (T32.setTop (mkF m 255 #[.val (.int p0), .val (.int p1), .val (.ref b1), .val (.int sx), .unset, .unset, .unset] [(.int (1 : Int32)), (.int sx), (.ref b1)])) _
        refine XS.iadd X32.here hx rfl (hb hby at_255) rfl ?_
        exact kt
      obtain ⟨cl35, w35, hw35, Ar35, hin35, hat35⟩ := own_at (ws := own_ws) (j := (sx + (1 : Int32))) VW (own_i1 hsx hc209 hc227)
      refine own_via (A' := T32.setTop (mkF m 257 #[.val (.int p0), .val (.int p1), .val (.ref b1), .val (.int sx), .unset, .unset, .unset] [(.int w35)])) (fun target kt => X32.iaload hx (j := (sx + (1 : Int32))) (v := (.int w35)) (by rw [e32]; exact Ar35.1) (State.isArrayOf_alike hZ.alike Ar35.2.1) Ar35.2.2 hin35 hat35 (g := (mkF m 256 #[.val (.int p0), .val (.int p1), .val (.ref b1), .val (.int sx), .unset, .unset, .unset] [(.int (sx + (1 : Int32))), (.ref b1)])) rfl rfl (hb hby at_256) _ kt) ?_
      refine own_via (A' := T32.setTop (mkF m 259 #[.val (.int p0), .val (.int p1), .val (.ref b1), .val (.int sx), .unset, .unset, .unset] [(.int sx), (.ref b1), (.int w35)])) (fun target kt => ?_) ?_
      · show Steps p.tables e below (T32.setTop (mkF m 257 #[.val (.int p0), .val (.int p1), .val (.ref b1), .val (.int sx), .unset, .unset, .unset] [(.int w35)])) _
        refine XS.aloadN X32.here hx rfl (hb hby at_257) rfl rfl ?_
        show Steps p.tables e below (T32.setTop (mkF m 258 #[.val (.int p0), .val (.int p1), .val (.ref b1), .val (.int sx), .unset, .unset, .unset] [(.ref b1), (.int w35)])) _
        refine XS.iloadN X32.here hx rfl (hb hby at_258) rfl ?_
        exact kt
      obtain ⟨cl36, w36, hw36, Ar36, hin36, hat36⟩ := own_at (ws := own_ws) (j := sx) VW (own_i0 hsx hc209 hc227)
      refine own_via (A' := T32.setTop (mkF m 260 #[.val (.int p0), .val (.int p1), .val (.ref b1), .val (.int sx), .unset, .unset, .unset] [(.int w36), (.int w35)])) (fun target kt => X32.iaload hx (j := sx) (v := (.int w36)) (by rw [e32]; exact Ar36.1) (State.isArrayOf_alike hZ.alike Ar36.2.1) Ar36.2.2 hin36 hat36 (g := (mkF m 259 #[.val (.int p0), .val (.int p1), .val (.ref b1), .val (.int sx), .unset, .unset, .unset] [(.int sx), (.ref b1), (.int w35)])) rfl rfl (hb hby at_259) _ kt) ?_
      refine own_via (A' := T32.setTop (mkF m 265 #[.val (.int p0), .val (.int p1), .val (.ref b1), .val (.int sx), .unset, .unset, .val (.int (w35 - w36))] [(.int sx), (.ref b1)])) (fun target kt => ?_) ?_
      · show Steps p.tables e below (T32.setTop (mkF m 260 #[.val (.int p0), .val (.int p1), .val (.ref b1), .val (.int sx), .unset, .unset, .unset] [(.int w36), (.int w35)])) _
        refine XS.isub X32.here hx rfl (hb hby at_260) rfl ?_
        show Steps p.tables e below (T32.setTop (mkF m 261 #[.val (.int p0), .val (.int p1), .val (.ref b1), .val (.int sx), .unset, .unset, .unset] [(.int (w35 - w36))])) _
        refine XS.istore X32.here hx rfl (hb hby at_261) rfl (l' := #[.val (.int p0), .val (.int p1), .val (.ref b1), .val (.int sx), .unset, .unset, .val (.int (w35 - w36))]) rfl ?_
        show Steps p.tables e below (T32.setTop (mkF m 263 #[.val (.int p0), .val (.int p1), .val (.ref b1), .val (.int sx), .unset, .unset, .val (.int (w35 - w36))] [])) _
        refine XS.aloadN X32.here hx rfl (hb hby at_263) rfl rfl ?_
        show Steps p.tables e below (T32.setTop (mkF m 264 #[.val (.int p0), .val (.int p1), .val (.ref b1), .val (.int sx), .unset, .unset, .val (.int (w35 - w36))] [(.ref b1)])) _
        refine XS.iloadN X32.here hx rfl (hb hby at_264) rfl ?_
        exact kt
      obtain ⟨cl37, w37, hw37, Ar37, hin37, hat37⟩ := own_at (ws := own_ws) (j := sx) VW (own_i0 hsx hc209 hc227)
      refine own_via (A' := T32.setTop (mkF m 266 #[.val (.int p0), .val (.int p1), .val (.ref b1), .val (.int sx), .unset, .unset, .val (.int (w35 - w36))] [(.int w37)])) (fun target kt => X32.iaload hx (j := sx) (v := (.int w37)) (by rw [e32]; exact Ar37.1) (State.isArrayOf_alike hZ.alike Ar37.2.1) Ar37.2.2 hin37 hat37 (g := (mkF m 265 #[.val (.int p0), .val (.int p1), .val (.ref b1), .val (.int sx), .unset, .unset, .val (.int (w35 - w36))] [(.int sx), (.ref b1)])) rfl rfl (hb hby at_265) _ kt) ?_
      refine own_via (A' := T32.setTop (mkF m 280 #[.val (.int p0), .val (.int p1), .val (.ref b1), .val (.int sx), .val (.int (w37 + ((p1 &&& (2147483647 : Int32)) % (w35 - w36)))), .unset, .val (.int (w35 - w36))] [(.int (1 : Int32)), (.int (sx &&& (1 : Int32)))])) (fun target kt => ?_) ?_
      · show Steps p.tables e below (T32.setTop (mkF m 266 #[.val (.int p0), .val (.int p1), .val (.ref b1), .val (.int sx), .unset, .unset, .val (.int (w35 - w36))] [(.int w37)])) _
        refine XS.iloadN X32.here hx rfl (hb hby at_266) rfl ?_
        show Steps p.tables e below (T32.setTop (mkF m 267 #[.val (.int p0), .val (.int p1), .val (.ref b1), .val (.int sx), .unset, .unset, .val (.int (w35 - w36))] [(.int p1), (.int w37)])) _
        refine X32.ldcInt hx hown (mvT hZ (hw _ (List.mem_of_getElem? (i := 8) rfl))) (g := (mkF m 267 #[.val (.int p0), .val (.int p1), .val (.ref b1), .val (.int sx), .unset, .unset, .val (.int (w35 - w36))] [(.int p1), (.int w37)])) rfl (hb hby at_267) _ ?_
        show Steps p.tables e below (T32.setTop (mkF m 269 #[.val (.int p0), .val (.int p1), .val (.ref b1), .val (.int sx), .unset, .unset, .val (.int (w35 - w36))] [(.int (2147483647 : Int32)), (.int p1), (.int w37)])) _
        refine XS.iand X32.here hx rfl (hb hby at_269) rfl ?_
        show Steps p.tables e below (T32.setTop (mkF m 270 #[.val (.int p0), .val (.int p1), .val (.ref b1), .val (.int sx), .unset, .unset, .val (.int (w35 - w36))] [(.int (p1 &&& (2147483647 : Int32))), (.int w37)])) _
        refine XS.iload X32.here hx rfl (hb hby at_270) rfl ?_
        show Steps p.tables e below (T32.setTop (mkF m 272 #[.val (.int p0), .val (.int p1), .val (.ref b1), .val (.int sx), .unset, .unset, .val (.int (w35 - w36))] [(.int (w35 - w36)), (.int (p1 &&& (2147483647 : Int32))), (.int w37)])) _
        refine iremM X32 hx rfl (hb hby at_272) rfl (own_nz hsx hc209 hc227 hw35 hw36) ?_
        show Steps p.tables e below (T32.setTop (mkF m 273 #[.val (.int p0), .val (.int p1), .val (.ref b1), .val (.int sx), .unset, .unset, .val (.int (w35 - w36))] [(.int ((p1 &&& (2147483647 : Int32)) % (w35 - w36))), (.int w37)])) _
        refine XS.iadd X32.here hx rfl (hb hby at_273) rfl ?_
        show Steps p.tables e below (T32.setTop (mkF m 274 #[.val (.int p0), .val (.int p1), .val (.ref b1), .val (.int sx), .unset, .unset, .val (.int (w35 - w36))] [(.int (w37 + ((p1 &&& (2147483647 : Int32)) % (w35 - w36))))])) _
        refine XS.istore X32.here hx rfl (hb hby at_274) rfl (l' := #[.val (.int p0), .val (.int p1), .val (.ref b1), .val (.int sx), .val (.int (w37 + ((p1 &&& (2147483647 : Int32)) % (w35 - w36)))), .unset, .val (.int (w35 - w36))]) rfl ?_
        show Steps p.tables e below (T32.setTop (mkF m 276 #[.val (.int p0), .val (.int p1), .val (.ref b1), .val (.int sx), .val (.int (w37 + ((p1 &&& (2147483647 : Int32)) % (w35 - w36)))), .unset, .val (.int (w35 - w36))] [])) _
        refine XS.iloadN X32.here hx rfl (hb hby at_276) rfl ?_
        show Steps p.tables e below (T32.setTop (mkF m 277 #[.val (.int p0), .val (.int p1), .val (.ref b1), .val (.int sx), .val (.int (w37 + ((p1 &&& (2147483647 : Int32)) % (w35 - w36)))), .unset, .val (.int (w35 - w36))] [(.int sx)])) _
        refine XS.iconst X32.here hx rfl (hb hby at_277) ?_
        show Steps p.tables e below (T32.setTop (mkF m 278 #[.val (.int p0), .val (.int p1), .val (.ref b1), .val (.int sx), .val (.int (w37 + ((p1 &&& (2147483647 : Int32)) % (w35 - w36)))), .unset, .val (.int (w35 - w36))] [(.int (1 : Int32)), (.int sx)])) _
        refine XS.iand X32.here hx rfl (hb hby at_278) rfl ?_
        show Steps p.tables e below (T32.setTop (mkF m 279 #[.val (.int p0), .val (.int p1), .val (.ref b1), .val (.int sx), .val (.int (w37 + ((p1 &&& (2147483647 : Int32)) % (w35 - w36)))), .unset, .val (.int (w35 - w36))] [(.int (sx &&& (1 : Int32)))])) _
        refine XS.iconst X32.here hx rfl (hb hby at_279) ?_
        exact kt
      by_cases hc280 : (sx &&& (1 : Int32)) = (1 : Int32)
      · refine own_via (A' := T32.setTop (mkF m 283 #[.val (.int p0), .val (.int p1), .val (.ref b1), .val (.int sx), .val (.int (w37 + ((p1 &&& (2147483647 : Int32)) % (w35 - w36)))), .unset, .val (.int (w35 - w36))] [])) (fun target kt => XS.icmpNo X32.here hx rfl (hb hby at_280) rfl (teq hc280).2 kt) ?_
        refine own_via (A' := T32.setTop (mkF m 292 #[.val (.int p0), .val (.int p1), .val (.ref b1), .val (.int sx), .val (.int (w37 + ((p1 &&& (2147483647 : Int32)) % (w35 - w36)))), .val (.int (1 : Int32)), .val (.int (w35 - w36))] [(.int (w37 + ((p1 &&& (2147483647 : Int32)) % (w35 - w36))))])) (fun target kt => ?_) ?_
        · show Steps p.tables e below (T32.setTop (mkF m 283 #[.val (.int p0), .val (.int p1), .val (.ref b1), .val (.int sx), .val (.int (w37 + ((p1 &&& (2147483647 : Int32)) % (w35 - w36)))), .unset, .val (.int (w35 - w36))] [])) _
          refine XS.iconst X32.here hx rfl (hb hby at_283) ?_
          show Steps p.tables e below (T32.setTop (mkF m 284 #[.val (.int p0), .val (.int p1), .val (.ref b1), .val (.int sx), .val (.int (w37 + ((p1 &&& (2147483647 : Int32)) % (w35 - w36)))), .unset, .val (.int (w35 - w36))] [(.int (1 : Int32))])) _
          refine XS.goto X32.here hx rfl (pc0 := 284) (pc' := 288) rfl (hb hby at_284) (by decide) (by decide) ?_
          show Steps p.tables e below (T32.setTop (mkF m 288 #[.val (.int p0), .val (.int p1), .val (.ref b1), .val (.int sx), .val (.int (w37 + ((p1 &&& (2147483647 : Int32)) % (w35 - w36)))), .unset, .val (.int (w35 - w36))] [(.int (1 : Int32))])) _
          refine XS.istore X32.here hx rfl (hb hby at_288) rfl (l' := #[.val (.int p0), .val (.int p1), .val (.ref b1), .val (.int sx), .val (.int (w37 + ((p1 &&& (2147483647 : Int32)) % (w35 - w36)))), .val (.int (1 : Int32)), .val (.int (w35 - w36))]) rfl ?_
          show Steps p.tables e below (T32.setTop (mkF m 290 #[.val (.int p0), .val (.int p1), .val (.ref b1), .val (.int sx), .val (.int (w37 + ((p1 &&& (2147483647 : Int32)) % (w35 - w36)))), .val (.int (1 : Int32)), .val (.int (w35 - w36))] [])) _
          refine XS.iload X32.here hx rfl (hb hby at_290) rfl ?_
          exact kt
        obtain ⟨_, _, ⟨T38, L38, k38, n38⟩, -, X38, ⟨Lc38, hQ38, l38, y38, z38⟩, st38⟩ := Jvm.LawKit.callS X32 hx (y := (⟨"com/example/resultree/resultree/xdm/NodeName", "isNameStartChar", "(I)Z"⟩ : MethodName)) hown (mvT hZ (hw _ (List.mem_of_getElem? (i := 9) rfl))) (mvT hZ (hw _ (List.mem_of_getElem? (i := 10) rfl))) (mvT hZ (hw _ (List.mem_of_getElem? (i := 11) rfl))) (mvT hZ (hw _ (List.mem_of_getElem? (i := 12) rfl))) (by decide) (backOf (W := 0) (rm1 l Z a0 hw [] (w37 + ((p1 &&& (2147483647 : Int32)) % (w35 - w36)))  h32 n0 Z32 ) hZ (hw _ (List.mem_of_getElem? (i := 12) rfl)) (hw _ (List.mem_of_getElem? (i := 11) rfl)) (by decide) (by decide)) (g := (mkF m 292 #[.val (.int p0), .val (.int p1), .val (.ref b1), .val (.int sx), .val (.int (w37 + ((p1 &&& (2147483647 : Int32)) % (w35 - w36)))), .val (.int (1 : Int32)), .val (.int (w35 - w36))] [(.int (w37 + ((p1 &&& (2147483647 : Int32)) % (w35 - w36))))])) rfl (by rw [hml]; rfl) (argsL := [(.int (w37 + ((p1 &&& (2147483647 : Int32)) % (w35 - w36))))]) (rest := []) (lenOf pd_0_0 rfl) rfl (by show 2 * 0 + _ ≤ _; exact Nat.le_of_eq rfl) (hb hby at_292) (fun _ _ => ⟨rfl, e32, (by decide : 1 + 0 ≤ _), (by decide : 31 + 0 ≤ _)⟩)
        dsimp only [Pt.U, Pt.locs, Pt.cells, Pt.slots] at X38 l38 y38 z38 st38 hQ38
        subst l38 y38 z38
        obtain ⟨rfl, N38q, e38⟩ := hQ38
        have N38 := Fr.app N32 N38q
        refine own_via (A' := T38.setTop (mkF m 295 #[.val (.int p0), .val (.int p1), .val (.ref b1), .val (.int sx), .val (.int (w37 + ((p1 &&& (2147483647 : Int32)) % (w35 - w36)))), .val (.int (1 : Int32)), .val (.int (w35 - w36))] [(.int (own_in own_R1 (w37 + ((p1 &&& (2147483647 : Int32)) % (w35 - w36)))))])) st38 ?_
        refine own_via (A' := T38.setTop (mkF m 297 #[.val (.int p0), .val (.int p1), .val (.ref b1), .val (.int sx), .val (.int (w37 + ((p1 &&& (2147483647 : Int32)) % (w35 - w36)))), .val (.int (1 : Int32)), .val (.int (w35 - w36))] [(.int (1 : Int32)), (.int (own_in own_R1 (w37 + ((p1 &&& (2147483647 : Int32)) % (w35 - w36)))))])) (fun target kt => ?_) ?_
        · show Steps p.tables e below (T38.setTop (mkF m 295 #[.val (.int p0), .val (.int p1), .val (.ref b1), .val (.int sx), .val (.int (w37 + ((p1 &&& (2147483647 : Int32)) % (w35 - w36)))), .val (.int (1 : Int32)), .val (.int (w35 - w36))] [(.int (own_in own_R1 (w37 + ((p1 &&& (2147483647 : Int32)) % (w35 - w36)))))])) _
          refine XS.iload X38.here hx rfl (hb hby at_295) rfl ?_
          exact kt
        refine own_via (A' := T38.setTop (mkF m 300 #[.val (.int p0), .val (.int p1), .val (.ref b1), .val (.int sx), .val (.int (w37 + ((p1 &&& (2147483647 : Int32)) % (w35 - w36)))), .val (.int (1 : Int32)), .val (.int (w35 - w36))] [])) (fun target kt => XS.icmpNo X38.here hx rfl (hb hby at_297) rfl (teq ((own_seg hsx hc209 hc227 hw35 hw36 hw37).trans (if_pos hc280) : (own_in own_R1 (w37 + ((p1 &&& (2147483647 : Int32)) % (w35 - w36)))) = (1 : Int32))).2 kt) ?_
        refine own_via (A' := T38.setTop (mkF m 305 #[.val (.int p0), .val (.int p1), .val (.ref b1), .val (.int sx), .val (.int (w37 + ((p1 &&& (2147483647 : Int32)) % (w35 - w36)))), .val (.int (1 : Int32)), .val (.int (w35 - w36))] [(.int (1 : Int32))])) (fun target kt => ?_) ?_
        · show Steps p.tables e below (T38.setTop (mkF m 300 #[.val (.int p0), .val (.int p1), .val (.ref b1), .val (.int sx), .val (.int (w37 + ((p1 &&& (2147483647 : Int32)) % (w35 - w36)))), .val (.int (1 : Int32)), .val (.int (w35 - w36))] [])) _
          refine XS.iconst X38.here hx rfl (hb hby at_300) ?_
          show Steps p.tables e below (T38.setTop (mkF m 301 #[.val (.int p0), .val (.int p1), .val (.ref b1), .val (.int sx), .val (.int (w37 + ((p1 &&& (2147483647 : Int32)) % (w35 - w36)))), .val (.int (1 : Int32)), .val (.int (w35 - w36))] [(.int (1 : Int32))])) _
          refine XS.goto X38.here hx rfl (pc0 := 301) (pc' := 305) rfl (hb hby at_301) (by decide) (by decide) ?_
          exact kt
        exact own_retN X38 Bd.notSynchronized hx (t := .boolean) Bd.returns (by simp) (hb hby at_305) (show Q0 Z p0 p1 h0 n0 _ _ _ from ⟨rfl, N38⟩) (by decide) (by decide)
      · refine own_via (A' := T32.setTop (mkF m 287 #[.val (.int p0), .val (.int p1), .val (.ref b1), .val (.int sx), .val (.int (w37 + ((p1 &&& (2147483647 : Int32)) % (w35 - w36)))), .unset, .val (.int (w35 - w36))] [])) (fun target kt => XS.icmpYes X32.here hx rfl (pc0 := 280) (pc' := 287) rfl (hb hby at_280) rfl (feq hc280).2 (by decide) (by decide) kt) ?_
        refine own_via (A' := T32.setTop (mkF m 292 #[.val (.int p0), .val (.int p1), .val (.ref b1), .val (.int sx), .val (.int (w37 + ((p1 &&& (2147483647 : Int32)) % (w35 - w36)))), .val (.int (0 : Int32)), .val (.int (w35 - w36))] [(.int (w37 + ((p1 &&& (2147483647 : Int32)) % (w35 - w36))))])) (fun target kt => ?_) ?_
        · show Steps p.tables e below (T32.setTop (mkF m 287 #[.val (.int p0), .val (.int p1), .val (.ref b1), .val (.int sx), .val (.int (w37 + ((p1 &&& (2147483647 : Int32)) % (w35 - w36)))), .unset, .val (.int (w35 - w36))] [])) _
          refine XS.iconst X32.here hx rfl (hb hby at_287) ?_
          show Steps p.tables e below (T32.setTop (mkF m 288 #[.val (.int p0), .val (.int p1), .val (.ref b1), .val (.int sx), .val (.int (w37 + ((p1 &&& (2147483647 : Int32)) % (w35 - w36)))), .unset, .val (.int (w35 - w36))] [(.int (0 : Int32))])) _
          refine XS.istore X32.here hx rfl (hb hby at_288) rfl (l' := #[.val (.int p0), .val (.int p1), .val (.ref b1), .val (.int sx), .val (.int (w37 + ((p1 &&& (2147483647 : Int32)) % (w35 - w36)))), .val (.int (0 : Int32)), .val (.int (w35 - w36))]) rfl ?_
          show Steps p.tables e below (T32.setTop (mkF m 290 #[.val (.int p0), .val (.int p1), .val (.ref b1), .val (.int sx), .val (.int (w37 + ((p1 &&& (2147483647 : Int32)) % (w35 - w36)))), .val (.int (0 : Int32)), .val (.int (w35 - w36))] [])) _
          refine XS.iload X32.here hx rfl (hb hby at_290) rfl ?_
          exact kt
        obtain ⟨_, _, ⟨T39, L39, k39, n39⟩, -, X39, ⟨Lc39, hQ39, l39, y39, z39⟩, st39⟩ := Jvm.LawKit.callS X32 hx (y := (⟨"com/example/resultree/resultree/xdm/NodeName", "isNameStartChar", "(I)Z"⟩ : MethodName)) hown (mvT hZ (hw _ (List.mem_of_getElem? (i := 9) rfl))) (mvT hZ (hw _ (List.mem_of_getElem? (i := 10) rfl))) (mvT hZ (hw _ (List.mem_of_getElem? (i := 11) rfl))) (mvT hZ (hw _ (List.mem_of_getElem? (i := 12) rfl))) (by decide) (backOf (W := 0) (rm1 l Z a0 hw [] (w37 + ((p1 &&& (2147483647 : Int32)) % (w35 - w36)))  h32 n0 Z32 ) hZ (hw _ (List.mem_of_getElem? (i := 12) rfl)) (hw _ (List.mem_of_getElem? (i := 11) rfl)) (by decide) (by decide)) (g := (mkF m 292 #[.val (.int p0), .val (.int p1), .val (.ref b1), .val (.int sx), .val (.int (w37 + ((p1 &&& (2147483647 : Int32)) % (w35 - w36)))), .val (.int (0 : Int32)), .val (.int (w35 - w36))] [(.int (w37 + ((p1 &&& (2147483647 : Int32)) % (w35 - w36))))])) rfl (by rw [hml]; rfl) (argsL := [(.int (w37 + ((p1 &&& (2147483647 : Int32)) % (w35 - w36))))]) (rest := []) (lenOf pd_0_0 rfl) rfl (by show 2 * 0 + _ ≤ _; exact Nat.le_of_eq rfl) (hb hby at_292) (fun _ _ => ⟨rfl, e32, (by decide : 1 + 0 ≤ _), (by decide : 31 + 0 ≤ _)⟩)
        dsimp only [Pt.U, Pt.locs, Pt.cells, Pt.slots] at X39 l39 y39 z39 st39 hQ39
        subst l39 y39 z39
        obtain ⟨rfl, N39q, e39⟩ := hQ39
        have N39 := Fr.app N32 N39q
        refine own_via (A' := T39.setTop (mkF m 295 #[.val (.int p0), .val (.int p1), .val (.ref b1), .val (.int sx), .val (.int (w37 + ((p1 &&& (2147483647 : Int32)) % (w35 - w36)))), .val (.int (0 : Int32)), .val (.int (w35 - w36))] [(.int (own_in own_R1 (w37 + ((p1 &&& (2147483647 : Int32)) % (w35 - w36)))))])) st39 ?_
        refine own_via (A' := T39.setTop (mkF m 297 #[.val (.int p0), .val (.int p1), .val (.ref b1), .val (.int sx), .val (.int (w37 + ((p1 &&& (2147483647 : Int32)) % (w35 - w36)))), .val (.int (0 : Int32)), .val (.int (w35 - w36))] [(.int (0 : Int32)), (.int (own_in own_R1 (w37 + ((p1 &&& (2147483647 : Int32)) % (w35 - w36)))))])) (fun target kt => ?_) ?_
        · show Steps p.tables e below (T39.setTop (mkF m 295 #[.val (.int p0), .val (.int p1), .val (.ref b1), .val (.int sx), .val (.int (w37 + ((p1 &&& (2147483647 : Int32)) % (w35 - w36)))), .val (.int (0 : Int32)), .val (.int (w35 - w36))] [(.int (own_in own_R1 (w37 + ((p1 &&& (2147483647 : Int32)) % (w35 - w36)))))])) _
          refine XS.iload X39.here hx rfl (hb hby at_295) rfl ?_
          exact kt
        refine own_via (A' := T39.setTop (mkF m 300 #[.val (.int p0), .val (.int p1), .val (.ref b1), .val (.int sx), .val (.int (w37 + ((p1 &&& (2147483647 : Int32)) % (w35 - w36)))), .val (.int (0 : Int32)), .val (.int (w35 - w36))] [])) (fun target kt => XS.icmpNo X39.here hx rfl (hb hby at_297) rfl (teq ((own_seg hsx hc209 hc227 hw35 hw36 hw37).trans (if_neg hc280) : (own_in own_R1 (w37 + ((p1 &&& (2147483647 : Int32)) % (w35 - w36)))) = (0 : Int32))).2 kt) ?_
        refine own_via (A' := T39.setTop (mkF m 305 #[.val (.int p0), .val (.int p1), .val (.ref b1), .val (.int sx), .val (.int (w37 + ((p1 &&& (2147483647 : Int32)) % (w35 - w36)))), .val (.int (0 : Int32)), .val (.int (w35 - w36))] [(.int (1 : Int32))])) (fun target kt => ?_) ?_
        · show Steps p.tables e below (T39.setTop (mkF m 300 #[.val (.int p0), .val (.int p1), .val (.ref b1), .val (.int sx), .val (.int (w37 + ((p1 &&& (2147483647 : Int32)) % (w35 - w36)))), .val (.int (0 : Int32)), .val (.int (w35 - w36))] [])) _
          refine XS.iconst X39.here hx rfl (hb hby at_300) ?_
          show Steps p.tables e below (T39.setTop (mkF m 301 #[.val (.int p0), .val (.int p1), .val (.ref b1), .val (.int sx), .val (.int (w37 + ((p1 &&& (2147483647 : Int32)) % (w35 - w36)))), .val (.int (0 : Int32)), .val (.int (w35 - w36))] [(.int (1 : Int32))])) _
          refine XS.goto X39.here hx rfl (pc0 := 301) (pc' := 305) rfl (hb hby at_301) (by decide) (by decide) ?_
          exact kt
        exact own_retN X39 Bd.notSynchronized hx (t := .boolean) Bd.returns (by simp) (hb hby at_305) (show Q0 Z p0 p1 h0 n0 _ _ _ from ⟨rfl, N39⟩) (by decide) (by decide)
set_option maxRecDepth 65536 in
set_option maxHeartbeats 40000000 in
theorem comes_1 {Post : Tables → Env → Array Value → State → Outcome → State → Prop} (hpost : ∀ tb e args s v u, (limb_1_1.after args s (.returned v) u = true ∧ limb_1_2.after args s (.returned v) u = true ∧ True) → FrameEnd s (.returned v) u (Jvm.fieldLocs frame_1_writes args s ++ Jvm.arrayLocs frame_1_arrays args s ++ Jvm.staticLocs frame_1_statics s) 16 128 → Post tb e args s (.returned v) u) :
    ArmFor flags0 classFile x code maxLocals ret World_1 tables_1 room_1 Calls_1 rest_1 Pre_1 Post := by
  intro l hfl _ _ p e ha hc hk s m args below hf hA hF happ hP
  obtain ⟨hcalls, hrest, hpre⟩ := hP
  obtain ⟨-, -, -, hnamed, -, -, -, hat⟩ := (Spec.applies_iff hf).mp happ
  obtain ⟨hg, hn⟩ := and_e (Cond.before_iff.mp (show (Jvm.Cond.and given_1 narrow_1).before args s = true from hpre))
  obtain ⟨h1, g0⟩ := and_e hg
  obtain ⟨a0, g1⟩ := and_e g0
  obtain ⟨w0, w1, rfl⟩ : ∃ w0 w1 : Value, args = #[w0, w1] := by
    have hs : args.size = 2 := by simpa [Cond.value, given_1] using h1
    obtain ⟨L⟩ := args
    match L, hs with
    | [w0, w1], _ => exact ⟨w0, w1, rfl⟩
  have hw := fun d (hd : d ∈ tables_1) => atoms_spec (ws := Jvm.Cond.code x code maxLocals ret :: tables_1) hat d (List.mem_cons_of_mem _ hd)
  obtain ⟨i0, ei0⟩ := is_v a0
  obtain rfl : w0 = (.int i0) := Option.some.inj ei0
  obtain ⟨i1, ei1⟩ := is_v g1
  obtain rfl : w1 = (.int i1) := Option.some.inj ei1
  obtain ⟨n, o, h1, h2, h3, _, L, rfl, ⟨rfl, N⟩, hq⟩ := rm0 l s _ hw tables_1 i0 i1 s.heap s.heap.size (Nat.le_refl _) p e ha hc hk s m _ below hf ((Spec.applies_iff_loose hf).mp happ).1 ⟨rfl, State.Warmed39.refl s, rfl⟩ trivial
  refine ⟨n, _, h1, h2, h3, hpost _ _ _ _ _ _ ⟨Cond.after_iff.mpr rfl, Cond.after_iff.mpr (eq_i res_at (Term.int_eval (1)) rfl), trivial⟩ ⟨hq.1, hq.2.1, (hq.2.2.sift fun y hy => Or.inr (N y hy)).mono (by decide) (by decide)⟩⟩
theorem main_1_1 : Claimed_1_1 := comes_1 fun _ _ _ _ _ _ h hF => ⟨h.1, hF⟩
theorem main_1_2 : Claimed_1_2 := comes_1 fun _ _ _ _ _ _ h hF => ⟨h.2.1, hF⟩
end Jvm.Pilot.@@N@@
namespace Jvm.Pilot.@@N@@
open Jvm Jvm.ClassFile Sem Op Lib Jvm.Free Jvm.Stand Jvm.Pilot.@@N@@.Jvm.D
/-! MADE BY PROGRAM (witnessworld.py) out of the Statement's table words and the real class files: 9 classes; the members and pool entries that the words name. The judged class is class 1, her method 1. -/
namespace start1
open Jvm.ClassFile
def u (s : String) : CpInfo := .utf8 (stringToUtf16 s)
/-- a pool by its gaps: so many unusable entries, then the entry; so many at the end -/
def gap : Nat → List CpInfo → List CpInfo
  | 0, r => r
  | n + 1, r => .unusable :: gap n r
def poolList (es : List (Nat × CpInfo)) (last : Nat) : List CpInfo := es.foldr (fun e r => gap e.1 (e.2 :: r)) (gap last [])
def pool (es : List (Nat × CpInfo)) (last : Nat) : Array CpInfo := ⟨poolList es last⟩
def fileOf (pool : Array CpInfo) (this : Nat) (attrs : Array Attribute := #[]) (ms : Array MethodInfo := #[]) (fl : Nat := 33) (sup : Nat := 0) (ifs : Array Nat := #[]) (fds : Array FieldInfo := #[]) : ClassFile where
  minorVersion := 0
  majorVersion := 65
  constantPool := pool
  accessFlags := fl
  thisClass := this
  superClass := sup
  interfaces := ifs
  fields := fds
  methods := ms
  attributes := attrs
def plain (name : String) (sup : Option ClassId) : Class where
  name := name
  kind := .ordinary
  loader := none
  accessFlags := 33
  super := sup
  interfaces := #[]
  cf := none
  fields := #[]
  methods := #[]
  instanceTypes := #[]
  staticTypes := #[]
  resolved := #[]
  callSites := []
  init := .initialized
  statics := none
  mirror := none

def pool0 : Array CpInfo := pool [(5, u "<init>"), (0, u "()V"), (1, .class_ 10), (1, u "java/lang/Object")] 113

def k0m0 : Method := { name := "<init>", desc := "()V", sig := { parameters := [], returnType := none }, accessFlags := 1, code := none }
/-- java/lang/Object -/
def k0 : Class := { plain "java/lang/Object" none with
  accessFlags := 33
  interfaces := #[]
  cf := some (fileOf pool0 8 #[] #[{ accessFlags := 1, nameIndex := 5, descriptorIndex := 6, attributes := #[] }] 33 0 #[] #[])
  fields := #[]
  methods := #[k0m0]
  instanceTypes := #[]
  staticTypes := #[]
  resolved := Array.replicate 124 none
  statics := none }

def pool1 : Array CpInfo := pool [(2, .class_ 4), (1, u "java/lang/Object"), (0, u "<init>"), (0, u "()V"), (0, .integer 55296), (0, .integer 63744), (0, .integer 64976), (0, .integer 65008), (0, .integer 65534), (0, .integer 65536), (0, .integer 983040), (2, .integer 2147483648), (0, .integer 2146500608), (0, .integer 2147483647), (0, .methodref 20 21), (0, .class_ 22), (0, .nameAndType 23 24), (0, u "com/example/resultree/resultree/xdm/NodeName"), (0, u "isNameStartChar"), (0, u "(I)Z"), (0, .class_ 26), (0, u "com/example/resultree/resultree/xdm/NodeNameIsNameStartCharPinLaw"), (2, u "law"), (0, u "(II)Z")] 5

def k1m0 : Method := { name := "<init>", desc := "()V", sig := { parameters := [], returnType := none }, accessFlags := 2, code := none }
def k1c1 : Code := { maxStack := 4, maxLocals := 7, code := code, exceptionTable := #[], attributes := #[] }
def k1m1 : Method := { name := "law", desc := "(II)Z", sig := { parameters := [.int, .int], returnType := some .boolean }, accessFlags := 9, code := some k1c1 }
/-- com/example/resultree/resultree/xdm/NodeNameIsNameStartCharPinLaw -/
def k1 : Class := { plain "com/example/resultree/resultree/xdm/NodeNameIsNameStartCharPinLaw" (some 0) with
  accessFlags := 49
  interfaces := #[]
  cf := some (fileOf pool1 25 #[] #[{ accessFlags := 2, nameIndex := 5, descriptorIndex := 6, attributes := #[] }, { accessFlags := 9, nameIndex := 29, descriptorIndex := 30, attributes := #[] }] 49 2 #[] #[])
  fields := #[]
  methods := #[k1m0, k1m1]
  instanceTypes := #[]
  staticTypes := #[]
  resolved := Array.replicate 36 none
  statics := none }

def pool2 : Array CpInfo := pool [(2, .class_ 4), (1, u "java/lang/Object"), (3, u "prefix"), (9, .class_ 20), (1, u "com/example/resultree/resultree/xdm/NodeName"), (0, u "Ljava/lang/String;"), (1, u "namespaceUri"), (3, u "localName"), (4, u "qualifiedName"), (10, u "qualifiedNameValue"), (0, u "Ljava/util/List;"), (32, u "isNameStartChar"), (0, u "(I)Z"), (25, .integer 55295), (0, .integer 63744), (0, .integer 64975), (0, .integer 65008), (0, .integer 65533), (0, .integer 65536), (0, .integer 983039)] 28

def k2c0 : Code := { maxStack := 2, maxLocals := 1, code := prog_91_method_13_code, exceptionTable := #[], attributes := #[] }
def k2m0 : Method := { name := "isNameStartChar", desc := "(I)Z", sig := { parameters := [.int], returnType := some .boolean }, accessFlags := 9, code := some k2c0 }
/-- com/example/resultree/resultree/xdm/NodeName -/
def k2 : Class := { plain "com/example/resultree/resultree/xdm/NodeName" (some 0) with
  accessFlags := 49
  interfaces := #[]
  cf := some (fileOf pool2 18 #[] #[{ accessFlags := 9, nameIndex := 77, descriptorIndex := 78, attributes := #[] }] 49 2 #[] #[{ accessFlags := 18, nameIndex := 8, descriptorIndex := 21, attributes := #[] }, { accessFlags := 18, nameIndex := 23, descriptorIndex := 21, attributes := #[] }, { accessFlags := 18, nameIndex := 27, descriptorIndex := 21, attributes := #[] }, { accessFlags := 2, nameIndex := 32, descriptorIndex := 21, attributes := #[] }, { accessFlags := 2, nameIndex := 43, descriptorIndex := 44, attributes := #[] }])
  fields := #[{ name := "prefix", type := (.object "java/lang/String"), accessFlags := 18, slot := 0, constantValue := 0 }, { name := "namespaceUri", type := (.object "java/lang/String"), accessFlags := 18, slot := 1, constantValue := 0 }, { name := "localName", type := (.object "java/lang/String"), accessFlags := 18, slot := 2, constantValue := 0 }, { name := "qualifiedName", type := (.object "java/lang/String"), accessFlags := 2, slot := 3, constantValue := 0 }, { name := "qualifiedNameValue", type := (.object "java/util/List"), accessFlags := 2, slot := 4, constantValue := 0 }]
  methods := #[k2m0]
  instanceTypes := #[(.object "java/lang/String"), (.object "java/lang/String"), (.object "java/lang/String"), (.object "java/lang/String"), (.object "java/util/List")]
  staticTypes := #[]
  resolved := Array.replicate 139 none
  statics := none }

def pool3 : Array CpInfo := pool [(1, u "java/lang/Cloneable"), (0, .class_ 1), (0, u "java/lang/Object"), (0, .class_ 3)] 3

/-- java/lang/Cloneable -/
def k3 : Class := { plain "java/lang/Cloneable" (some 0) with
  accessFlags := 1537
  interfaces := #[]
  cf := some (fileOf pool3 2 #[] #[] 1537 4 #[] #[])
  fields := #[]
  methods := #[]
  instanceTypes := #[]
  staticTypes := #[]
  resolved := Array.replicate 8 none
  statics := none }

def pool4 : Array CpInfo := pool [(1, u "java/io/Serializable"), (0, .class_ 1), (0, u "java/lang/Object"), (0, .class_ 3)] 3

/-- java/io/Serializable -/
def k4 : Class := { plain "java/io/Serializable" (some 0) with
  accessFlags := 1537
  interfaces := #[]
  cf := some (fileOf pool4 2 #[] #[] 1537 4 #[] #[])
  fields := #[]
  methods := #[]
  instanceTypes := #[]
  staticTypes := #[]
  resolved := Array.replicate 8 none
  statics := none }

/-- the primitive byte -/
def k5 : Class := { plain "byte" none with kind := .primitive 'B', accessFlags := 0x411 }
/-- [B -/
def k6 : Class := { plain "[B" (some 0) with kind := .array 5 .byte, interfaces := #[3, 4], accessFlags := 1041 }

/-- the primitive int -/
def k7 : Class := { plain "int" none with kind := .primitive 'I', accessFlags := 0x411 }
/-- [I -/
def k8 : Class := { plain "[I" (some 0) with kind := .array 7 .int, interfaces := #[3, 4], accessFlags := 1041 }

def heap : Heap := #[]
def classes : Array Class := #[k0, k1, k2, k3, k4, k5, k6, k7, k8]
def interned : List (Array UInt16 × Addr) := []
def slotsUsed : Nat := 0
def theMethod : MethodId := ⟨1, 1⟩
def args0 : Array Value := #[.int 5, .int 7]
def aboutOver (below : List Frame) : State where
  vm := { classes := classes, interned := interned.toArray }
  heap := heap
  slotsUsed := slotsUsed
  threads := #[{ frames := .invoking theMethod args0 :: below }]
def below0 : List Frame := [.native { method := ⟨0, 0⟩, args := #[] }]
def about1 : State := aboutOver below0
def p0 : Program := .bare "" "" ""
def e0 : Env := launch0.env 0 0 0
theorem w_frames : about1.frames = Frame.invoking theMethod args0 :: below0 := rfl
set_option maxRecDepth 65536 in
theorem w_args : argsFit about1.vm theMethod args0 = true := by decide +kernel
set_option maxRecDepth 65536 in
theorem w_heap : heapFits about1 = true := by decide +kernel
set_option maxRecDepth 65536 in
theorem w_runnable : about1.curStatus? = some .runnable := by decide +kernel
set_option maxRecDepth 65536 in
theorem w_alone : about1.alone = true := by decide +kernel
set_option maxRecDepth 65536 in
theorem w_named : about1.methodNamed? x = some theMethod := by decide +kernel
set_option maxRecDepth 65536 in
theorem w_hears : about1.hears theMethod below0 = true := by decide +kernel
set_option maxRecDepth 65536 in
theorem w_ripe : about1.ripe theMethod args0 below0 = true := by decide +kernel
theorem w_running : about1.status = .running := rfl
set_option maxRecDepth 65536 in
theorem w_room : about1.hasRoom e0.platform room_1 = true :=
  launch0.hasRoom_least _ room_1 (by decide +kernel) (by decide +kernel) (by decide +kernel) (by decide +kernel) (by decide +kernel) (by decide +kernel)
theorem allAtoms_all (ts : List Jvm.Cond) (a : Array Jvm.Value) (st : Jvm.State) : (allAtoms ts).before a st = ts.all (fun c => c.before a st) := by
  induction ts with
  | nil => rfl
  | cons c t ih =>
    show (Jvm.Cond.and c (allAtoms t)).before a st = _
    rw [Jvm.Cond.before_and, ih, List.all_cons]
def words1 : List Jvm.Cond := Jvm.Cond.code x code maxLocals ret :: tables_1
/-- a 'code' word, met by the world's own term for the bytes: nothing is compared byte by byte -/
theorem code_word {y : MethodName} {bytes : ByteArray} {mx : Nat} {rt : Option FieldType} {a : Array Value} {s : State} {m : MethodId} {meth : Method} {c : Code} (h1 : s.methodNamed? y = some m) (h2 : s.vm.method? m = some meth) (h3 : meth.code = some c) (h4 : c.code = bytes)
    (h5 : (c.maxLocals == mx && c.exceptionTable.isEmpty && decide (c.maxStack ≤ mostOperands) && decide (meth.sig.returnType = rt) && !meth.locks && decide (parseMethodDescriptor y.desc = some meth.sig)) = true) : (Jvm.Cond.code y bytes mx rt).before a s = true := by
  simp only [Bool.and_eq_true, beq_iff_eq, Bool.not_eq_true', decide_eq_true_eq] at h5
  obtain ⟨⟨⟨⟨⟨g1, g2⟩, g3⟩, g4⟩, g5⟩, g6⟩ := h5
  simp [Cond.before, Cond.holds, Cond.value, h1, h2, h3, h4, g1, g2, g3, g4, g5, g6]
def isCode : Jvm.Cond → Bool
  | .code _ _ _ _ => true
  | _ => false
theorem all_split {L : List Jvm.Cond} {P : Jvm.Cond → Bool} (h1 : L.all (fun c => isCode c || P c) = true) (h2 : ∀ c ∈ L.filter isCode, P c = true) : L.all P = true := by
  refine List.all_eq_true.mpr fun c hc => ?_
  have h := List.all_eq_true.mp h1 c hc
  rcases Bool.eq_false_or_eq_true (isCode c) with hi | hi
  · exact h2 c (List.mem_filter.mpr ⟨hc, hi⟩)
  · simpa [hi] using h
set_option maxRecDepth 65536 in
theorem w_c0 : (Jvm.Cond.code x code maxLocals ret).before args0 about1 = true := code_word (m := ⟨1, 1⟩) (meth := k1m1) (c := k1c1) (by decide +kernel) rfl rfl rfl (by decide +kernel)
set_option maxRecDepth 65536 in
theorem w_c1 : (Jvm.Cond.code ({ cls := "com/example/resultree/resultree/xdm/NodeName", name := "isNameStartChar", desc := "(I)Z" } : Jvm.MethodName) prog_91_method_13_code (1 : Nat) (Option.some Jvm.ClassFile.FieldType.boolean)).before args0 about1 = true := code_word (m := ⟨2, 0⟩) (meth := k2m0) (c := k2c0) (by decide +kernel) rfl rfl rfl (by decide +kernel)
def codes1 : List Jvm.Cond := [Jvm.Cond.code x code maxLocals ret, Jvm.Cond.code ({ cls := "com/example/resultree/resultree/xdm/NodeName", name := "isNameStartChar", desc := "(I)Z" } : Jvm.MethodName) prog_91_method_13_code (1 : Nat) (Option.some Jvm.ClassFile.FieldType.boolean)]
set_option maxRecDepth 65536 in
theorem codes_eq : words1.filter isCode = codes1 := rfl
theorem w_codes : ∀ c ∈ words1.filter isCode, c.before args0 about1 = true := by
  rw [codes_eq]
  intro c hc
  simp only [codes1, List.mem_cons, List.not_mem_nil, or_false] at hc
  rcases hc with rfl | rfl
  · exact w_c0
  · exact w_c1
set_option maxRecDepth 65536 in
theorem w_t1 : words1.all (fun c => isCode c || c.before args0 about1) = true := by decide +kernel
theorem w_tables : (allAtoms (Jvm.Cond.code x code maxLocals ret :: tables_1)).before args0 about1 = true := by
  rw [allAtoms_all]
  show words1.all (fun c => c.before args0 about1) = true
  refine all_split ?_ w_codes
  rw [w_t1]
set_option maxRecDepth 65536 in
theorem w_case : (Jvm.Cond.and given_1 narrow_1).before args0 about1 = true := by decide +kernel
theorem w_applies : (headSpec (Jvm.Cond.code x code maxLocals ret :: tables_1) room_1).applies x e0.platform about1 = true :=
  (Spec.applies_iff w_frames).mpr ⟨w_running, w_runnable, w_alone, w_named, w_hears, w_ripe, w_room, w_tables⟩
theorem atStart : AtStart classFile x code maxLocals ret World_1 tables_1 room_1 Calls_1 rest_1 Pre_1 launch0 p0 e0 about1 theMethod args0 below0 :=
  ⟨lists_1, trivial, launch0.admits_env _ _ _, launch0.least_env, fairChoices_fair.cas, fairChoices_fair.clock, w_frames, w_args, w_heap, w_applies, trivial, trivial, w_case⟩
end start1
theorem witness_1 : WitnessClaimed_1 := ⟨start1.p0, start1.e0, start1.about1, start1.theMethod, start1.args0, start1.below0, start1.atStart⟩
end Jvm.Pilot.@@N@@
