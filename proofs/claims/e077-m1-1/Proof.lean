import JvmDerived
import JvmDerived.Pilot.@@N@@Statement
import JvmDerived.Pilot.@@N@@Code
set_option linter.unusedVariables false
set_option linter.unusedSimpArgs false
@@BLOCK:NumsL.lean.txt@@
namespace Jvm.RoadKit
open Sem ClassFile Op Lib Jvm.Stand Jvm.Free Jvm.LawKit
section New
variable {p : Program} {l : Launch} {e : Env} {R : Room} {s : State} {m : MethodId} {args : Array Value} {below : List Frame} {meth : Method} {c : Code} {T : State} {locs : List Loc} {cells slots : Nat}
theorem retI (X : Stand p l e R s m args below meth c T locs cells slots) (hx : p.tables.exec = Jvm.exec) {pc : Nat} {Ls : Array Slot} {z : Int32} {rest : List Value} (hret : meth.sig.returnType = some .int) (hd : decode c.code pc = .ok (.ireturn, 1)) {fs : List Frame}
    (hl : ∀ (f : JFrame) (acts : List Action), f.method = m → f.locked = none → f.entered = [] → (doReturn e (T.setTop f) acts (some (.int z))).1 = T.setFrames fs) : Steps p.tables e below (T.setTop (mkF m pc Ls (.int z :: rest))) (T.setFrames fs) := by
  have hm' : T.vm.method? m = some meth := X.method'
  have hn : narrow .int (.int z) = .int z := rfl
  show Steps p.tables e below (T.setTop { method := m, pc := pc, locals := Ls, stack := _ :: rest, locked := none }) _
  jvm_step X.here [X.here.top, hx, hd, hm', hret, hn]
  first | (intro acts; rw [hl _ acts rfl rfl rfl]) | rw [hl _ _ rfl rfl rfl]
  exact Steps.refl _
/-- what a body leaves -/
def own_P (s : State) (Q : Option Value → Heap → List Loc → Prop) (k n : Nat) (s₂ : State) (o : Outcome) : Prop := ∃ v L, o = .returned v ∧ Q v s₂.heap L ∧ FrameEnd s o s₂ L k n
/-- from A the run comes to an end that P allows -/
def own_G (p : Program) (e : Env) (below : List Frame) (P : State → Outcome → Prop) (A : State) : Prop := ∃ s₂ o, Steps p.tables e below A s₂ ∧ s₂.status = .running ∧ Ended s₂ below o ∧ P s₂ o
theorem own_via {P : State → Outcome → Prop} {A A' : State} (h : ∀ t, Steps p.tables e below A' t → Steps p.tables e below A t) (k : own_G p e below P A') : own_G p e below P A := by
  obtain ⟨s₂, o, h1, h2⟩ := k
  exact ⟨s₂, o, h _ h1, h2⟩
theorem own_retN (X : Stand p l e R s m args below meth c T locs cells slots) (hlocks : meth.locks = false) (hx : p.tables.exec = Jvm.exec) {pc : Nat} {Ls : Array Slot} {z : Int32} {t : FieldType} {rest : List Value} {K N : Nat} {Q : Option Value → Heap → List Loc → Prop} (hret : meth.sig.returnType = some t) (ht : t = .boolean ∨ t = .byte ∨ t = .char ∨ t = .short)
    (hd : decode c.code pc = .ok (.ireturn, 1)) (hq : Q (some (.int (nar t z))) T.heap locs) (hK : cells ≤ K) (hN : slots ≤ N) : own_G p e below (own_P s Q K N) (T.setTop (mkF m pc Ls (.int z :: rest))) := by
  obtain ⟨fs, hr, hrun, hended, hW, hsame⟩ := X.leave (v := some (.int (nar t z))) (fun h => by rw [hret] at h; cases h) hlocks
  exact ⟨_, _, retN X hx hret ht hd hr, hrun, hended, _, _, rfl, hq, ⟨_, rfl⟩, hW, hsame.mono hK hN⟩
theorem own_retI (X : Stand p l e R s m args below meth c T locs cells slots) (hlocks : meth.locks = false) (hx : p.tables.exec = Jvm.exec) {pc : Nat} {Ls : Array Slot} {z : Int32} {rest : List Value} {K N : Nat} {Q : Option Value → Heap → List Loc → Prop} (hret : meth.sig.returnType = some .int)
    (hd : decode c.code pc = .ok (.ireturn, 1)) (hq : Q (some (.int z)) T.heap locs) (hK : cells ≤ K) (hN : slots ≤ N) : own_G p e below (own_P s Q K N) (T.setTop (mkF m pc Ls (.int z :: rest))) := by
  obtain ⟨fs, hr, hrun, hended, hW, hsame⟩ := X.leave (v := some (.int z)) (fun h => by rw [hret] at h; cases h) hlocks
  exact ⟨_, _, retI X hx hret hd hr, hrun, hended, _, _, rfl, hq, ⟨_, rfl⟩, hW, hsame.mono hK hN⟩
theorem own_retA (X : Stand p l e R s m args below meth c T locs cells slots) (hlocks : meth.locks = false) (hx : p.tables.exec = Jvm.exec) {pc : Nat} {Ls : Array Slot} {w : Value} {C : String} {rest : List Value} {K N : Nat} {Q : Option Value → Heap → List Loc → Prop} (hret : meth.sig.returnType = some (.object C)) (hw : w.isRef = true)
    (hd : decode c.code pc = .ok (.areturn, 1)) (hq : Q (some w) T.heap locs) (hK : cells ≤ K) (hN : slots ≤ N) : own_G p e below (own_P s Q K N) (T.setTop (mkF m pc Ls (w :: rest))) := by
  obtain ⟨fs, hr, hrun, hended, hW, hsame⟩ := X.leave (v := some w) (fun h => by rw [hret] at h; cases h) hlocks
  have hn : narrow (.object C) w = w := by cases w <;> rfl
  exact ⟨_, _, retOut X hx hret hn (Or.inr (Or.inr (Or.inr (Or.inr ⟨rfl, rfl, hw⟩)))) hd hr, hrun, hended, _, _, rfl, hq, ⟨_, rfl⟩, hW, hsame.mono hK hN⟩
/-- the places written, under one name -/
theorem own_fold {n0 : Nat} (X : Stand p l e R s m args below meth c T locs cells slots) (N : Fr n0 locs) : ∃ LL, Stand p l e R s m args below meth c T LL cells slots ∧ Fr n0 LL := ⟨_, X, N⟩
theorem own_retV (X : Stand p l e R s m args below meth c T locs cells slots) (hlocks : meth.locks = false) (hx : p.tables.exec = Jvm.exec) {pc : Nat} {Ls : Array Slot} {K N : Nat} {Q : Option Value → Heap → List Loc → Prop} (hret : meth.sig.returnType = none)
    (hd : decode c.code pc = .ok (.return_, 1)) (hq : Q none T.heap locs) (hK : cells ≤ K) (hN : slots ≤ N) : own_G p e below (own_P s Q K N) (T.setTop (mkF m pc Ls [])) := by
  obtain ⟨fs, hr, hrun, hended, hW, hsame⟩ := X.leave (v := none) (fun _ => rfl) hlocks
  exact ⟨_, _, X.returnOut hx hret hd hr, hrun, hended, _, _, rfl, hq, ⟨_, rfl⟩, hW, hsame.mono hK hN⟩
end New
end Jvm.RoadKit
namespace Jvm.Pilot.@@N@@
open Jvm Jvm.ClassFile Sem Op Lib Jvm.Free Jvm.Stand Jvm.LawKit Jvm.RoadKit Bundle Jvm.Pilot.@@N@@.Jvm.D
def own_in : List (Int32 × Int32) → Int32 → Int32
  | [], _ => 0
  | q :: r, c => if c < q.1 ∨ q.2 < c then own_in r c else 1
theorem own_in_no {q : Int32 × Int32} {r : List (Int32 × Int32)} {c : Int32} (h : c < q.1 ∨ q.2 < c) : own_in (q :: r) c = own_in r c := if_pos h
theorem own_in_yes {q : Int32 × Int32} {r : List (Int32 × Int32)} {c : Int32} (h1 : ¬ c < q.1) (h2 : ¬ q.2 < c) : own_in (q :: r) c = 1 := if_neg (fun h => h.elim h1 h2)
theorem own_irr (c : Int32) : ¬ c < c := by rw [Int32.lt_iff_toInt_lt]; omega
theorem own_in_eq {a : Int32} {r : List (Int32 × Int32)} {c : Int32} (h : c = a) : own_in ((a, a) :: r) c = 1 := by subst h; exact own_in_yes (own_irr c) (own_irr c)
theorem own_in_ne {a : Int32} {r : List (Int32 × Int32)} {c : Int32} (h : ¬ c = a) : own_in ((a, a) :: r) c = own_in r c := by
  refine own_in_no ?_
  show c < a ∨ a < c
  rw [Int32.lt_iff_toInt_lt, Int32.lt_iff_toInt_lt]
  have : c.toInt ≠ a.toInt := fun e => h (Int32.toInt_inj.mp e)
  omega
def own_st : List (Int32 × Int32) → Int32 → Int32
  | [], _ => 0
  | q :: r, c => if c < q.1 then 0 else if q.2 < c then own_st r c else 1
theorem own_st_lo {q : Int32 × Int32} {r : List (Int32 × Int32)} {c : Int32} (h : c < q.1) : own_st (q :: r) c = 0 := if_pos h
theorem own_st_hi {q : Int32 × Int32} {r : List (Int32 × Int32)} {c : Int32} (h1 : ¬ c < q.1) (h2 : q.2 < c) : own_st (q :: r) c = own_st r c := (if_neg h1).trans (if_pos h2)
theorem own_st_in {q : Int32 × Int32} {r : List (Int32 × Int32)} {c : Int32} (h1 : ¬ c < q.1) (h2 : ¬ q.2 < c) : own_st (q :: r) c = 1 := (if_neg h1).trans (if_neg h2)
theorem own_in_low {c : Int32} : ∀ r : List (Int32 × Int32), (∀ q ∈ r, c < q.1) → own_in r c = 0
  | [], _ => rfl
  | q :: r, h => (own_in_no (Or.inl (h q (List.mem_cons_self ..)))).trans (own_in_low r fun z hz => h z (List.mem_cons_of_mem _ hz))
def own_up : List (Int32 × Int32) → Bool
  | [] => true
  | q :: r => r.all (fun z => decide (q.1 < z.1)) && own_up r
theorem own_both {c : Int32} : ∀ r : List (Int32 × Int32), own_up r = true → own_in r c = own_st r c
  | [], _ => rfl
  | q :: r, h => by
    simp only [own_up, Bool.and_eq_true, List.all_eq_true, decide_eq_true_eq] at h
    by_cases h1 : c < q.1
    · rw [own_st_lo h1]
      refine own_in_low _ fun z hz => ?_
      rcases List.mem_cons.mp hz with rfl | hz
      · exact h1
      · exact Int32.lt_trans h1 (h.1 z hz)
    · by_cases h2 : q.2 < c
      · rw [own_st_hi h1 h2, own_in_no (Or.inr h2)]
        exact own_both r h.2
      · rw [own_st_in h1 h2, own_in_yes h1 h2]
theorem own_at {Z : State} {h : Heap} {a : Addr} {k : ClassId} {n : Int32} {ws : List Int32} {j : Int32} (A : Arv Z h a k .int n (ws.map Value.int) (.int (0 : Int32))) (q : ¬ j < 0 ∧ j < n) :
    ∃ (cl : Cell) (w : Int32), w = ws.getD j.toNatClampNeg 0 ∧ Arr Z h a cl .int ∧ ¬ (j < 0 ∨ cl.slots.size ≤ j.toNatClampNeg) ∧ cl.slots[j.toNatClampNeg]? = some (.int w) := by
  obtain ⟨cl, Ar, q1, S, N, H, G⟩ := A
  have hin := inb_of S q
  refine ⟨cl, _, rfl, Ar, hin, ?_⟩
  have hlt : j.toNatClampNeg < cl.slots.size := Nat.lt_of_not_le fun e => hin (Or.inr e)
  rw [H _ hlt]
  simp only [List.getD_eq_getElem?_getD, List.getElem?_map]
  cases ws[j.toNatClampNeg]? <;> rfl

def own_R1 : List (Int32 × Int32) := [(65, 90), (95, 95), (97, 122), (192, 214), (216, 246), (248, 767), (880, 893), (895, 8191), (8204, 8205), (8304, 8591), (11264, 12271), (12289, 55295), (63744, 64975), (65008, 65533), (65536, 983039)]
theorem d1_0 : decode prog_209_method_8_code 0 = .ok (.iload_n 0, 1) := by decide +kernel
theorem d1_1 : decode prog_209_method_8_code 1 = .ok (.bipush 65, 2) := by decide +kernel
theorem d1_3 : decode prog_209_method_8_code 3 = .ok (.if_icmp .lt 9, 3) := by decide +kernel
theorem d1_6 : decode prog_209_method_8_code 6 = .ok (.iload_n 0, 1) := by decide +kernel
theorem d1_7 : decode prog_209_method_8_code 7 = .ok (.bipush 90, 2) := by decide +kernel
theorem d1_9 : decode prog_209_method_8_code 9 = .ok (.if_icmp .le 182, 3) := by decide +kernel
theorem d1_12 : decode prog_209_method_8_code 12 = .ok (.iload_n 0, 1) := by decide +kernel
theorem d1_13 : decode prog_209_method_8_code 13 = .ok (.bipush 95, 2) := by decide +kernel
theorem d1_15 : decode prog_209_method_8_code 15 = .ok (.if_icmp .eq 176, 3) := by decide +kernel
theorem d1_18 : decode prog_209_method_8_code 18 = .ok (.iload_n 0, 1) := by decide +kernel
theorem d1_19 : decode prog_209_method_8_code 19 = .ok (.bipush 97, 2) := by decide +kernel
theorem d1_21 : decode prog_209_method_8_code 21 = .ok (.if_icmp .lt 9, 3) := by decide +kernel
theorem d1_24 : decode prog_209_method_8_code 24 = .ok (.iload_n 0, 1) := by decide +kernel
theorem d1_25 : decode prog_209_method_8_code 25 = .ok (.bipush 122, 2) := by decide +kernel
theorem d1_27 : decode prog_209_method_8_code 27 = .ok (.if_icmp .le 164, 3) := by decide +kernel
theorem d1_30 : decode prog_209_method_8_code 30 = .ok (.iload_n 0, 1) := by decide +kernel
theorem d1_31 : decode prog_209_method_8_code 31 = .ok (.sipush 192, 3) := by decide +kernel
theorem d1_34 : decode prog_209_method_8_code 34 = .ok (.if_icmp .lt 10, 3) := by decide +kernel
theorem d1_37 : decode prog_209_method_8_code 37 = .ok (.iload_n 0, 1) := by decide +kernel
theorem d1_38 : decode prog_209_method_8_code 38 = .ok (.sipush 214, 3) := by decide +kernel
theorem d1_41 : decode prog_209_method_8_code 41 = .ok (.if_icmp .le 150, 3) := by decide +kernel
theorem d1_44 : decode prog_209_method_8_code 44 = .ok (.iload_n 0, 1) := by decide +kernel
theorem d1_45 : decode prog_209_method_8_code 45 = .ok (.sipush 216, 3) := by decide +kernel
theorem d1_48 : decode prog_209_method_8_code 48 = .ok (.if_icmp .lt 10, 3) := by decide +kernel
theorem d1_51 : decode prog_209_method_8_code 51 = .ok (.iload_n 0, 1) := by decide +kernel
theorem d1_52 : decode prog_209_method_8_code 52 = .ok (.sipush 246, 3) := by decide +kernel
theorem d1_55 : decode prog_209_method_8_code 55 = .ok (.if_icmp .le 136, 3) := by decide +kernel
theorem d1_58 : decode prog_209_method_8_code 58 = .ok (.iload_n 0, 1) := by decide +kernel
theorem d1_59 : decode prog_209_method_8_code 59 = .ok (.sipush 248, 3) := by decide +kernel
theorem d1_62 : decode prog_209_method_8_code 62 = .ok (.if_icmp .lt 10, 3) := by decide +kernel
theorem d1_65 : decode prog_209_method_8_code 65 = .ok (.iload_n 0, 1) := by decide +kernel
theorem d1_66 : decode prog_209_method_8_code 66 = .ok (.sipush 767, 3) := by decide +kernel
theorem d1_69 : decode prog_209_method_8_code 69 = .ok (.if_icmp .le 122, 3) := by decide +kernel
theorem d1_72 : decode prog_209_method_8_code 72 = .ok (.iload_n 0, 1) := by decide +kernel
theorem d1_73 : decode prog_209_method_8_code 73 = .ok (.sipush 880, 3) := by decide +kernel
theorem d1_76 : decode prog_209_method_8_code 76 = .ok (.if_icmp .lt 10, 3) := by decide +kernel
theorem d1_79 : decode prog_209_method_8_code 79 = .ok (.iload_n 0, 1) := by decide +kernel
theorem d1_80 : decode prog_209_method_8_code 80 = .ok (.sipush 893, 3) := by decide +kernel
theorem d1_83 : decode prog_209_method_8_code 83 = .ok (.if_icmp .le 108, 3) := by decide +kernel
theorem d1_86 : decode prog_209_method_8_code 86 = .ok (.iload_n 0, 1) := by decide +kernel
theorem d1_87 : decode prog_209_method_8_code 87 = .ok (.sipush 895, 3) := by decide +kernel
theorem d1_90 : decode prog_209_method_8_code 90 = .ok (.if_icmp .lt 10, 3) := by decide +kernel
theorem d1_93 : decode prog_209_method_8_code 93 = .ok (.iload_n 0, 1) := by decide +kernel
theorem d1_94 : decode prog_209_method_8_code 94 = .ok (.sipush 8191, 3) := by decide +kernel
theorem d1_97 : decode prog_209_method_8_code 97 = .ok (.if_icmp .le 94, 3) := by decide +kernel
theorem d1_100 : decode prog_209_method_8_code 100 = .ok (.iload_n 0, 1) := by decide +kernel
theorem d1_101 : decode prog_209_method_8_code 101 = .ok (.sipush 8204, 3) := by decide +kernel
theorem d1_104 : decode prog_209_method_8_code 104 = .ok (.if_icmp .lt 10, 3) := by decide +kernel
theorem d1_107 : decode prog_209_method_8_code 107 = .ok (.iload_n 0, 1) := by decide +kernel
theorem d1_108 : decode prog_209_method_8_code 108 = .ok (.sipush 8205, 3) := by decide +kernel
theorem d1_111 : decode prog_209_method_8_code 111 = .ok (.if_icmp .le 80, 3) := by decide +kernel
theorem d1_114 : decode prog_209_method_8_code 114 = .ok (.iload_n 0, 1) := by decide +kernel
theorem d1_115 : decode prog_209_method_8_code 115 = .ok (.sipush 8304, 3) := by decide +kernel
theorem d1_118 : decode prog_209_method_8_code 118 = .ok (.if_icmp .lt 10, 3) := by decide +kernel
theorem d1_121 : decode prog_209_method_8_code 121 = .ok (.iload_n 0, 1) := by decide +kernel
theorem d1_122 : decode prog_209_method_8_code 122 = .ok (.sipush 8591, 3) := by decide +kernel
theorem d1_125 : decode prog_209_method_8_code 125 = .ok (.if_icmp .le 66, 3) := by decide +kernel
theorem d1_128 : decode prog_209_method_8_code 128 = .ok (.iload_n 0, 1) := by decide +kernel
theorem d1_129 : decode prog_209_method_8_code 129 = .ok (.sipush 11264, 3) := by decide +kernel
theorem d1_132 : decode prog_209_method_8_code 132 = .ok (.if_icmp .lt 10, 3) := by decide +kernel
theorem d1_135 : decode prog_209_method_8_code 135 = .ok (.iload_n 0, 1) := by decide +kernel
theorem d1_136 : decode prog_209_method_8_code 136 = .ok (.sipush 12271, 3) := by decide +kernel
theorem d1_139 : decode prog_209_method_8_code 139 = .ok (.if_icmp .le 52, 3) := by decide +kernel
theorem d1_142 : decode prog_209_method_8_code 142 = .ok (.iload_n 0, 1) := by decide +kernel
theorem d1_143 : decode prog_209_method_8_code 143 = .ok (.sipush 12289, 3) := by decide +kernel
theorem d1_146 : decode prog_209_method_8_code 146 = .ok (.if_icmp .lt 9, 3) := by decide +kernel
theorem d1_149 : decode prog_209_method_8_code 149 = .ok (.iload_n 0, 1) := by decide +kernel
theorem d1_150 : decode prog_209_method_8_code 150 = .ok (.ldc 75, 2) := by decide +kernel
theorem d1_152 : decode prog_209_method_8_code 152 = .ok (.if_icmp .le 39, 3) := by decide +kernel
theorem d1_155 : decode prog_209_method_8_code 155 = .ok (.iload_n 0, 1) := by decide +kernel
theorem d1_156 : decode prog_209_method_8_code 156 = .ok (.ldc 76, 2) := by decide +kernel
theorem d1_158 : decode prog_209_method_8_code 158 = .ok (.if_icmp .lt 9, 3) := by decide +kernel
theorem d1_161 : decode prog_209_method_8_code 161 = .ok (.iload_n 0, 1) := by decide +kernel
theorem d1_162 : decode prog_209_method_8_code 162 = .ok (.ldc 77, 2) := by decide +kernel
theorem d1_164 : decode prog_209_method_8_code 164 = .ok (.if_icmp .le 27, 3) := by decide +kernel
theorem d1_167 : decode prog_209_method_8_code 167 = .ok (.iload_n 0, 1) := by decide +kernel
theorem d1_168 : decode prog_209_method_8_code 168 = .ok (.ldc 78, 2) := by decide +kernel
theorem d1_170 : decode prog_209_method_8_code 170 = .ok (.if_icmp .lt 9, 3) := by decide +kernel
theorem d1_173 : decode prog_209_method_8_code 173 = .ok (.iload_n 0, 1) := by decide +kernel
theorem d1_174 : decode prog_209_method_8_code 174 = .ok (.ldc 79, 2) := by decide +kernel
theorem d1_176 : decode prog_209_method_8_code 176 = .ok (.if_icmp .le 15, 3) := by decide +kernel
theorem d1_179 : decode prog_209_method_8_code 179 = .ok (.iload_n 0, 1) := by decide +kernel
theorem d1_180 : decode prog_209_method_8_code 180 = .ok (.ldc 80, 2) := by decide +kernel
theorem d1_182 : decode prog_209_method_8_code 182 = .ok (.if_icmp .lt 13, 3) := by decide +kernel
theorem d1_185 : decode prog_209_method_8_code 185 = .ok (.iload_n 0, 1) := by decide +kernel
theorem d1_186 : decode prog_209_method_8_code 186 = .ok (.ldc 81, 2) := by decide +kernel
theorem d1_188 : decode prog_209_method_8_code 188 = .ok (.if_icmp .gt 7, 3) := by decide +kernel
theorem d1_191 : decode prog_209_method_8_code 191 = .ok (.iconst 1, 1) := by decide +kernel
theorem d1_192 : decode prog_209_method_8_code 192 = .ok (.goto 4, 3) := by decide +kernel
theorem d1_195 : decode prog_209_method_8_code 195 = .ok (.iconst 0, 1) := by decide +kernel
theorem d1_196 : decode prog_209_method_8_code 196 = .ok (.ireturn, 1) := by decide +kernel
theorem pn_1 : plainName "com/example/txq/txq/xdm/Name" = true := by first | (simp [plainName, overriddenIn]; done) | decide +kernel
theorem ef_1 (m : MethodId) (p0 : Int32) : entryFrame m #[(.int p0)] 1 = mkF m 0 #[.val (.int p0)] [] := by first | (simp [entryFrame, mkF, argsToLocals, Value.category]; done) | rfl
def Q1 (Z : State) (p0 : Int32)  (h0 : Heap) (n0 : Nat) (v : Option Value) (h : Heap) (L : List Loc) : Prop := v = some (.int (own_in own_R1 p0)) ∧ Fr n0 L ∧ h = h0
set_option maxRecDepth 65536 in
set_option maxHeartbeats 40000000 in
theorem rm1 (l : Launch) (Z : State) (a0 : Array Value) (hw : ∀ d ∈ tables_1, d.before a0 Z = true) (ws : List Jvm.Cond) (p0 : Int32)  (h0 : Heap) (n0 : Nat) (Z0 : n0 ≤ h0.size)  :
    MetFree l (⟨"com/example/txq/txq/xdm/Name", "isNameStart", "(I)Z"⟩ : MethodName) (head1 (Jvm.Cond.code (⟨"com/example/txq/txq/xdm/Name", "isNameStart", "(I)Z"⟩ : MethodName) prog_209_method_8_code 1 (some .boolean) :: ws) ({ frames := 0, cells := 0, slots := 0, locals := 0 } : Room)) (fun a U => a = #[(.int p0)] ∧ Z.Warmed39 U.vm ∧ U.heap = h0) (fun _ _ _ _ _ => True) (fun _ U o U' => ∃ v L, o = .returned v ∧ Q1 Z p0 h0 n0 v U'.heap L ∧ FrameEnd U o U' L ({ frames := 0, cells := 0, slots := 0, locals := 0 } : Room).cells ({ frames := 0, cells := 0, slots := 0, locals := 0 } : Room).slots) := by
  refine MetFree.of_bodySF (plainFor_of_name pn_1) hisR ?_
  intro p e s m args below meth c s₁ Bd hml0 hP hK
  obtain ⟨rfl, hZ, hh⟩ := hP
  have hx := Bd.exec
  have hby := Bd.bytes
  have hml : c.maxLocals = 1 := hml0
  have hown : s.vm.findClass "com/example/txq/txq/xdm/Name" = some m.cls := findClass_of_methodNamed Bd.named
  have X0 : Stand p l e ({ frames := 0, cells := 0, slots := 0, locals := 0 } : Room) s m #[(.int p0)] below meth c s₁ [] 0 0 := Stand.of_body Bd
  have e0 : s₁.heap = h0 := by rw [← hh, Bd.state]; rfl
  have N0 := Fr.nil n0
  show own_G p e below (own_P s (Q1 Z p0 h0 n0) 0 0) _
  refine own_via (A' := s₁.setTop (mkF m 0 #[.val (.int p0)] [])) (fun t k => castTop (ef_1 m p0) k) ?_
  have j191 : own_in own_R1 p0 = 1 → own_G p e below (own_P s (Q1 Z p0 h0 n0) 0 0) (s₁.setTop (mkF m 191 #[.val (.int p0)] [])) := fun hv => by
    refine own_via (A' := s₁.setTop (mkF m 196 #[.val (.int p0)] [(.int (1 : Int32))])) (fun target kt => ?_) ?_
    · show Steps p.tables e below (s₁.setTop (mkF m 191 #[.val (.int p0)] [])) _
      refine XS.iconst X0.here hx rfl (hb hby d1_191) ?_
      show Steps p.tables e below (s₁.setTop (mkF m 192 #[.val (.int p0)] [(.int (1 : Int32))])) _
      refine XS.goto X0.here hx rfl (pc0 := 192) (pc' := 196) rfl (hb hby d1_192) (by decide) (by decide) ?_
      exact kt
    exact own_retN X0 Bd.notSynchronized hx (t := .boolean) Bd.returns (by simp) (hb hby d1_196) (show Q1 Z p0 h0 n0 _ _ _ from ⟨by rw [hv] <;> rfl, N0, e0⟩) (by decide) (by decide)
  have j195 : own_in own_R1 p0 = 0 → own_G p e below (own_P s (Q1 Z p0 h0 n0) 0 0) (s₁.setTop (mkF m 195 #[.val (.int p0)] [])) := fun hv => by
    refine own_via (A' := s₁.setTop (mkF m 196 #[.val (.int p0)] [(.int (0 : Int32))])) (fun target kt => ?_) ?_
    · show Steps p.tables e below (s₁.setTop (mkF m 195 #[.val (.int p0)] [])) _
      refine XS.iconst X0.here hx rfl (hb hby d1_195) ?_
      exact kt
    exact own_retN X0 Bd.notSynchronized hx (t := .boolean) Bd.returns (by simp) (hb hby d1_196) (show Q1 Z p0 h0 n0 _ _ _ from ⟨by rw [hv] <;> rfl, N0, e0⟩) (by decide) (by decide)
  have j179 : own_in own_R1 p0 = own_in [(65536, 983039)] p0 → own_G p e below (own_P s (Q1 Z p0 h0 n0) 0 0) (s₁.setTop (mkF m 179 #[.val (.int p0)] [])) := fun hv => by
    refine own_via (A' := s₁.setTop (mkF m 182 #[.val (.int p0)] [(.int (65536 : Int32)), (.int p0)])) (fun target kt => ?_) ?_
    · show Steps p.tables e below (s₁.setTop (mkF m 179 #[.val (.int p0)] [])) _
      refine XS.iloadN X0.here hx rfl (hb hby d1_179) rfl ?_
      show Steps p.tables e below (s₁.setTop (mkF m 180 #[.val (.int p0)] [(.int p0)])) _
      refine X0.ldcInt hx hown (mvT hZ (hw _ (List.mem_of_getElem? (i := 15) rfl))) (g := (mkF m 180 #[.val (.int p0)] [(.int p0)])) rfl (hb hby d1_180) _ ?_
      exact kt
    by_cases hc182 : p0 < (65536 : Int32)
    · refine own_via (A' := s₁.setTop (mkF m 195 #[.val (.int p0)] [])) (fun target kt => XS.icmpYes X0.here hx rfl (pc0 := 182) (pc' := 195) rfl (hb hby d1_182) rfl (tlt hc182).1 (by decide) (by decide) kt) ?_
      exact j195 (hv.trans (own_in_no (Or.inl hc182)))
    · refine own_via (A' := s₁.setTop (mkF m 185 #[.val (.int p0)] [])) (fun target kt => XS.icmpNo X0.here hx rfl (hb hby d1_182) rfl (flt hc182).1 kt) ?_
      refine own_via (A' := s₁.setTop (mkF m 188 #[.val (.int p0)] [(.int (983039 : Int32)), (.int p0)])) (fun target kt => ?_) ?_
      · show Steps p.tables e below (s₁.setTop (mkF m 185 #[.val (.int p0)] [])) _
        refine XS.iloadN X0.here hx rfl (hb hby d1_185) rfl ?_
        show Steps p.tables e below (s₁.setTop (mkF m 186 #[.val (.int p0)] [(.int p0)])) _
        refine X0.ldcInt hx hown (mvT hZ (hw _ (List.mem_of_getElem? (i := 23) rfl))) (g := (mkF m 186 #[.val (.int p0)] [(.int p0)])) rfl (hb hby d1_186) _ ?_
        exact kt
      by_cases hc188 : (983039 : Int32) < p0
      · refine own_via (A' := s₁.setTop (mkF m 195 #[.val (.int p0)] [])) (fun target kt => XS.icmpYes X0.here hx rfl (pc0 := 188) (pc' := 195) rfl (hb hby d1_188) rfl (tlt hc188).2.2.1 (by decide) (by decide) kt) ?_
        exact j195 (hv.trans (own_in_no (Or.inr hc188)))
      · refine own_via (A' := s₁.setTop (mkF m 191 #[.val (.int p0)] [])) (fun target kt => XS.icmpNo X0.here hx rfl (hb hby d1_188) rfl (flt hc188).2.2.1 kt) ?_
        exact j191 (hv.trans (own_in_yes hc182 hc188))
  have j167 : own_in own_R1 p0 = own_in [(65008, 65533), (65536, 983039)] p0 → own_G p e below (own_P s (Q1 Z p0 h0 n0) 0 0) (s₁.setTop (mkF m 167 #[.val (.int p0)] [])) := fun hv => by
    refine own_via (A' := s₁.setTop (mkF m 170 #[.val (.int p0)] [(.int (65008 : Int32)), (.int p0)])) (fun target kt => ?_) ?_
    · show Steps p.tables e below (s₁.setTop (mkF m 167 #[.val (.int p0)] [])) _
      refine XS.iloadN X0.here hx rfl (hb hby d1_167) rfl ?_
      show Steps p.tables e below (s₁.setTop (mkF m 168 #[.val (.int p0)] [(.int p0)])) _
      refine X0.ldcInt hx hown (mvT hZ (hw _ (List.mem_of_getElem? (i := 14) rfl))) (g := (mkF m 168 #[.val (.int p0)] [(.int p0)])) rfl (hb hby d1_168) _ ?_
      exact kt
    by_cases hc170 : p0 < (65008 : Int32)
    · refine own_via (A' := s₁.setTop (mkF m 179 #[.val (.int p0)] [])) (fun target kt => XS.icmpYes X0.here hx rfl (pc0 := 170) (pc' := 179) rfl (hb hby d1_170) rfl (tlt hc170).1 (by decide) (by decide) kt) ?_
      exact j179 (hv.trans (own_in_no (Or.inl hc170)))
    · refine own_via (A' := s₁.setTop (mkF m 173 #[.val (.int p0)] [])) (fun target kt => XS.icmpNo X0.here hx rfl (hb hby d1_170) rfl (flt hc170).1 kt) ?_
      refine own_via (A' := s₁.setTop (mkF m 176 #[.val (.int p0)] [(.int (65533 : Int32)), (.int p0)])) (fun target kt => ?_) ?_
      · show Steps p.tables e below (s₁.setTop (mkF m 173 #[.val (.int p0)] [])) _
        refine XS.iloadN X0.here hx rfl (hb hby d1_173) rfl ?_
        show Steps p.tables e below (s₁.setTop (mkF m 174 #[.val (.int p0)] [(.int p0)])) _
        refine X0.ldcInt hx hown (mvT hZ (hw _ (List.mem_of_getElem? (i := 22) rfl))) (g := (mkF m 174 #[.val (.int p0)] [(.int p0)])) rfl (hb hby d1_174) _ ?_
        exact kt
      by_cases hc176 : (65533 : Int32) < p0
      · refine own_via (A' := s₁.setTop (mkF m 179 #[.val (.int p0)] [])) (fun target kt => XS.icmpNo X0.here hx rfl (hb hby d1_176) rfl (tlt hc176).2.2.2 kt) ?_
        exact j179 (hv.trans (own_in_no (Or.inr hc176)))
      · refine own_via (A' := s₁.setTop (mkF m 191 #[.val (.int p0)] [])) (fun target kt => XS.icmpYes X0.here hx rfl (pc0 := 176) (pc' := 191) rfl (hb hby d1_176) rfl (flt hc176).2.2.2 (by decide) (by decide) kt) ?_
        exact j191 (hv.trans (own_in_yes hc170 hc176))
  have j155 : own_in own_R1 p0 = own_in [(63744, 64975), (65008, 65533), (65536, 983039)] p0 → own_G p e below (own_P s (Q1 Z p0 h0 n0) 0 0) (s₁.setTop (mkF m 155 #[.val (.int p0)] [])) := fun hv => by
    refine own_via (A' := s₁.setTop (mkF m 158 #[.val (.int p0)] [(.int (63744 : Int32)), (.int p0)])) (fun target kt => ?_) ?_
    · show Steps p.tables e below (s₁.setTop (mkF m 155 #[.val (.int p0)] [])) _
      refine XS.iloadN X0.here hx rfl (hb hby d1_155) rfl ?_
      show Steps p.tables e below (s₁.setTop (mkF m 156 #[.val (.int p0)] [(.int p0)])) _
      refine X0.ldcInt hx hown (mvT hZ (hw _ (List.mem_of_getElem? (i := 13) rfl))) (g := (mkF m 156 #[.val (.int p0)] [(.int p0)])) rfl (hb hby d1_156) _ ?_
      exact kt
    by_cases hc158 : p0 < (63744 : Int32)
    · refine own_via (A' := s₁.setTop (mkF m 167 #[.val (.int p0)] [])) (fun target kt => XS.icmpYes X0.here hx rfl (pc0 := 158) (pc' := 167) rfl (hb hby d1_158) rfl (tlt hc158).1 (by decide) (by decide) kt) ?_
      exact j167 (hv.trans (own_in_no (Or.inl hc158)))
    · refine own_via (A' := s₁.setTop (mkF m 161 #[.val (.int p0)] [])) (fun target kt => XS.icmpNo X0.here hx rfl (hb hby d1_158) rfl (flt hc158).1 kt) ?_
      refine own_via (A' := s₁.setTop (mkF m 164 #[.val (.int p0)] [(.int (64975 : Int32)), (.int p0)])) (fun target kt => ?_) ?_
      · show Steps p.tables e below (s₁.setTop (mkF m 161 #[.val (.int p0)] [])) _
        refine XS.iloadN X0.here hx rfl (hb hby d1_161) rfl ?_
        show Steps p.tables e below (s₁.setTop (mkF m 162 #[.val (.int p0)] [(.int p0)])) _
        refine X0.ldcInt hx hown (mvT hZ (hw _ (List.mem_of_getElem? (i := 21) rfl))) (g := (mkF m 162 #[.val (.int p0)] [(.int p0)])) rfl (hb hby d1_162) _ ?_
        exact kt
      by_cases hc164 : (64975 : Int32) < p0
      · refine own_via (A' := s₁.setTop (mkF m 167 #[.val (.int p0)] [])) (fun target kt => XS.icmpNo X0.here hx rfl (hb hby d1_164) rfl (tlt hc164).2.2.2 kt) ?_
        exact j167 (hv.trans (own_in_no (Or.inr hc164)))
      · refine own_via (A' := s₁.setTop (mkF m 191 #[.val (.int p0)] [])) (fun target kt => XS.icmpYes X0.here hx rfl (pc0 := 164) (pc' := 191) rfl (hb hby d1_164) rfl (flt hc164).2.2.2 (by decide) (by decide) kt) ?_
        exact j191 (hv.trans (own_in_yes hc158 hc164))
  have j142 : own_in own_R1 p0 = own_in [(12289, 55295), (63744, 64975), (65008, 65533), (65536, 983039)] p0 → own_G p e below (own_P s (Q1 Z p0 h0 n0) 0 0) (s₁.setTop (mkF m 142 #[.val (.int p0)] [])) := fun hv => by
    refine own_via (A' := s₁.setTop (mkF m 146 #[.val (.int p0)] [(.int (12289 : Int32)), (.int p0)])) (fun target kt => ?_) ?_
    · show Steps p.tables e below (s₁.setTop (mkF m 142 #[.val (.int p0)] [])) _
      refine XS.iloadN X0.here hx rfl (hb hby d1_142) rfl ?_
      show Steps p.tables e below (s₁.setTop (mkF m 143 #[.val (.int p0)] [(.int p0)])) _
      refine XS.sipush X0.here hx rfl (hb hby d1_143) ?_
      exact kt
    by_cases hc146 : p0 < (12289 : Int32)
    · refine own_via (A' := s₁.setTop (mkF m 155 #[.val (.int p0)] [])) (fun target kt => XS.icmpYes X0.here hx rfl (pc0 := 146) (pc' := 155) rfl (hb hby d1_146) rfl (tlt hc146).1 (by decide) (by decide) kt) ?_
      exact j155 (hv.trans (own_in_no (Or.inl hc146)))
    · refine own_via (A' := s₁.setTop (mkF m 149 #[.val (.int p0)] [])) (fun target kt => XS.icmpNo X0.here hx rfl (hb hby d1_146) rfl (flt hc146).1 kt) ?_
      refine own_via (A' := s₁.setTop (mkF m 152 #[.val (.int p0)] [(.int (55295 : Int32)), (.int p0)])) (fun target kt => ?_) ?_
      · show Steps p.tables e below (s₁.setTop (mkF m 149 #[.val (.int p0)] [])) _
        refine XS.iloadN X0.here hx rfl (hb hby d1_149) rfl ?_
        show Steps p.tables e below (s₁.setTop (mkF m 150 #[.val (.int p0)] [(.int p0)])) _
        refine X0.ldcInt hx hown (mvT hZ (hw _ (List.mem_of_getElem? (i := 20) rfl))) (g := (mkF m 150 #[.val (.int p0)] [(.int p0)])) rfl (hb hby d1_150) _ ?_
        exact kt
      by_cases hc152 : (55295 : Int32) < p0
      · refine own_via (A' := s₁.setTop (mkF m 155 #[.val (.int p0)] [])) (fun target kt => XS.icmpNo X0.here hx rfl (hb hby d1_152) rfl (tlt hc152).2.2.2 kt) ?_
        exact j155 (hv.trans (own_in_no (Or.inr hc152)))
      · refine own_via (A' := s₁.setTop (mkF m 191 #[.val (.int p0)] [])) (fun target kt => XS.icmpYes X0.here hx rfl (pc0 := 152) (pc' := 191) rfl (hb hby d1_152) rfl (flt hc152).2.2.2 (by decide) (by decide) kt) ?_
        exact j191 (hv.trans (own_in_yes hc146 hc152))
  have j128 : own_in own_R1 p0 = own_in [(11264, 12271), (12289, 55295), (63744, 64975), (65008, 65533), (65536, 983039)] p0 → own_G p e below (own_P s (Q1 Z p0 h0 n0) 0 0) (s₁.setTop (mkF m 128 #[.val (.int p0)] [])) := fun hv => by
    refine own_via (A' := s₁.setTop (mkF m 132 #[.val (.int p0)] [(.int (11264 : Int32)), (.int p0)])) (fun target kt => ?_) ?_
    · show Steps p.tables e below (s₁.setTop (mkF m 128 #[.val (.int p0)] [])) _
      refine XS.iloadN X0.here hx rfl (hb hby d1_128) rfl ?_
      show Steps p.tables e below (s₁.setTop (mkF m 129 #[.val (.int p0)] [(.int p0)])) _
      refine XS.sipush X0.here hx rfl (hb hby d1_129) ?_
      exact kt
    by_cases hc132 : p0 < (11264 : Int32)
    · refine own_via (A' := s₁.setTop (mkF m 142 #[.val (.int p0)] [])) (fun target kt => XS.icmpYes X0.here hx rfl (pc0 := 132) (pc' := 142) rfl (hb hby d1_132) rfl (tlt hc132).1 (by decide) (by decide) kt) ?_
      exact j142 (hv.trans (own_in_no (Or.inl hc132)))
    · refine own_via (A' := s₁.setTop (mkF m 135 #[.val (.int p0)] [])) (fun target kt => XS.icmpNo X0.here hx rfl (hb hby d1_132) rfl (flt hc132).1 kt) ?_
      refine own_via (A' := s₁.setTop (mkF m 139 #[.val (.int p0)] [(.int (12271 : Int32)), (.int p0)])) (fun target kt => ?_) ?_
      · show Steps p.tables e below (s₁.setTop (mkF m 135 #[.val (.int p0)] [])) _
        refine XS.iloadN X0.here hx rfl (hb hby d1_135) rfl ?_
        show Steps p.tables e below (s₁.setTop (mkF m 136 #[.val (.int p0)] [(.int p0)])) _
        refine XS.sipush X0.here hx rfl (hb hby d1_136) ?_
        exact kt
      by_cases hc139 : (12271 : Int32) < p0
      · refine own_via (A' := s₁.setTop (mkF m 142 #[.val (.int p0)] [])) (fun target kt => XS.icmpNo X0.here hx rfl (hb hby d1_139) rfl (tlt hc139).2.2.2 kt) ?_
        exact j142 (hv.trans (own_in_no (Or.inr hc139)))
      · refine own_via (A' := s₁.setTop (mkF m 191 #[.val (.int p0)] [])) (fun target kt => XS.icmpYes X0.here hx rfl (pc0 := 139) (pc' := 191) rfl (hb hby d1_139) rfl (flt hc139).2.2.2 (by decide) (by decide) kt) ?_
        exact j191 (hv.trans (own_in_yes hc132 hc139))
  have j114 : own_in own_R1 p0 = own_in [(8304, 8591), (11264, 12271), (12289, 55295), (63744, 64975), (65008, 65533), (65536, 983039)] p0 → own_G p e below (own_P s (Q1 Z p0 h0 n0) 0 0) (s₁.setTop (mkF m 114 #[.val (.int p0)] [])) := fun hv => by
    refine own_via (A' := s₁.setTop (mkF m 118 #[.val (.int p0)] [(.int (8304 : Int32)), (.int p0)])) (fun target kt => ?_) ?_
    · show Steps p.tables e below (s₁.setTop (mkF m 114 #[.val (.int p0)] [])) _
      refine XS.iloadN X0.here hx rfl (hb hby d1_114) rfl ?_
      show Steps p.tables e below (s₁.setTop (mkF m 115 #[.val (.int p0)] [(.int p0)])) _
      refine XS.sipush X0.here hx rfl (hb hby d1_115) ?_
      exact kt
    by_cases hc118 : p0 < (8304 : Int32)
    · refine own_via (A' := s₁.setTop (mkF m 128 #[.val (.int p0)] [])) (fun target kt => XS.icmpYes X0.here hx rfl (pc0 := 118) (pc' := 128) rfl (hb hby d1_118) rfl (tlt hc118).1 (by decide) (by decide) kt) ?_
      exact j128 (hv.trans (own_in_no (Or.inl hc118)))
    · refine own_via (A' := s₁.setTop (mkF m 121 #[.val (.int p0)] [])) (fun target kt => XS.icmpNo X0.here hx rfl (hb hby d1_118) rfl (flt hc118).1 kt) ?_
      refine own_via (A' := s₁.setTop (mkF m 125 #[.val (.int p0)] [(.int (8591 : Int32)), (.int p0)])) (fun target kt => ?_) ?_
      · show Steps p.tables e below (s₁.setTop (mkF m 121 #[.val (.int p0)] [])) _
        refine XS.iloadN X0.here hx rfl (hb hby d1_121) rfl ?_
        show Steps p.tables e below (s₁.setTop (mkF m 122 #[.val (.int p0)] [(.int p0)])) _
        refine XS.sipush X0.here hx rfl (hb hby d1_122) ?_
        exact kt
      by_cases hc125 : (8591 : Int32) < p0
      · refine own_via (A' := s₁.setTop (mkF m 128 #[.val (.int p0)] [])) (fun target kt => XS.icmpNo X0.here hx rfl (hb hby d1_125) rfl (tlt hc125).2.2.2 kt) ?_
        exact j128 (hv.trans (own_in_no (Or.inr hc125)))
      · refine own_via (A' := s₁.setTop (mkF m 191 #[.val (.int p0)] [])) (fun target kt => XS.icmpYes X0.here hx rfl (pc0 := 125) (pc' := 191) rfl (hb hby d1_125) rfl (flt hc125).2.2.2 (by decide) (by decide) kt) ?_
        exact j191 (hv.trans (own_in_yes hc118 hc125))
  have j100 : own_in own_R1 p0 = own_in [(8204, 8205), (8304, 8591), (11264, 12271), (12289, 55295), (63744, 64975), (65008, 65533), (65536, 983039)] p0 → own_G p e below (own_P s (Q1 Z p0 h0 n0) 0 0) (s₁.setTop (mkF m 100 #[.val (.int p0)] [])) := fun hv => by
    refine own_via (A' := s₁.setTop (mkF m 104 #[.val (.int p0)] [(.int (8204 : Int32)), (.int p0)])) (fun target kt => ?_) ?_
    · show Steps p.tables e below (s₁.setTop (mkF m 100 #[.val (.int p0)] [])) _
      refine XS.iloadN X0.here hx rfl (hb hby d1_100) rfl ?_
      show Steps p.tables e below (s₁.setTop (mkF m 101 #[.val (.int p0)] [(.int p0)])) _
      refine XS.sipush X0.here hx rfl (hb hby d1_101) ?_
      exact kt
    by_cases hc104 : p0 < (8204 : Int32)
    · refine own_via (A' := s₁.setTop (mkF m 114 #[.val (.int p0)] [])) (fun target kt => XS.icmpYes X0.here hx rfl (pc0 := 104) (pc' := 114) rfl (hb hby d1_104) rfl (tlt hc104).1 (by decide) (by decide) kt) ?_
      exact j114 (hv.trans (own_in_no (Or.inl hc104)))
    · refine own_via (A' := s₁.setTop (mkF m 107 #[.val (.int p0)] [])) (fun target kt => XS.icmpNo X0.here hx rfl (hb hby d1_104) rfl (flt hc104).1 kt) ?_
      refine own_via (A' := s₁.setTop (mkF m 111 #[.val (.int p0)] [(.int (8205 : Int32)), (.int p0)])) (fun target kt => ?_) ?_
      · show Steps p.tables e below (s₁.setTop (mkF m 107 #[.val (.int p0)] [])) _
        refine XS.iloadN X0.here hx rfl (hb hby d1_107) rfl ?_
        show Steps p.tables e below (s₁.setTop (mkF m 108 #[.val (.int p0)] [(.int p0)])) _
        refine XS.sipush X0.here hx rfl (hb hby d1_108) ?_
        exact kt
      by_cases hc111 : (8205 : Int32) < p0
      · refine own_via (A' := s₁.setTop (mkF m 114 #[.val (.int p0)] [])) (fun target kt => XS.icmpNo X0.here hx rfl (hb hby d1_111) rfl (tlt hc111).2.2.2 kt) ?_
        exact j114 (hv.trans (own_in_no (Or.inr hc111)))
      · refine own_via (A' := s₁.setTop (mkF m 191 #[.val (.int p0)] [])) (fun target kt => XS.icmpYes X0.here hx rfl (pc0 := 111) (pc' := 191) rfl (hb hby d1_111) rfl (flt hc111).2.2.2 (by decide) (by decide) kt) ?_
        exact j191 (hv.trans (own_in_yes hc104 hc111))
  have j86 : own_in own_R1 p0 = own_in [(895, 8191), (8204, 8205), (8304, 8591), (11264, 12271), (12289, 55295), (63744, 64975), (65008, 65533), (65536, 983039)] p0 → own_G p e below (own_P s (Q1 Z p0 h0 n0) 0 0) (s₁.setTop (mkF m 86 #[.val (.int p0)] [])) := fun hv => by
    refine own_via (A' := s₁.setTop (mkF m 90 #[.val (.int p0)] [(.int (895 : Int32)), (.int p0)])) (fun target kt => ?_) ?_
    · show Steps p.tables e below (s₁.setTop (mkF m 86 #[.val (.int p0)] [])) _
      refine XS.iloadN X0.here hx rfl (hb hby d1_86) rfl ?_
      show Steps p.tables e below (s₁.setTop (mkF m 87 #[.val (.int p0)] [(.int p0)])) _
      refine XS.sipush X0.here hx rfl (hb hby d1_87) ?_
      exact kt
    by_cases hc90 : p0 < (895 : Int32)
    · refine own_via (A' := s₁.setTop (mkF m 100 #[.val (.int p0)] [])) (fun target kt => XS.icmpYes X0.here hx rfl (pc0 := 90) (pc' := 100) rfl (hb hby d1_90) rfl (tlt hc90).1 (by decide) (by decide) kt) ?_
      exact j100 (hv.trans (own_in_no (Or.inl hc90)))
    · refine own_via (A' := s₁.setTop (mkF m 93 #[.val (.int p0)] [])) (fun target kt => XS.icmpNo X0.here hx rfl (hb hby d1_90) rfl (flt hc90).1 kt) ?_
      refine own_via (A' := s₁.setTop (mkF m 97 #[.val (.int p0)] [(.int (8191 : Int32)), (.int p0)])) (fun target kt => ?_) ?_
      · show Steps p.tables e below (s₁.setTop (mkF m 93 #[.val (.int p0)] [])) _
        refine XS.iloadN X0.here hx rfl (hb hby d1_93) rfl ?_
        show Steps p.tables e below (s₁.setTop (mkF m 94 #[.val (.int p0)] [(.int p0)])) _
        refine XS.sipush X0.here hx rfl (hb hby d1_94) ?_
        exact kt
      by_cases hc97 : (8191 : Int32) < p0
      · refine own_via (A' := s₁.setTop (mkF m 100 #[.val (.int p0)] [])) (fun target kt => XS.icmpNo X0.here hx rfl (hb hby d1_97) rfl (tlt hc97).2.2.2 kt) ?_
        exact j100 (hv.trans (own_in_no (Or.inr hc97)))
      · refine own_via (A' := s₁.setTop (mkF m 191 #[.val (.int p0)] [])) (fun target kt => XS.icmpYes X0.here hx rfl (pc0 := 97) (pc' := 191) rfl (hb hby d1_97) rfl (flt hc97).2.2.2 (by decide) (by decide) kt) ?_
        exact j191 (hv.trans (own_in_yes hc90 hc97))
  have j72 : own_in own_R1 p0 = own_in [(880, 893), (895, 8191), (8204, 8205), (8304, 8591), (11264, 12271), (12289, 55295), (63744, 64975), (65008, 65533), (65536, 983039)] p0 → own_G p e below (own_P s (Q1 Z p0 h0 n0) 0 0) (s₁.setTop (mkF m 72 #[.val (.int p0)] [])) := fun hv => by
    refine own_via (A' := s₁.setTop (mkF m 76 #[.val (.int p0)] [(.int (880 : Int32)), (.int p0)])) (fun target kt => ?_) ?_
    · show Steps p.tables e below (s₁.setTop (mkF m 72 #[.val (.int p0)] [])) _
      refine XS.iloadN X0.here hx rfl (hb hby d1_72) rfl ?_
      show Steps p.tables e below (s₁.setTop (mkF m 73 #[.val (.int p0)] [(.int p0)])) _
      refine XS.sipush X0.here hx rfl (hb hby d1_73) ?_
      exact kt
    by_cases hc76 : p0 < (880 : Int32)
    · refine own_via (A' := s₁.setTop (mkF m 86 #[.val (.int p0)] [])) (fun target kt => XS.icmpYes X0.here hx rfl (pc0 := 76) (pc' := 86) rfl (hb hby d1_76) rfl (tlt hc76).1 (by decide) (by decide) kt) ?_
      exact j86 (hv.trans (own_in_no (Or.inl hc76)))
    · refine own_via (A' := s₁.setTop (mkF m 79 #[.val (.int p0)] [])) (fun target kt => XS.icmpNo X0.here hx rfl (hb hby d1_76) rfl (flt hc76).1 kt) ?_
      refine own_via (A' := s₁.setTop (mkF m 83 #[.val (.int p0)] [(.int (893 : Int32)), (.int p0)])) (fun target kt => ?_) ?_
      · show Steps p.tables e below (s₁.setTop (mkF m 79 #[.val (.int p0)] [])) _
        refine XS.iloadN X0.here hx rfl (hb hby d1_79) rfl ?_
        show Steps p.tables e below (s₁.setTop (mkF m 80 #[.val (.int p0)] [(.int p0)])) _
        refine XS.sipush X0.here hx rfl (hb hby d1_80) ?_
        exact kt
      by_cases hc83 : (893 : Int32) < p0
      · refine own_via (A' := s₁.setTop (mkF m 86 #[.val (.int p0)] [])) (fun target kt => XS.icmpNo X0.here hx rfl (hb hby d1_83) rfl (tlt hc83).2.2.2 kt) ?_
        exact j86 (hv.trans (own_in_no (Or.inr hc83)))
      · refine own_via (A' := s₁.setTop (mkF m 191 #[.val (.int p0)] [])) (fun target kt => XS.icmpYes X0.here hx rfl (pc0 := 83) (pc' := 191) rfl (hb hby d1_83) rfl (flt hc83).2.2.2 (by decide) (by decide) kt) ?_
        exact j191 (hv.trans (own_in_yes hc76 hc83))
  have j58 : own_in own_R1 p0 = own_in [(248, 767), (880, 893), (895, 8191), (8204, 8205), (8304, 8591), (11264, 12271), (12289, 55295), (63744, 64975), (65008, 65533), (65536, 983039)] p0 → own_G p e below (own_P s (Q1 Z p0 h0 n0) 0 0) (s₁.setTop (mkF m 58 #[.val (.int p0)] [])) := fun hv => by
    refine own_via (A' := s₁.setTop (mkF m 62 #[.val (.int p0)] [(.int (248 : Int32)), (.int p0)])) (fun target kt => ?_) ?_
    · show Steps p.tables e below (s₁.setTop (mkF m 58 #[.val (.int p0)] [])) _
      refine XS.iloadN X0.here hx rfl (hb hby d1_58) rfl ?_
      show Steps p.tables e below (s₁.setTop (mkF m 59 #[.val (.int p0)] [(.int p0)])) _
      refine XS.sipush X0.here hx rfl (hb hby d1_59) ?_
      exact kt
    by_cases hc62 : p0 < (248 : Int32)
    · refine own_via (A' := s₁.setTop (mkF m 72 #[.val (.int p0)] [])) (fun target kt => XS.icmpYes X0.here hx rfl (pc0 := 62) (pc' := 72) rfl (hb hby d1_62) rfl (tlt hc62).1 (by decide) (by decide) kt) ?_
      exact j72 (hv.trans (own_in_no (Or.inl hc62)))
    · refine own_via (A' := s₁.setTop (mkF m 65 #[.val (.int p0)] [])) (fun target kt => XS.icmpNo X0.here hx rfl (hb hby d1_62) rfl (flt hc62).1 kt) ?_
      refine own_via (A' := s₁.setTop (mkF m 69 #[.val (.int p0)] [(.int (767 : Int32)), (.int p0)])) (fun target kt => ?_) ?_
      · show Steps p.tables e below (s₁.setTop (mkF m 65 #[.val (.int p0)] [])) _
        refine XS.iloadN X0.here hx rfl (hb hby d1_65) rfl ?_
        show Steps p.tables e below (s₁.setTop (mkF m 66 #[.val (.int p0)] [(.int p0)])) _
        refine XS.sipush X0.here hx rfl (hb hby d1_66) ?_
        exact kt
      by_cases hc69 : (767 : Int32) < p0
      · refine own_via (A' := s₁.setTop (mkF m 72 #[.val (.int p0)] [])) (fun target kt => XS.icmpNo X0.here hx rfl (hb hby d1_69) rfl (tlt hc69).2.2.2 kt) ?_
        exact j72 (hv.trans (own_in_no (Or.inr hc69)))
      · refine own_via (A' := s₁.setTop (mkF m 191 #[.val (.int p0)] [])) (fun target kt => XS.icmpYes X0.here hx rfl (pc0 := 69) (pc' := 191) rfl (hb hby d1_69) rfl (flt hc69).2.2.2 (by decide) (by decide) kt) ?_
        exact j191 (hv.trans (own_in_yes hc62 hc69))
  have j44 : own_in own_R1 p0 = own_in [(216, 246), (248, 767), (880, 893), (895, 8191), (8204, 8205), (8304, 8591), (11264, 12271), (12289, 55295), (63744, 64975), (65008, 65533), (65536, 983039)] p0 → own_G p e below (own_P s (Q1 Z p0 h0 n0) 0 0) (s₁.setTop (mkF m 44 #[.val (.int p0)] [])) := fun hv => by
    refine own_via (A' := s₁.setTop (mkF m 48 #[.val (.int p0)] [(.int (216 : Int32)), (.int p0)])) (fun target kt => ?_) ?_
    · show Steps p.tables e below (s₁.setTop (mkF m 44 #[.val (.int p0)] [])) _
      refine XS.iloadN X0.here hx rfl (hb hby d1_44) rfl ?_
      show Steps p.tables e below (s₁.setTop (mkF m 45 #[.val (.int p0)] [(.int p0)])) _
      refine XS.sipush X0.here hx rfl (hb hby d1_45) ?_
      exact kt
    by_cases hc48 : p0 < (216 : Int32)
    · refine own_via (A' := s₁.setTop (mkF m 58 #[.val (.int p0)] [])) (fun target kt => XS.icmpYes X0.here hx rfl (pc0 := 48) (pc' := 58) rfl (hb hby d1_48) rfl (tlt hc48).1 (by decide) (by decide) kt) ?_
      exact j58 (hv.trans (own_in_no (Or.inl hc48)))
    · refine own_via (A' := s₁.setTop (mkF m 51 #[.val (.int p0)] [])) (fun target kt => XS.icmpNo X0.here hx rfl (hb hby d1_48) rfl (flt hc48).1 kt) ?_
      refine own_via (A' := s₁.setTop (mkF m 55 #[.val (.int p0)] [(.int (246 : Int32)), (.int p0)])) (fun target kt => ?_) ?_
      · show Steps p.tables e below (s₁.setTop (mkF m 51 #[.val (.int p0)] [])) _
        refine XS.iloadN X0.here hx rfl (hb hby d1_51) rfl ?_
        show Steps p.tables e below (s₁.setTop (mkF m 52 #[.val (.int p0)] [(.int p0)])) _
        refine XS.sipush X0.here hx rfl (hb hby d1_52) ?_
        exact kt
      by_cases hc55 : (246 : Int32) < p0
      · refine own_via (A' := s₁.setTop (mkF m 58 #[.val (.int p0)] [])) (fun target kt => XS.icmpNo X0.here hx rfl (hb hby d1_55) rfl (tlt hc55).2.2.2 kt) ?_
        exact j58 (hv.trans (own_in_no (Or.inr hc55)))
      · refine own_via (A' := s₁.setTop (mkF m 191 #[.val (.int p0)] [])) (fun target kt => XS.icmpYes X0.here hx rfl (pc0 := 55) (pc' := 191) rfl (hb hby d1_55) rfl (flt hc55).2.2.2 (by decide) (by decide) kt) ?_
        exact j191 (hv.trans (own_in_yes hc48 hc55))
  have j30 : own_in own_R1 p0 = own_in [(192, 214), (216, 246), (248, 767), (880, 893), (895, 8191), (8204, 8205), (8304, 8591), (11264, 12271), (12289, 55295), (63744, 64975), (65008, 65533), (65536, 983039)] p0 → own_G p e below (own_P s (Q1 Z p0 h0 n0) 0 0) (s₁.setTop (mkF m 30 #[.val (.int p0)] [])) := fun hv => by
    refine own_via (A' := s₁.setTop (mkF m 34 #[.val (.int p0)] [(.int (192 : Int32)), (.int p0)])) (fun target kt => ?_) ?_
    · show Steps p.tables e below (s₁.setTop (mkF m 30 #[.val (.int p0)] [])) _
      refine XS.iloadN X0.here hx rfl (hb hby d1_30) rfl ?_
      show Steps p.tables e below (s₁.setTop (mkF m 31 #[.val (.int p0)] [(.int p0)])) _
      refine XS.sipush X0.here hx rfl (hb hby d1_31) ?_
      exact kt
    by_cases hc34 : p0 < (192 : Int32)
    · refine own_via (A' := s₁.setTop (mkF m 44 #[.val (.int p0)] [])) (fun target kt => XS.icmpYes X0.here hx rfl (pc0 := 34) (pc' := 44) rfl (hb hby d1_34) rfl (tlt hc34).1 (by decide) (by decide) kt) ?_
      exact j44 (hv.trans (own_in_no (Or.inl hc34)))
    · refine own_via (A' := s₁.setTop (mkF m 37 #[.val (.int p0)] [])) (fun target kt => XS.icmpNo X0.here hx rfl (hb hby d1_34) rfl (flt hc34).1 kt) ?_
      refine own_via (A' := s₁.setTop (mkF m 41 #[.val (.int p0)] [(.int (214 : Int32)), (.int p0)])) (fun target kt => ?_) ?_
      · show Steps p.tables e below (s₁.setTop (mkF m 37 #[.val (.int p0)] [])) _
        refine XS.iloadN X0.here hx rfl (hb hby d1_37) rfl ?_
        show Steps p.tables e below (s₁.setTop (mkF m 38 #[.val (.int p0)] [(.int p0)])) _
        refine XS.sipush X0.here hx rfl (hb hby d1_38) ?_
        exact kt
      by_cases hc41 : (214 : Int32) < p0
      · refine own_via (A' := s₁.setTop (mkF m 44 #[.val (.int p0)] [])) (fun target kt => XS.icmpNo X0.here hx rfl (hb hby d1_41) rfl (tlt hc41).2.2.2 kt) ?_
        exact j44 (hv.trans (own_in_no (Or.inr hc41)))
      · refine own_via (A' := s₁.setTop (mkF m 191 #[.val (.int p0)] [])) (fun target kt => XS.icmpYes X0.here hx rfl (pc0 := 41) (pc' := 191) rfl (hb hby d1_41) rfl (flt hc41).2.2.2 (by decide) (by decide) kt) ?_
        exact j191 (hv.trans (own_in_yes hc34 hc41))
  have j18 : own_in own_R1 p0 = own_in [(97, 122), (192, 214), (216, 246), (248, 767), (880, 893), (895, 8191), (8204, 8205), (8304, 8591), (11264, 12271), (12289, 55295), (63744, 64975), (65008, 65533), (65536, 983039)] p0 → own_G p e below (own_P s (Q1 Z p0 h0 n0) 0 0) (s₁.setTop (mkF m 18 #[.val (.int p0)] [])) := fun hv => by
    refine own_via (A' := s₁.setTop (mkF m 21 #[.val (.int p0)] [(.int (97 : Int32)), (.int p0)])) (fun target kt => ?_) ?_
    · show Steps p.tables e below (s₁.setTop (mkF m 18 #[.val (.int p0)] [])) _
      refine XS.iloadN X0.here hx rfl (hb hby d1_18) rfl ?_
      show Steps p.tables e below (s₁.setTop (mkF m 19 #[.val (.int p0)] [(.int p0)])) _
      refine XS.bipush X0.here hx rfl (hb hby d1_19) ?_
      exact kt
    by_cases hc21 : p0 < (97 : Int32)
    · refine own_via (A' := s₁.setTop (mkF m 30 #[.val (.int p0)] [])) (fun target kt => XS.icmpYes X0.here hx rfl (pc0 := 21) (pc' := 30) rfl (hb hby d1_21) rfl (tlt hc21).1 (by decide) (by decide) kt) ?_
      exact j30 (hv.trans (own_in_no (Or.inl hc21)))
    · refine own_via (A' := s₁.setTop (mkF m 24 #[.val (.int p0)] [])) (fun target kt => XS.icmpNo X0.here hx rfl (hb hby d1_21) rfl (flt hc21).1 kt) ?_
      refine own_via (A' := s₁.setTop (mkF m 27 #[.val (.int p0)] [(.int (122 : Int32)), (.int p0)])) (fun target kt => ?_) ?_
      · show Steps p.tables e below (s₁.setTop (mkF m 24 #[.val (.int p0)] [])) _
        refine XS.iloadN X0.here hx rfl (hb hby d1_24) rfl ?_
        show Steps p.tables e below (s₁.setTop (mkF m 25 #[.val (.int p0)] [(.int p0)])) _
        refine XS.bipush X0.here hx rfl (hb hby d1_25) ?_
        exact kt
      by_cases hc27 : (122 : Int32) < p0
      · refine own_via (A' := s₁.setTop (mkF m 30 #[.val (.int p0)] [])) (fun target kt => XS.icmpNo X0.here hx rfl (hb hby d1_27) rfl (tlt hc27).2.2.2 kt) ?_
        exact j30 (hv.trans (own_in_no (Or.inr hc27)))
      · refine own_via (A' := s₁.setTop (mkF m 191 #[.val (.int p0)] [])) (fun target kt => XS.icmpYes X0.here hx rfl (pc0 := 27) (pc' := 191) rfl (hb hby d1_27) rfl (flt hc27).2.2.2 (by decide) (by decide) kt) ?_
        exact j191 (hv.trans (own_in_yes hc21 hc27))
  have j12 : own_in own_R1 p0 = own_in [(95, 95), (97, 122), (192, 214), (216, 246), (248, 767), (880, 893), (895, 8191), (8204, 8205), (8304, 8591), (11264, 12271), (12289, 55295), (63744, 64975), (65008, 65533), (65536, 983039)] p0 → own_G p e below (own_P s (Q1 Z p0 h0 n0) 0 0) (s₁.setTop (mkF m 12 #[.val (.int p0)] [])) := fun hv => by
    refine own_via (A' := s₁.setTop (mkF m 15 #[.val (.int p0)] [(.int (95 : Int32)), (.int p0)])) (fun target kt => ?_) ?_
    · show Steps p.tables e below (s₁.setTop (mkF m 12 #[.val (.int p0)] [])) _
      refine XS.iloadN X0.here hx rfl (hb hby d1_12) rfl ?_
      show Steps p.tables e below (s₁.setTop (mkF m 13 #[.val (.int p0)] [(.int p0)])) _
      refine XS.bipush X0.here hx rfl (hb hby d1_13) ?_
      exact kt
    by_cases hc15 : p0 = (95 : Int32)
    · refine own_via (A' := s₁.setTop (mkF m 191 #[.val (.int p0)] [])) (fun target kt => XS.icmpYes X0.here hx rfl (pc0 := 15) (pc' := 191) rfl (hb hby d1_15) rfl (teq hc15).1 (by decide) (by decide) kt) ?_
      exact j191 (hv.trans (own_in_eq hc15))
    · refine own_via (A' := s₁.setTop (mkF m 18 #[.val (.int p0)] [])) (fun target kt => XS.icmpNo X0.here hx rfl (hb hby d1_15) rfl (feq hc15).1 kt) ?_
      exact j18 (hv.trans (own_in_ne hc15))
  have j0 : own_in own_R1 p0 = own_in [(65, 90), (95, 95), (97, 122), (192, 214), (216, 246), (248, 767), (880, 893), (895, 8191), (8204, 8205), (8304, 8591), (11264, 12271), (12289, 55295), (63744, 64975), (65008, 65533), (65536, 983039)] p0 → own_G p e below (own_P s (Q1 Z p0 h0 n0) 0 0) (s₁.setTop (mkF m 0 #[.val (.int p0)] [])) := fun hv => by
    refine own_via (A' := s₁.setTop (mkF m 3 #[.val (.int p0)] [(.int (65 : Int32)), (.int p0)])) (fun target kt => ?_) ?_
    · show Steps p.tables e below (s₁.setTop (mkF m 0 #[.val (.int p0)] [])) _
      refine XS.iloadN X0.here hx rfl (hb hby d1_0) rfl ?_
      show Steps p.tables e below (s₁.setTop (mkF m 1 #[.val (.int p0)] [(.int p0)])) _
      refine XS.bipush X0.here hx rfl (hb hby d1_1) ?_
      exact kt
    by_cases hc3 : p0 < (65 : Int32)
    · refine own_via (A' := s₁.setTop (mkF m 12 #[.val (.int p0)] [])) (fun target kt => XS.icmpYes X0.here hx rfl (pc0 := 3) (pc' := 12) rfl (hb hby d1_3) rfl (tlt hc3).1 (by decide) (by decide) kt) ?_
      exact j12 (hv.trans (own_in_no (Or.inl hc3)))
    · refine own_via (A' := s₁.setTop (mkF m 6 #[.val (.int p0)] [])) (fun target kt => XS.icmpNo X0.here hx rfl (hb hby d1_3) rfl (flt hc3).1 kt) ?_
      refine own_via (A' := s₁.setTop (mkF m 9 #[.val (.int p0)] [(.int (90 : Int32)), (.int p0)])) (fun target kt => ?_) ?_
      · show Steps p.tables e below (s₁.setTop (mkF m 6 #[.val (.int p0)] [])) _
        refine XS.iloadN X0.here hx rfl (hb hby d1_6) rfl ?_
        show Steps p.tables e below (s₁.setTop (mkF m 7 #[.val (.int p0)] [(.int p0)])) _
        refine XS.bipush X0.here hx rfl (hb hby d1_7) ?_
        exact kt
      by_cases hc9 : (90 : Int32) < p0
      · refine own_via (A' := s₁.setTop (mkF m 12 #[.val (.int p0)] [])) (fun target kt => XS.icmpNo X0.here hx rfl (hb hby d1_9) rfl (tlt hc9).2.2.2 kt) ?_
        exact j12 (hv.trans (own_in_no (Or.inr hc9)))
      · refine own_via (A' := s₁.setTop (mkF m 191 #[.val (.int p0)] [])) (fun target kt => XS.icmpYes X0.here hx rfl (pc0 := 9) (pc' := 191) rfl (hb hby d1_9) rfl (flt hc9).2.2.2 (by decide) (by decide) kt) ?_
        exact j191 (hv.trans (own_in_yes hc3 hc9))
  exact j0 rfl
def own_R2 : List (Int32 × Int32) := [(65, 90), (95, 95), (97, 122), (192, 214), (216, 246), (248, 767), (880, 893), (895, 8191), (8204, 8205), (8304, 8591), (11264, 12271), (12289, 55295), (63744, 64975), (65008, 65533), (65536, 983039)]
theorem d2_0 : decode method_2_code 0 = .ok (.iload_n 0, 1) := by decide +kernel
theorem d2_1 : decode method_2_code 1 = .ok (.bipush 65, 2) := by decide +kernel
theorem d2_3 : decode method_2_code 3 = .ok (.if_icmp .ge 5, 3) := by decide +kernel
theorem d2_6 : decode method_2_code 6 = .ok (.iconst 0, 1) := by decide +kernel
theorem d2_7 : decode method_2_code 7 = .ok (.ireturn, 1) := by decide +kernel
theorem d2_8 : decode method_2_code 8 = .ok (.iload_n 0, 1) := by decide +kernel
theorem d2_9 : decode method_2_code 9 = .ok (.bipush 90, 2) := by decide +kernel
theorem d2_11 : decode method_2_code 11 = .ok (.if_icmp .gt 5, 3) := by decide +kernel
theorem d2_14 : decode method_2_code 14 = .ok (.iconst 1, 1) := by decide +kernel
theorem d2_15 : decode method_2_code 15 = .ok (.ireturn, 1) := by decide +kernel
theorem d2_16 : decode method_2_code 16 = .ok (.iload_n 0, 1) := by decide +kernel
theorem d2_17 : decode method_2_code 17 = .ok (.bipush 95, 2) := by decide +kernel
theorem d2_19 : decode method_2_code 19 = .ok (.if_icmp .ge 5, 3) := by decide +kernel
theorem d2_22 : decode method_2_code 22 = .ok (.iconst 0, 1) := by decide +kernel
theorem d2_23 : decode method_2_code 23 = .ok (.ireturn, 1) := by decide +kernel
theorem d2_24 : decode method_2_code 24 = .ok (.iload_n 0, 1) := by decide +kernel
theorem d2_25 : decode method_2_code 25 = .ok (.bipush 95, 2) := by decide +kernel
theorem d2_27 : decode method_2_code 27 = .ok (.if_icmp .gt 5, 3) := by decide +kernel
theorem d2_30 : decode method_2_code 30 = .ok (.iconst 1, 1) := by decide +kernel
theorem d2_31 : decode method_2_code 31 = .ok (.ireturn, 1) := by decide +kernel
theorem d2_32 : decode method_2_code 32 = .ok (.iload_n 0, 1) := by decide +kernel
theorem d2_33 : decode method_2_code 33 = .ok (.bipush 97, 2) := by decide +kernel
theorem d2_35 : decode method_2_code 35 = .ok (.if_icmp .ge 5, 3) := by decide +kernel
theorem d2_38 : decode method_2_code 38 = .ok (.iconst 0, 1) := by decide +kernel
theorem d2_39 : decode method_2_code 39 = .ok (.ireturn, 1) := by decide +kernel
theorem d2_40 : decode method_2_code 40 = .ok (.iload_n 0, 1) := by decide +kernel
theorem d2_41 : decode method_2_code 41 = .ok (.bipush 122, 2) := by decide +kernel
theorem d2_43 : decode method_2_code 43 = .ok (.if_icmp .gt 5, 3) := by decide +kernel
theorem d2_46 : decode method_2_code 46 = .ok (.iconst 1, 1) := by decide +kernel
theorem d2_47 : decode method_2_code 47 = .ok (.ireturn, 1) := by decide +kernel
theorem d2_48 : decode method_2_code 48 = .ok (.iload_n 0, 1) := by decide +kernel
theorem d2_49 : decode method_2_code 49 = .ok (.sipush 192, 3) := by decide +kernel
theorem d2_52 : decode method_2_code 52 = .ok (.if_icmp .ge 5, 3) := by decide +kernel
theorem d2_55 : decode method_2_code 55 = .ok (.iconst 0, 1) := by decide +kernel
theorem d2_56 : decode method_2_code 56 = .ok (.ireturn, 1) := by decide +kernel
theorem d2_57 : decode method_2_code 57 = .ok (.iload_n 0, 1) := by decide +kernel
theorem d2_58 : decode method_2_code 58 = .ok (.sipush 214, 3) := by decide +kernel
theorem d2_61 : decode method_2_code 61 = .ok (.if_icmp .gt 5, 3) := by decide +kernel
theorem d2_64 : decode method_2_code 64 = .ok (.iconst 1, 1) := by decide +kernel
theorem d2_65 : decode method_2_code 65 = .ok (.ireturn, 1) := by decide +kernel
theorem d2_66 : decode method_2_code 66 = .ok (.iload_n 0, 1) := by decide +kernel
theorem d2_67 : decode method_2_code 67 = .ok (.sipush 216, 3) := by decide +kernel
theorem d2_70 : decode method_2_code 70 = .ok (.if_icmp .ge 5, 3) := by decide +kernel
theorem d2_73 : decode method_2_code 73 = .ok (.iconst 0, 1) := by decide +kernel
theorem d2_74 : decode method_2_code 74 = .ok (.ireturn, 1) := by decide +kernel
theorem d2_75 : decode method_2_code 75 = .ok (.iload_n 0, 1) := by decide +kernel
theorem d2_76 : decode method_2_code 76 = .ok (.sipush 246, 3) := by decide +kernel
theorem d2_79 : decode method_2_code 79 = .ok (.if_icmp .gt 5, 3) := by decide +kernel
theorem d2_82 : decode method_2_code 82 = .ok (.iconst 1, 1) := by decide +kernel
theorem d2_83 : decode method_2_code 83 = .ok (.ireturn, 1) := by decide +kernel
theorem d2_84 : decode method_2_code 84 = .ok (.iload_n 0, 1) := by decide +kernel
theorem d2_85 : decode method_2_code 85 = .ok (.sipush 248, 3) := by decide +kernel
theorem d2_88 : decode method_2_code 88 = .ok (.if_icmp .ge 5, 3) := by decide +kernel
theorem d2_91 : decode method_2_code 91 = .ok (.iconst 0, 1) := by decide +kernel
theorem d2_92 : decode method_2_code 92 = .ok (.ireturn, 1) := by decide +kernel
theorem d2_93 : decode method_2_code 93 = .ok (.iload_n 0, 1) := by decide +kernel
theorem d2_94 : decode method_2_code 94 = .ok (.sipush 767, 3) := by decide +kernel
theorem d2_97 : decode method_2_code 97 = .ok (.if_icmp .gt 5, 3) := by decide +kernel
theorem d2_100 : decode method_2_code 100 = .ok (.iconst 1, 1) := by decide +kernel
theorem d2_101 : decode method_2_code 101 = .ok (.ireturn, 1) := by decide +kernel
theorem d2_102 : decode method_2_code 102 = .ok (.iload_n 0, 1) := by decide +kernel
theorem d2_103 : decode method_2_code 103 = .ok (.sipush 880, 3) := by decide +kernel
theorem d2_106 : decode method_2_code 106 = .ok (.if_icmp .ge 5, 3) := by decide +kernel
theorem d2_109 : decode method_2_code 109 = .ok (.iconst 0, 1) := by decide +kernel
theorem d2_110 : decode method_2_code 110 = .ok (.ireturn, 1) := by decide +kernel
theorem d2_111 : decode method_2_code 111 = .ok (.iload_n 0, 1) := by decide +kernel
theorem d2_112 : decode method_2_code 112 = .ok (.sipush 893, 3) := by decide +kernel
theorem d2_115 : decode method_2_code 115 = .ok (.if_icmp .gt 5, 3) := by decide +kernel
theorem d2_118 : decode method_2_code 118 = .ok (.iconst 1, 1) := by decide +kernel
theorem d2_119 : decode method_2_code 119 = .ok (.ireturn, 1) := by decide +kernel
theorem d2_120 : decode method_2_code 120 = .ok (.iload_n 0, 1) := by decide +kernel
theorem d2_121 : decode method_2_code 121 = .ok (.sipush 895, 3) := by decide +kernel
theorem d2_124 : decode method_2_code 124 = .ok (.if_icmp .ge 5, 3) := by decide +kernel
theorem d2_127 : decode method_2_code 127 = .ok (.iconst 0, 1) := by decide +kernel
theorem d2_128 : decode method_2_code 128 = .ok (.ireturn, 1) := by decide +kernel
theorem d2_129 : decode method_2_code 129 = .ok (.iload_n 0, 1) := by decide +kernel
theorem d2_130 : decode method_2_code 130 = .ok (.sipush 8191, 3) := by decide +kernel
theorem d2_133 : decode method_2_code 133 = .ok (.if_icmp .gt 5, 3) := by decide +kernel
theorem d2_136 : decode method_2_code 136 = .ok (.iconst 1, 1) := by decide +kernel
theorem d2_137 : decode method_2_code 137 = .ok (.ireturn, 1) := by decide +kernel
theorem d2_138 : decode method_2_code 138 = .ok (.iload_n 0, 1) := by decide +kernel
theorem d2_139 : decode method_2_code 139 = .ok (.sipush 8204, 3) := by decide +kernel
theorem d2_142 : decode method_2_code 142 = .ok (.if_icmp .ge 5, 3) := by decide +kernel
theorem d2_145 : decode method_2_code 145 = .ok (.iconst 0, 1) := by decide +kernel
theorem d2_146 : decode method_2_code 146 = .ok (.ireturn, 1) := by decide +kernel
theorem d2_147 : decode method_2_code 147 = .ok (.iload_n 0, 1) := by decide +kernel
theorem d2_148 : decode method_2_code 148 = .ok (.sipush 8205, 3) := by decide +kernel
theorem d2_151 : decode method_2_code 151 = .ok (.if_icmp .gt 5, 3) := by decide +kernel
theorem d2_154 : decode method_2_code 154 = .ok (.iconst 1, 1) := by decide +kernel
theorem d2_155 : decode method_2_code 155 = .ok (.ireturn, 1) := by decide +kernel
theorem d2_156 : decode method_2_code 156 = .ok (.iload_n 0, 1) := by decide +kernel
theorem d2_157 : decode method_2_code 157 = .ok (.sipush 8304, 3) := by decide +kernel
theorem d2_160 : decode method_2_code 160 = .ok (.if_icmp .ge 5, 3) := by decide +kernel
theorem d2_163 : decode method_2_code 163 = .ok (.iconst 0, 1) := by decide +kernel
theorem d2_164 : decode method_2_code 164 = .ok (.ireturn, 1) := by decide +kernel
theorem d2_165 : decode method_2_code 165 = .ok (.iload_n 0, 1) := by decide +kernel
theorem d2_166 : decode method_2_code 166 = .ok (.sipush 8591, 3) := by decide +kernel
theorem d2_169 : decode method_2_code 169 = .ok (.if_icmp .gt 5, 3) := by decide +kernel
theorem d2_172 : decode method_2_code 172 = .ok (.iconst 1, 1) := by decide +kernel
theorem d2_173 : decode method_2_code 173 = .ok (.ireturn, 1) := by decide +kernel
theorem d2_174 : decode method_2_code 174 = .ok (.iload_n 0, 1) := by decide +kernel
theorem d2_175 : decode method_2_code 175 = .ok (.sipush 11264, 3) := by decide +kernel
theorem d2_178 : decode method_2_code 178 = .ok (.if_icmp .ge 5, 3) := by decide +kernel
theorem d2_181 : decode method_2_code 181 = .ok (.iconst 0, 1) := by decide +kernel
theorem d2_182 : decode method_2_code 182 = .ok (.ireturn, 1) := by decide +kernel
theorem d2_183 : decode method_2_code 183 = .ok (.iload_n 0, 1) := by decide +kernel
theorem d2_184 : decode method_2_code 184 = .ok (.sipush 12271, 3) := by decide +kernel
theorem d2_187 : decode method_2_code 187 = .ok (.if_icmp .gt 5, 3) := by decide +kernel
theorem d2_190 : decode method_2_code 190 = .ok (.iconst 1, 1) := by decide +kernel
theorem d2_191 : decode method_2_code 191 = .ok (.ireturn, 1) := by decide +kernel
theorem d2_192 : decode method_2_code 192 = .ok (.iload_n 0, 1) := by decide +kernel
theorem d2_193 : decode method_2_code 193 = .ok (.sipush 12289, 3) := by decide +kernel
theorem d2_196 : decode method_2_code 196 = .ok (.if_icmp .ge 5, 3) := by decide +kernel
theorem d2_199 : decode method_2_code 199 = .ok (.iconst 0, 1) := by decide +kernel
theorem d2_200 : decode method_2_code 200 = .ok (.ireturn, 1) := by decide +kernel
theorem d2_201 : decode method_2_code 201 = .ok (.iload_n 0, 1) := by decide +kernel
theorem d2_202 : decode method_2_code 202 = .ok (.ldc 7, 2) := by decide +kernel
theorem d2_204 : decode method_2_code 204 = .ok (.if_icmp .gt 5, 3) := by decide +kernel
theorem d2_207 : decode method_2_code 207 = .ok (.iconst 1, 1) := by decide +kernel
theorem d2_208 : decode method_2_code 208 = .ok (.ireturn, 1) := by decide +kernel
theorem d2_209 : decode method_2_code 209 = .ok (.iload_n 0, 1) := by decide +kernel
theorem d2_210 : decode method_2_code 210 = .ok (.ldc 8, 2) := by decide +kernel
theorem d2_212 : decode method_2_code 212 = .ok (.if_icmp .ge 5, 3) := by decide +kernel
theorem d2_215 : decode method_2_code 215 = .ok (.iconst 0, 1) := by decide +kernel
theorem d2_216 : decode method_2_code 216 = .ok (.ireturn, 1) := by decide +kernel
theorem d2_217 : decode method_2_code 217 = .ok (.iload_n 0, 1) := by decide +kernel
theorem d2_218 : decode method_2_code 218 = .ok (.ldc 9, 2) := by decide +kernel
theorem d2_220 : decode method_2_code 220 = .ok (.if_icmp .gt 5, 3) := by decide +kernel
theorem d2_223 : decode method_2_code 223 = .ok (.iconst 1, 1) := by decide +kernel
theorem d2_224 : decode method_2_code 224 = .ok (.ireturn, 1) := by decide +kernel
theorem d2_225 : decode method_2_code 225 = .ok (.iload_n 0, 1) := by decide +kernel
theorem d2_226 : decode method_2_code 226 = .ok (.ldc 10, 2) := by decide +kernel
theorem d2_228 : decode method_2_code 228 = .ok (.if_icmp .ge 5, 3) := by decide +kernel
theorem d2_231 : decode method_2_code 231 = .ok (.iconst 0, 1) := by decide +kernel
theorem d2_232 : decode method_2_code 232 = .ok (.ireturn, 1) := by decide +kernel
theorem d2_233 : decode method_2_code 233 = .ok (.iload_n 0, 1) := by decide +kernel
theorem d2_234 : decode method_2_code 234 = .ok (.ldc 11, 2) := by decide +kernel
theorem d2_236 : decode method_2_code 236 = .ok (.if_icmp .gt 5, 3) := by decide +kernel
theorem d2_239 : decode method_2_code 239 = .ok (.iconst 1, 1) := by decide +kernel
theorem d2_240 : decode method_2_code 240 = .ok (.ireturn, 1) := by decide +kernel
theorem d2_241 : decode method_2_code 241 = .ok (.iload_n 0, 1) := by decide +kernel
theorem d2_242 : decode method_2_code 242 = .ok (.ldc 12, 2) := by decide +kernel
theorem d2_244 : decode method_2_code 244 = .ok (.if_icmp .ge 5, 3) := by decide +kernel
theorem d2_247 : decode method_2_code 247 = .ok (.iconst 0, 1) := by decide +kernel
theorem d2_248 : decode method_2_code 248 = .ok (.ireturn, 1) := by decide +kernel
theorem d2_249 : decode method_2_code 249 = .ok (.iload_n 0, 1) := by decide +kernel
theorem d2_250 : decode method_2_code 250 = .ok (.ldc 13, 2) := by decide +kernel
theorem d2_252 : decode method_2_code 252 = .ok (.if_icmp .gt 5, 3) := by decide +kernel
theorem d2_255 : decode method_2_code 255 = .ok (.iconst 1, 1) := by decide +kernel
theorem d2_256 : decode method_2_code 256 = .ok (.ireturn, 1) := by decide +kernel
theorem d2_257 : decode method_2_code 257 = .ok (.iconst 0, 1) := by decide +kernel
theorem d2_258 : decode method_2_code 258 = .ok (.ireturn, 1) := by decide +kernel
theorem pn_2 : plainName "com/example/txq/txq/xdm/NameIsNameStartPinLaw" = true := by first | (simp [plainName, overriddenIn]; done) | decide +kernel
theorem ef_2 (m : MethodId) (p0 : Int32) : entryFrame m #[(.int p0)] 1 = mkF m 0 #[.val (.int p0)] [] := by first | (simp [entryFrame, mkF, argsToLocals, Value.category]; done) | rfl
def Q2 (Z : State) (p0 : Int32)  (h0 : Heap) (n0 : Nat) (v : Option Value) (h : Heap) (L : List Loc) : Prop := v = some (.int (own_st own_R2 p0)) ∧ Fr n0 L ∧ h = h0
set_option maxRecDepth 65536 in
set_option maxHeartbeats 40000000 in
theorem rm2 (l : Launch) (Z : State) (a0 : Array Value) (hw : ∀ d ∈ tables_1, d.before a0 Z = true) (ws : List Jvm.Cond) (p0 : Int32)  (h0 : Heap) (n0 : Nat) (Z0 : n0 ≤ h0.size)  :
    MetFree l (⟨"com/example/txq/txq/xdm/NameIsNameStartPinLaw", "ref", "(I)Z"⟩ : MethodName) (head1 (Jvm.Cond.code (⟨"com/example/txq/txq/xdm/NameIsNameStartPinLaw", "ref", "(I)Z"⟩ : MethodName) method_2_code 1 (some .boolean) :: ws) ({ frames := 0, cells := 0, slots := 0, locals := 0 } : Room)) (fun a U => a = #[(.int p0)] ∧ Z.Warmed39 U.vm ∧ U.heap = h0) (fun _ _ _ _ _ => True) (fun _ U o U' => ∃ v L, o = .returned v ∧ Q2 Z p0 h0 n0 v U'.heap L ∧ FrameEnd U o U' L ({ frames := 0, cells := 0, slots := 0, locals := 0 } : Room).cells ({ frames := 0, cells := 0, slots := 0, locals := 0 } : Room).slots) := by
  refine MetFree.of_bodySF (plainFor_of_name pn_2) hisR ?_
  intro p e s m args below meth c s₁ Bd hml0 hP hK
  obtain ⟨rfl, hZ, hh⟩ := hP
  have hx := Bd.exec
  have hby := Bd.bytes
  have hml : c.maxLocals = 1 := hml0
  have hown : s.vm.findClass "com/example/txq/txq/xdm/NameIsNameStartPinLaw" = some m.cls := findClass_of_methodNamed Bd.named
  have X0 : Stand p l e ({ frames := 0, cells := 0, slots := 0, locals := 0 } : Room) s m #[(.int p0)] below meth c s₁ [] 0 0 := Stand.of_body Bd
  have e0 : s₁.heap = h0 := by rw [← hh, Bd.state]; rfl
  have N0 := Fr.nil n0
  show own_G p e below (own_P s (Q2 Z p0 h0 n0) 0 0) _
  refine own_via (A' := s₁.setTop (mkF m 0 #[.val (.int p0)] [])) (fun t k => castTop (ef_2 m p0) k) ?_
  have j257 : own_st own_R2 p0 = own_st [] p0 → own_G p e below (own_P s (Q2 Z p0 h0 n0) 0 0) (s₁.setTop (mkF m 257 #[.val (.int p0)] [])) := fun hv => by
    refine own_via (A' := s₁.setTop (mkF m 258 #[.val (.int p0)] [(.int (0 : Int32))])) (fun target kt => ?_) ?_
    · show Steps p.tables e below (s₁.setTop (mkF m 257 #[.val (.int p0)] [])) _
      refine XS.iconst X0.here hx rfl (hb hby d2_257) ?_
      exact kt
    exact own_retN X0 Bd.notSynchronized hx (t := .boolean) Bd.returns (by simp) (hb hby d2_258) (show Q2 Z p0 h0 n0 _ _ _ from ⟨by rw [show own_st own_R2 p0 = 0 from hv] <;> rfl, N0, e0⟩) (by decide) (by decide)
  have j241 : own_st own_R2 p0 = own_st [(65536, 983039)] p0 → own_G p e below (own_P s (Q2 Z p0 h0 n0) 0 0) (s₁.setTop (mkF m 241 #[.val (.int p0)] [])) := fun hv => by
    refine own_via (A' := s₁.setTop (mkF m 244 #[.val (.int p0)] [(.int (65536 : Int32)), (.int p0)])) (fun target kt => ?_) ?_
    · show Steps p.tables e below (s₁.setTop (mkF m 241 #[.val (.int p0)] [])) _
      refine XS.iloadN X0.here hx rfl (hb hby d2_241) rfl ?_
      show Steps p.tables e below (s₁.setTop (mkF m 242 #[.val (.int p0)] [(.int p0)])) _
      refine X0.ldcInt hx hown (mvT hZ (hw _ (List.mem_of_getElem? (i := 6) rfl))) (g := (mkF m 242 #[.val (.int p0)] [(.int p0)])) rfl (hb hby d2_242) _ ?_
      exact kt
    by_cases hc244 : p0 < (65536 : Int32)
    · refine own_via (A' := s₁.setTop (mkF m 247 #[.val (.int p0)] [])) (fun target kt => XS.icmpNo X0.here hx rfl (hb hby d2_244) rfl (tlt hc244).2.1 kt) ?_
      refine own_via (A' := s₁.setTop (mkF m 248 #[.val (.int p0)] [(.int (0 : Int32))])) (fun target kt => ?_) ?_
      · show Steps p.tables e below (s₁.setTop (mkF m 247 #[.val (.int p0)] [])) _
        refine XS.iconst X0.here hx rfl (hb hby d2_247) ?_
        exact kt
      exact own_retN X0 Bd.notSynchronized hx (t := .boolean) Bd.returns (by simp) (hb hby d2_248) (show Q2 Z p0 h0 n0 _ _ _ from ⟨by rw [show own_st own_R2 p0 = 0 from hv.trans (own_st_lo hc244)] <;> rfl, N0, e0⟩) (by decide) (by decide)
    · refine own_via (A' := s₁.setTop (mkF m 249 #[.val (.int p0)] [])) (fun target kt => XS.icmpYes X0.here hx rfl (pc0 := 244) (pc' := 249) rfl (hb hby d2_244) rfl (flt hc244).2.1 (by decide) (by decide) kt) ?_
      refine own_via (A' := s₁.setTop (mkF m 252 #[.val (.int p0)] [(.int (983039 : Int32)), (.int p0)])) (fun target kt => ?_) ?_
      · show Steps p.tables e below (s₁.setTop (mkF m 249 #[.val (.int p0)] [])) _
        refine XS.iloadN X0.here hx rfl (hb hby d2_249) rfl ?_
        show Steps p.tables e below (s₁.setTop (mkF m 250 #[.val (.int p0)] [(.int p0)])) _
        refine X0.ldcInt hx hown (mvT hZ (hw _ (List.mem_of_getElem? (i := 7) rfl))) (g := (mkF m 250 #[.val (.int p0)] [(.int p0)])) rfl (hb hby d2_250) _ ?_
        exact kt
      by_cases hc252 : (983039 : Int32) < p0
      · refine own_via (A' := s₁.setTop (mkF m 257 #[.val (.int p0)] [])) (fun target kt => XS.icmpYes X0.here hx rfl (pc0 := 252) (pc' := 257) rfl (hb hby d2_252) rfl (tlt hc252).2.2.1 (by decide) (by decide) kt) ?_
        exact j257 (hv.trans (own_st_hi hc244 hc252))
      · refine own_via (A' := s₁.setTop (mkF m 255 #[.val (.int p0)] [])) (fun target kt => XS.icmpNo X0.here hx rfl (hb hby d2_252) rfl (flt hc252).2.2.1 kt) ?_
        refine own_via (A' := s₁.setTop (mkF m 256 #[.val (.int p0)] [(.int (1 : Int32))])) (fun target kt => ?_) ?_
        · show Steps p.tables e below (s₁.setTop (mkF m 255 #[.val (.int p0)] [])) _
          refine XS.iconst X0.here hx rfl (hb hby d2_255) ?_
          exact kt
        exact own_retN X0 Bd.notSynchronized hx (t := .boolean) Bd.returns (by simp) (hb hby d2_256) (show Q2 Z p0 h0 n0 _ _ _ from ⟨by rw [show own_st own_R2 p0 = 1 from hv.trans (own_st_in hc244 hc252)] <;> rfl, N0, e0⟩) (by decide) (by decide)
  have j225 : own_st own_R2 p0 = own_st [(65008, 65533), (65536, 983039)] p0 → own_G p e below (own_P s (Q2 Z p0 h0 n0) 0 0) (s₁.setTop (mkF m 225 #[.val (.int p0)] [])) := fun hv => by
    refine own_via (A' := s₁.setTop (mkF m 228 #[.val (.int p0)] [(.int (65008 : Int32)), (.int p0)])) (fun target kt => ?_) ?_
    · show Steps p.tables e below (s₁.setTop (mkF m 225 #[.val (.int p0)] [])) _
      refine XS.iloadN X0.here hx rfl (hb hby d2_225) rfl ?_
      show Steps p.tables e below (s₁.setTop (mkF m 226 #[.val (.int p0)] [(.int p0)])) _
      refine X0.ldcInt hx hown (mvT hZ (hw _ (List.mem_of_getElem? (i := 4) rfl))) (g := (mkF m 226 #[.val (.int p0)] [(.int p0)])) rfl (hb hby d2_226) _ ?_
      exact kt
    by_cases hc228 : p0 < (65008 : Int32)
    · refine own_via (A' := s₁.setTop (mkF m 231 #[.val (.int p0)] [])) (fun target kt => XS.icmpNo X0.here hx rfl (hb hby d2_228) rfl (tlt hc228).2.1 kt) ?_
      refine own_via (A' := s₁.setTop (mkF m 232 #[.val (.int p0)] [(.int (0 : Int32))])) (fun target kt => ?_) ?_
      · show Steps p.tables e below (s₁.setTop (mkF m 231 #[.val (.int p0)] [])) _
        refine XS.iconst X0.here hx rfl (hb hby d2_231) ?_
        exact kt
      exact own_retN X0 Bd.notSynchronized hx (t := .boolean) Bd.returns (by simp) (hb hby d2_232) (show Q2 Z p0 h0 n0 _ _ _ from ⟨by rw [show own_st own_R2 p0 = 0 from hv.trans (own_st_lo hc228)] <;> rfl, N0, e0⟩) (by decide) (by decide)
    · refine own_via (A' := s₁.setTop (mkF m 233 #[.val (.int p0)] [])) (fun target kt => XS.icmpYes X0.here hx rfl (pc0 := 228) (pc' := 233) rfl (hb hby d2_228) rfl (flt hc228).2.1 (by decide) (by decide) kt) ?_
      refine own_via (A' := s₁.setTop (mkF m 236 #[.val (.int p0)] [(.int (65533 : Int32)), (.int p0)])) (fun target kt => ?_) ?_
      · show Steps p.tables e below (s₁.setTop (mkF m 233 #[.val (.int p0)] [])) _
        refine XS.iloadN X0.here hx rfl (hb hby d2_233) rfl ?_
        show Steps p.tables e below (s₁.setTop (mkF m 234 #[.val (.int p0)] [(.int p0)])) _
        refine X0.ldcInt hx hown (mvT hZ (hw _ (List.mem_of_getElem? (i := 5) rfl))) (g := (mkF m 234 #[.val (.int p0)] [(.int p0)])) rfl (hb hby d2_234) _ ?_
        exact kt
      by_cases hc236 : (65533 : Int32) < p0
      · refine own_via (A' := s₁.setTop (mkF m 241 #[.val (.int p0)] [])) (fun target kt => XS.icmpYes X0.here hx rfl (pc0 := 236) (pc' := 241) rfl (hb hby d2_236) rfl (tlt hc236).2.2.1 (by decide) (by decide) kt) ?_
        exact j241 (hv.trans (own_st_hi hc228 hc236))
      · refine own_via (A' := s₁.setTop (mkF m 239 #[.val (.int p0)] [])) (fun target kt => XS.icmpNo X0.here hx rfl (hb hby d2_236) rfl (flt hc236).2.2.1 kt) ?_
        refine own_via (A' := s₁.setTop (mkF m 240 #[.val (.int p0)] [(.int (1 : Int32))])) (fun target kt => ?_) ?_
        · show Steps p.tables e below (s₁.setTop (mkF m 239 #[.val (.int p0)] [])) _
          refine XS.iconst X0.here hx rfl (hb hby d2_239) ?_
          exact kt
        exact own_retN X0 Bd.notSynchronized hx (t := .boolean) Bd.returns (by simp) (hb hby d2_240) (show Q2 Z p0 h0 n0 _ _ _ from ⟨by rw [show own_st own_R2 p0 = 1 from hv.trans (own_st_in hc228 hc236)] <;> rfl, N0, e0⟩) (by decide) (by decide)
  have j209 : own_st own_R2 p0 = own_st [(63744, 64975), (65008, 65533), (65536, 983039)] p0 → own_G p e below (own_P s (Q2 Z p0 h0 n0) 0 0) (s₁.setTop (mkF m 209 #[.val (.int p0)] [])) := fun hv => by
    refine own_via (A' := s₁.setTop (mkF m 212 #[.val (.int p0)] [(.int (63744 : Int32)), (.int p0)])) (fun target kt => ?_) ?_
    · show Steps p.tables e below (s₁.setTop (mkF m 209 #[.val (.int p0)] [])) _
      refine XS.iloadN X0.here hx rfl (hb hby d2_209) rfl ?_
      show Steps p.tables e below (s₁.setTop (mkF m 210 #[.val (.int p0)] [(.int p0)])) _
      refine X0.ldcInt hx hown (mvT hZ (hw _ (List.mem_of_getElem? (i := 2) rfl))) (g := (mkF m 210 #[.val (.int p0)] [(.int p0)])) rfl (hb hby d2_210) _ ?_
      exact kt
    by_cases hc212 : p0 < (63744 : Int32)
    · refine own_via (A' := s₁.setTop (mkF m 215 #[.val (.int p0)] [])) (fun target kt => XS.icmpNo X0.here hx rfl (hb hby d2_212) rfl (tlt hc212).2.1 kt) ?_
      refine own_via (A' := s₁.setTop (mkF m 216 #[.val (.int p0)] [(.int (0 : Int32))])) (fun target kt => ?_) ?_
      · show Steps p.tables e below (s₁.setTop (mkF m 215 #[.val (.int p0)] [])) _
        refine XS.iconst X0.here hx rfl (hb hby d2_215) ?_
        exact kt
      exact own_retN X0 Bd.notSynchronized hx (t := .boolean) Bd.returns (by simp) (hb hby d2_216) (show Q2 Z p0 h0 n0 _ _ _ from ⟨by rw [show own_st own_R2 p0 = 0 from hv.trans (own_st_lo hc212)] <;> rfl, N0, e0⟩) (by decide) (by decide)
    · refine own_via (A' := s₁.setTop (mkF m 217 #[.val (.int p0)] [])) (fun target kt => XS.icmpYes X0.here hx rfl (pc0 := 212) (pc' := 217) rfl (hb hby d2_212) rfl (flt hc212).2.1 (by decide) (by decide) kt) ?_
      refine own_via (A' := s₁.setTop (mkF m 220 #[.val (.int p0)] [(.int (64975 : Int32)), (.int p0)])) (fun target kt => ?_) ?_
      · show Steps p.tables e below (s₁.setTop (mkF m 217 #[.val (.int p0)] [])) _
        refine XS.iloadN X0.here hx rfl (hb hby d2_217) rfl ?_
        show Steps p.tables e below (s₁.setTop (mkF m 218 #[.val (.int p0)] [(.int p0)])) _
        refine X0.ldcInt hx hown (mvT hZ (hw _ (List.mem_of_getElem? (i := 3) rfl))) (g := (mkF m 218 #[.val (.int p0)] [(.int p0)])) rfl (hb hby d2_218) _ ?_
        exact kt
      by_cases hc220 : (64975 : Int32) < p0
      · refine own_via (A' := s₁.setTop (mkF m 225 #[.val (.int p0)] [])) (fun target kt => XS.icmpYes X0.here hx rfl (pc0 := 220) (pc' := 225) rfl (hb hby d2_220) rfl (tlt hc220).2.2.1 (by decide) (by decide) kt) ?_
        exact j225 (hv.trans (own_st_hi hc212 hc220))
      · refine own_via (A' := s₁.setTop (mkF m 223 #[.val (.int p0)] [])) (fun target kt => XS.icmpNo X0.here hx rfl (hb hby d2_220) rfl (flt hc220).2.2.1 kt) ?_
        refine own_via (A' := s₁.setTop (mkF m 224 #[.val (.int p0)] [(.int (1 : Int32))])) (fun target kt => ?_) ?_
        · show Steps p.tables e below (s₁.setTop (mkF m 223 #[.val (.int p0)] [])) _
          refine XS.iconst X0.here hx rfl (hb hby d2_223) ?_
          exact kt
        exact own_retN X0 Bd.notSynchronized hx (t := .boolean) Bd.returns (by simp) (hb hby d2_224) (show Q2 Z p0 h0 n0 _ _ _ from ⟨by rw [show own_st own_R2 p0 = 1 from hv.trans (own_st_in hc212 hc220)] <;> rfl, N0, e0⟩) (by decide) (by decide)
  have j192 : own_st own_R2 p0 = own_st [(12289, 55295), (63744, 64975), (65008, 65533), (65536, 983039)] p0 → own_G p e below (own_P s (Q2 Z p0 h0 n0) 0 0) (s₁.setTop (mkF m 192 #[.val (.int p0)] [])) := fun hv => by
    refine own_via (A' := s₁.setTop (mkF m 196 #[.val (.int p0)] [(.int (12289 : Int32)), (.int p0)])) (fun target kt => ?_) ?_
    · show Steps p.tables e below (s₁.setTop (mkF m 192 #[.val (.int p0)] [])) _
      refine XS.iloadN X0.here hx rfl (hb hby d2_192) rfl ?_
      show Steps p.tables e below (s₁.setTop (mkF m 193 #[.val (.int p0)] [(.int p0)])) _
      refine XS.sipush X0.here hx rfl (hb hby d2_193) ?_
      exact kt
    by_cases hc196 : p0 < (12289 : Int32)
    · refine own_via (A' := s₁.setTop (mkF m 199 #[.val (.int p0)] [])) (fun target kt => XS.icmpNo X0.here hx rfl (hb hby d2_196) rfl (tlt hc196).2.1 kt) ?_
      refine own_via (A' := s₁.setTop (mkF m 200 #[.val (.int p0)] [(.int (0 : Int32))])) (fun target kt => ?_) ?_
      · show Steps p.tables e below (s₁.setTop (mkF m 199 #[.val (.int p0)] [])) _
        refine XS.iconst X0.here hx rfl (hb hby d2_199) ?_
        exact kt
      exact own_retN X0 Bd.notSynchronized hx (t := .boolean) Bd.returns (by simp) (hb hby d2_200) (show Q2 Z p0 h0 n0 _ _ _ from ⟨by rw [show own_st own_R2 p0 = 0 from hv.trans (own_st_lo hc196)] <;> rfl, N0, e0⟩) (by decide) (by decide)
    · refine own_via (A' := s₁.setTop (mkF m 201 #[.val (.int p0)] [])) (fun target kt => XS.icmpYes X0.here hx rfl (pc0 := 196) (pc' := 201) rfl (hb hby d2_196) rfl (flt hc196).2.1 (by decide) (by decide) kt) ?_
      refine own_via (A' := s₁.setTop (mkF m 204 #[.val (.int p0)] [(.int (55295 : Int32)), (.int p0)])) (fun target kt => ?_) ?_
      · show Steps p.tables e below (s₁.setTop (mkF m 201 #[.val (.int p0)] [])) _
        refine XS.iloadN X0.here hx rfl (hb hby d2_201) rfl ?_
        show Steps p.tables e below (s₁.setTop (mkF m 202 #[.val (.int p0)] [(.int p0)])) _
        refine X0.ldcInt hx hown (mvT hZ (hw _ (List.mem_of_getElem? (i := 1) rfl))) (g := (mkF m 202 #[.val (.int p0)] [(.int p0)])) rfl (hb hby d2_202) _ ?_
        exact kt
      by_cases hc204 : (55295 : Int32) < p0
      · refine own_via (A' := s₁.setTop (mkF m 209 #[.val (.int p0)] [])) (fun target kt => XS.icmpYes X0.here hx rfl (pc0 := 204) (pc' := 209) rfl (hb hby d2_204) rfl (tlt hc204).2.2.1 (by decide) (by decide) kt) ?_
        exact j209 (hv.trans (own_st_hi hc196 hc204))
      · refine own_via (A' := s₁.setTop (mkF m 207 #[.val (.int p0)] [])) (fun target kt => XS.icmpNo X0.here hx rfl (hb hby d2_204) rfl (flt hc204).2.2.1 kt) ?_
        refine own_via (A' := s₁.setTop (mkF m 208 #[.val (.int p0)] [(.int (1 : Int32))])) (fun target kt => ?_) ?_
        · show Steps p.tables e below (s₁.setTop (mkF m 207 #[.val (.int p0)] [])) _
          refine XS.iconst X0.here hx rfl (hb hby d2_207) ?_
          exact kt
        exact own_retN X0 Bd.notSynchronized hx (t := .boolean) Bd.returns (by simp) (hb hby d2_208) (show Q2 Z p0 h0 n0 _ _ _ from ⟨by rw [show own_st own_R2 p0 = 1 from hv.trans (own_st_in hc196 hc204)] <;> rfl, N0, e0⟩) (by decide) (by decide)
  have j174 : own_st own_R2 p0 = own_st [(11264, 12271), (12289, 55295), (63744, 64975), (65008, 65533), (65536, 983039)] p0 → own_G p e below (own_P s (Q2 Z p0 h0 n0) 0 0) (s₁.setTop (mkF m 174 #[.val (.int p0)] [])) := fun hv => by
    refine own_via (A' := s₁.setTop (mkF m 178 #[.val (.int p0)] [(.int (11264 : Int32)), (.int p0)])) (fun target kt => ?_) ?_
    · show Steps p.tables e below (s₁.setTop (mkF m 174 #[.val (.int p0)] [])) _
      refine XS.iloadN X0.here hx rfl (hb hby d2_174) rfl ?_
      show Steps p.tables e below (s₁.setTop (mkF m 175 #[.val (.int p0)] [(.int p0)])) _
      refine XS.sipush X0.here hx rfl (hb hby d2_175) ?_
      exact kt
    by_cases hc178 : p0 < (11264 : Int32)
    · refine own_via (A' := s₁.setTop (mkF m 181 #[.val (.int p0)] [])) (fun target kt => XS.icmpNo X0.here hx rfl (hb hby d2_178) rfl (tlt hc178).2.1 kt) ?_
      refine own_via (A' := s₁.setTop (mkF m 182 #[.val (.int p0)] [(.int (0 : Int32))])) (fun target kt => ?_) ?_
      · show Steps p.tables e below (s₁.setTop (mkF m 181 #[.val (.int p0)] [])) _
        refine XS.iconst X0.here hx rfl (hb hby d2_181) ?_
        exact kt
      exact own_retN X0 Bd.notSynchronized hx (t := .boolean) Bd.returns (by simp) (hb hby d2_182) (show Q2 Z p0 h0 n0 _ _ _ from ⟨by rw [show own_st own_R2 p0 = 0 from hv.trans (own_st_lo hc178)] <;> rfl, N0, e0⟩) (by decide) (by decide)
    · refine own_via (A' := s₁.setTop (mkF m 183 #[.val (.int p0)] [])) (fun target kt => XS.icmpYes X0.here hx rfl (pc0 := 178) (pc' := 183) rfl (hb hby d2_178) rfl (flt hc178).2.1 (by decide) (by decide) kt) ?_
      refine own_via (A' := s₁.setTop (mkF m 187 #[.val (.int p0)] [(.int (12271 : Int32)), (.int p0)])) (fun target kt => ?_) ?_
      · show Steps p.tables e below (s₁.setTop (mkF m 183 #[.val (.int p0)] [])) _
        refine XS.iloadN X0.here hx rfl (hb hby d2_183) rfl ?_
        show Steps p.tables e below (s₁.setTop (mkF m 184 #[.val (.int p0)] [(.int p0)])) _
        refine XS.sipush X0.here hx rfl (hb hby d2_184) ?_
        exact kt
      by_cases hc187 : (12271 : Int32) < p0
      · refine own_via (A' := s₁.setTop (mkF m 192 #[.val (.int p0)] [])) (fun target kt => XS.icmpYes X0.here hx rfl (pc0 := 187) (pc' := 192) rfl (hb hby d2_187) rfl (tlt hc187).2.2.1 (by decide) (by decide) kt) ?_
        exact j192 (hv.trans (own_st_hi hc178 hc187))
      · refine own_via (A' := s₁.setTop (mkF m 190 #[.val (.int p0)] [])) (fun target kt => XS.icmpNo X0.here hx rfl (hb hby d2_187) rfl (flt hc187).2.2.1 kt) ?_
        refine own_via (A' := s₁.setTop (mkF m 191 #[.val (.int p0)] [(.int (1 : Int32))])) (fun target kt => ?_) ?_
        · show Steps p.tables e below (s₁.setTop (mkF m 190 #[.val (.int p0)] [])) _
          refine XS.iconst X0.here hx rfl (hb hby d2_190) ?_
          exact kt
        exact own_retN X0 Bd.notSynchronized hx (t := .boolean) Bd.returns (by simp) (hb hby d2_191) (show Q2 Z p0 h0 n0 _ _ _ from ⟨by rw [show own_st own_R2 p0 = 1 from hv.trans (own_st_in hc178 hc187)] <;> rfl, N0, e0⟩) (by decide) (by decide)
  have j156 : own_st own_R2 p0 = own_st [(8304, 8591), (11264, 12271), (12289, 55295), (63744, 64975), (65008, 65533), (65536, 983039)] p0 → own_G p e below (own_P s (Q2 Z p0 h0 n0) 0 0) (s₁.setTop (mkF m 156 #[.val (.int p0)] [])) := fun hv => by
    refine own_via (A' := s₁.setTop (mkF m 160 #[.val (.int p0)] [(.int (8304 : Int32)), (.int p0)])) (fun target kt => ?_) ?_
    · show Steps p.tables e below (s₁.setTop (mkF m 156 #[.val (.int p0)] [])) _
      refine XS.iloadN X0.here hx rfl (hb hby d2_156) rfl ?_
      show Steps p.tables e below (s₁.setTop (mkF m 157 #[.val (.int p0)] [(.int p0)])) _
      refine XS.sipush X0.here hx rfl (hb hby d2_157) ?_
      exact kt
    by_cases hc160 : p0 < (8304 : Int32)
    · refine own_via (A' := s₁.setTop (mkF m 163 #[.val (.int p0)] [])) (fun target kt => XS.icmpNo X0.here hx rfl (hb hby d2_160) rfl (tlt hc160).2.1 kt) ?_
      refine own_via (A' := s₁.setTop (mkF m 164 #[.val (.int p0)] [(.int (0 : Int32))])) (fun target kt => ?_) ?_
      · show Steps p.tables e below (s₁.setTop (mkF m 163 #[.val (.int p0)] [])) _
        refine XS.iconst X0.here hx rfl (hb hby d2_163) ?_
        exact kt
      exact own_retN X0 Bd.notSynchronized hx (t := .boolean) Bd.returns (by simp) (hb hby d2_164) (show Q2 Z p0 h0 n0 _ _ _ from ⟨by rw [show own_st own_R2 p0 = 0 from hv.trans (own_st_lo hc160)] <;> rfl, N0, e0⟩) (by decide) (by decide)
    · refine own_via (A' := s₁.setTop (mkF m 165 #[.val (.int p0)] [])) (fun target kt => XS.icmpYes X0.here hx rfl (pc0 := 160) (pc' := 165) rfl (hb hby d2_160) rfl (flt hc160).2.1 (by decide) (by decide) kt) ?_
      refine own_via (A' := s₁.setTop (mkF m 169 #[.val (.int p0)] [(.int (8591 : Int32)), (.int p0)])) (fun target kt => ?_) ?_
      · show Steps p.tables e below (s₁.setTop (mkF m 165 #[.val (.int p0)] [])) _
        refine XS.iloadN X0.here hx rfl (hb hby d2_165) rfl ?_
        show Steps p.tables e below (s₁.setTop (mkF m 166 #[.val (.int p0)] [(.int p0)])) _
        refine XS.sipush X0.here hx rfl (hb hby d2_166) ?_
        exact kt
      by_cases hc169 : (8591 : Int32) < p0
      · refine own_via (A' := s₁.setTop (mkF m 174 #[.val (.int p0)] [])) (fun target kt => XS.icmpYes X0.here hx rfl (pc0 := 169) (pc' := 174) rfl (hb hby d2_169) rfl (tlt hc169).2.2.1 (by decide) (by decide) kt) ?_
        exact j174 (hv.trans (own_st_hi hc160 hc169))
      · refine own_via (A' := s₁.setTop (mkF m 172 #[.val (.int p0)] [])) (fun target kt => XS.icmpNo X0.here hx rfl (hb hby d2_169) rfl (flt hc169).2.2.1 kt) ?_
        refine own_via (A' := s₁.setTop (mkF m 173 #[.val (.int p0)] [(.int (1 : Int32))])) (fun target kt => ?_) ?_
        · show Steps p.tables e below (s₁.setTop (mkF m 172 #[.val (.int p0)] [])) _
          refine XS.iconst X0.here hx rfl (hb hby d2_172) ?_
          exact kt
        exact own_retN X0 Bd.notSynchronized hx (t := .boolean) Bd.returns (by simp) (hb hby d2_173) (show Q2 Z p0 h0 n0 _ _ _ from ⟨by rw [show own_st own_R2 p0 = 1 from hv.trans (own_st_in hc160 hc169)] <;> rfl, N0, e0⟩) (by decide) (by decide)
  have j138 : own_st own_R2 p0 = own_st [(8204, 8205), (8304, 8591), (11264, 12271), (12289, 55295), (63744, 64975), (65008, 65533), (65536, 983039)] p0 → own_G p e below (own_P s (Q2 Z p0 h0 n0) 0 0) (s₁.setTop (mkF m 138 #[.val (.int p0)] [])) := fun hv => by
    refine own_via (A' := s₁.setTop (mkF m 142 #[.val (.int p0)] [(.int (8204 : Int32)), (.int p0)])) (fun target kt => ?_) ?_
    · show Steps p.tables e below (s₁.setTop (mkF m 138 #[.val (.int p0)] [])) _
      refine XS.iloadN X0.here hx rfl (hb hby d2_138) rfl ?_
      show Steps p.tables e below (s₁.setTop (mkF m 139 #[.val (.int p0)] [(.int p0)])) _
      refine XS.sipush X0.here hx rfl (hb hby d2_139) ?_
      exact kt
    by_cases hc142 : p0 < (8204 : Int32)
    · refine own_via (A' := s₁.setTop (mkF m 145 #[.val (.int p0)] [])) (fun target kt => XS.icmpNo X0.here hx rfl (hb hby d2_142) rfl (tlt hc142).2.1 kt) ?_
      refine own_via (A' := s₁.setTop (mkF m 146 #[.val (.int p0)] [(.int (0 : Int32))])) (fun target kt => ?_) ?_
      · show Steps p.tables e below (s₁.setTop (mkF m 145 #[.val (.int p0)] [])) _
        refine XS.iconst X0.here hx rfl (hb hby d2_145) ?_
        exact kt
      exact own_retN X0 Bd.notSynchronized hx (t := .boolean) Bd.returns (by simp) (hb hby d2_146) (show Q2 Z p0 h0 n0 _ _ _ from ⟨by rw [show own_st own_R2 p0 = 0 from hv.trans (own_st_lo hc142)] <;> rfl, N0, e0⟩) (by decide) (by decide)
    · refine own_via (A' := s₁.setTop (mkF m 147 #[.val (.int p0)] [])) (fun target kt => XS.icmpYes X0.here hx rfl (pc0 := 142) (pc' := 147) rfl (hb hby d2_142) rfl (flt hc142).2.1 (by decide) (by decide) kt) ?_
      refine own_via (A' := s₁.setTop (mkF m 151 #[.val (.int p0)] [(.int (8205 : Int32)), (.int p0)])) (fun target kt => ?_) ?_
      · show Steps p.tables e below (s₁.setTop (mkF m 147 #[.val (.int p0)] [])) _
        refine XS.iloadN X0.here hx rfl (hb hby d2_147) rfl ?_
        show Steps p.tables e below (s₁.setTop (mkF m 148 #[.val (.int p0)] [(.int p0)])) _
        refine XS.sipush X0.here hx rfl (hb hby d2_148) ?_
        exact kt
      by_cases hc151 : (8205 : Int32) < p0
      · refine own_via (A' := s₁.setTop (mkF m 156 #[.val (.int p0)] [])) (fun target kt => XS.icmpYes X0.here hx rfl (pc0 := 151) (pc' := 156) rfl (hb hby d2_151) rfl (tlt hc151).2.2.1 (by decide) (by decide) kt) ?_
        exact j156 (hv.trans (own_st_hi hc142 hc151))
      · refine own_via (A' := s₁.setTop (mkF m 154 #[.val (.int p0)] [])) (fun target kt => XS.icmpNo X0.here hx rfl (hb hby d2_151) rfl (flt hc151).2.2.1 kt) ?_
        refine own_via (A' := s₁.setTop (mkF m 155 #[.val (.int p0)] [(.int (1 : Int32))])) (fun target kt => ?_) ?_
        · show Steps p.tables e below (s₁.setTop (mkF m 154 #[.val (.int p0)] [])) _
          refine XS.iconst X0.here hx rfl (hb hby d2_154) ?_
          exact kt
        exact own_retN X0 Bd.notSynchronized hx (t := .boolean) Bd.returns (by simp) (hb hby d2_155) (show Q2 Z p0 h0 n0 _ _ _ from ⟨by rw [show own_st own_R2 p0 = 1 from hv.trans (own_st_in hc142 hc151)] <;> rfl, N0, e0⟩) (by decide) (by decide)
  have j120 : own_st own_R2 p0 = own_st [(895, 8191), (8204, 8205), (8304, 8591), (11264, 12271), (12289, 55295), (63744, 64975), (65008, 65533), (65536, 983039)] p0 → own_G p e below (own_P s (Q2 Z p0 h0 n0) 0 0) (s₁.setTop (mkF m 120 #[.val (.int p0)] [])) := fun hv => by
    refine own_via (A' := s₁.setTop (mkF m 124 #[.val (.int p0)] [(.int (895 : Int32)), (.int p0)])) (fun target kt => ?_) ?_
    · show Steps p.tables e below (s₁.setTop (mkF m 120 #[.val (.int p0)] [])) _
      refine XS.iloadN X0.here hx rfl (hb hby d2_120) rfl ?_
      show Steps p.tables e below (s₁.setTop (mkF m 121 #[.val (.int p0)] [(.int p0)])) _
      refine XS.sipush X0.here hx rfl (hb hby d2_121) ?_
      exact kt
    by_cases hc124 : p0 < (895 : Int32)
    · refine own_via (A' := s₁.setTop (mkF m 127 #[.val (.int p0)] [])) (fun target kt => XS.icmpNo X0.here hx rfl (hb hby d2_124) rfl (tlt hc124).2.1 kt) ?_
      refine own_via (A' := s₁.setTop (mkF m 128 #[.val (.int p0)] [(.int (0 : Int32))])) (fun target kt => ?_) ?_
      · show Steps p.tables e below (s₁.setTop (mkF m 127 #[.val (.int p0)] [])) _
        refine XS.iconst X0.here hx rfl (hb hby d2_127) ?_
        exact kt
      exact own_retN X0 Bd.notSynchronized hx (t := .boolean) Bd.returns (by simp) (hb hby d2_128) (show Q2 Z p0 h0 n0 _ _ _ from ⟨by rw [show own_st own_R2 p0 = 0 from hv.trans (own_st_lo hc124)] <;> rfl, N0, e0⟩) (by decide) (by decide)
    · refine own_via (A' := s₁.setTop (mkF m 129 #[.val (.int p0)] [])) (fun target kt => XS.icmpYes X0.here hx rfl (pc0 := 124) (pc' := 129) rfl (hb hby d2_124) rfl (flt hc124).2.1 (by decide) (by decide) kt) ?_
      refine own_via (A' := s₁.setTop (mkF m 133 #[.val (.int p0)] [(.int (8191 : Int32)), (.int p0)])) (fun target kt => ?_) ?_
      · show Steps p.tables e below (s₁.setTop (mkF m 129 #[.val (.int p0)] [])) _
        refine XS.iloadN X0.here hx rfl (hb hby d2_129) rfl ?_
        show Steps p.tables e below (s₁.setTop (mkF m 130 #[.val (.int p0)] [(.int p0)])) _
        refine XS.sipush X0.here hx rfl (hb hby d2_130) ?_
        exact kt
      by_cases hc133 : (8191 : Int32) < p0
      · refine own_via (A' := s₁.setTop (mkF m 138 #[.val (.int p0)] [])) (fun target kt => XS.icmpYes X0.here hx rfl (pc0 := 133) (pc' := 138) rfl (hb hby d2_133) rfl (tlt hc133).2.2.1 (by decide) (by decide) kt) ?_
        exact j138 (hv.trans (own_st_hi hc124 hc133))
      · refine own_via (A' := s₁.setTop (mkF m 136 #[.val (.int p0)] [])) (fun target kt => XS.icmpNo X0.here hx rfl (hb hby d2_133) rfl (flt hc133).2.2.1 kt) ?_
        refine own_via (A' := s₁.setTop (mkF m 137 #[.val (.int p0)] [(.int (1 : Int32))])) (fun target kt => ?_) ?_
        · show Steps p.tables e below (s₁.setTop (mkF m 136 #[.val (.int p0)] [])) _
          refine XS.iconst X0.here hx rfl (hb hby d2_136) ?_
          exact kt
        exact own_retN X0 Bd.notSynchronized hx (t := .boolean) Bd.returns (by simp) (hb hby d2_137) (show Q2 Z p0 h0 n0 _ _ _ from ⟨by rw [show own_st own_R2 p0 = 1 from hv.trans (own_st_in hc124 hc133)] <;> rfl, N0, e0⟩) (by decide) (by decide)
  have j102 : own_st own_R2 p0 = own_st [(880, 893), (895, 8191), (8204, 8205), (8304, 8591), (11264, 12271), (12289, 55295), (63744, 64975), (65008, 65533), (65536, 983039)] p0 → own_G p e below (own_P s (Q2 Z p0 h0 n0) 0 0) (s₁.setTop (mkF m 102 #[.val (.int p0)] [])) := fun hv => by
    refine own_via (A' := s₁.setTop (mkF m 106 #[.val (.int p0)] [(.int (880 : Int32)), (.int p0)])) (fun target kt => ?_) ?_
    · show Steps p.tables e below (s₁.setTop (mkF m 102 #[.val (.int p0)] [])) _
      refine XS.iloadN X0.here hx rfl (hb hby d2_102) rfl ?_
      show Steps p.tables e below (s₁.setTop (mkF m 103 #[.val (.int p0)] [(.int p0)])) _
      refine XS.sipush X0.here hx rfl (hb hby d2_103) ?_
      exact kt
    by_cases hc106 : p0 < (880 : Int32)
    · refine own_via (A' := s₁.setTop (mkF m 109 #[.val (.int p0)] [])) (fun target kt => XS.icmpNo X0.here hx rfl (hb hby d2_106) rfl (tlt hc106).2.1 kt) ?_
      refine own_via (A' := s₁.setTop (mkF m 110 #[.val (.int p0)] [(.int (0 : Int32))])) (fun target kt => ?_) ?_
      · show Steps p.tables e below (s₁.setTop (mkF m 109 #[.val (.int p0)] [])) _
        refine XS.iconst X0.here hx rfl (hb hby d2_109) ?_
        exact kt
      exact own_retN X0 Bd.notSynchronized hx (t := .boolean) Bd.returns (by simp) (hb hby d2_110) (show Q2 Z p0 h0 n0 _ _ _ from ⟨by rw [show own_st own_R2 p0 = 0 from hv.trans (own_st_lo hc106)] <;> rfl, N0, e0⟩) (by decide) (by decide)
    · refine own_via (A' := s₁.setTop (mkF m 111 #[.val (.int p0)] [])) (fun target kt => XS.icmpYes X0.here hx rfl (pc0 := 106) (pc' := 111) rfl (hb hby d2_106) rfl (flt hc106).2.1 (by decide) (by decide) kt) ?_
      refine own_via (A' := s₁.setTop (mkF m 115 #[.val (.int p0)] [(.int (893 : Int32)), (.int p0)])) (fun target kt => ?_) ?_
      · show Steps p.tables e below (s₁.setTop (mkF m 111 #[.val (.int p0)] [])) _
        refine XS.iloadN X0.here hx rfl (hb hby d2_111) rfl ?_
        show Steps p.tables e below (s₁.setTop (mkF m 112 #[.val (.int p0)] [(.int p0)])) _
        refine XS.sipush X0.here hx rfl (hb hby d2_112) ?_
        exact kt
      by_cases hc115 : (893 : Int32) < p0
      · refine own_via (A' := s₁.setTop (mkF m 120 #[.val (.int p0)] [])) (fun target kt => XS.icmpYes X0.here hx rfl (pc0 := 115) (pc' := 120) rfl (hb hby d2_115) rfl (tlt hc115).2.2.1 (by decide) (by decide) kt) ?_
        exact j120 (hv.trans (own_st_hi hc106 hc115))
      · refine own_via (A' := s₁.setTop (mkF m 118 #[.val (.int p0)] [])) (fun target kt => XS.icmpNo X0.here hx rfl (hb hby d2_115) rfl (flt hc115).2.2.1 kt) ?_
        refine own_via (A' := s₁.setTop (mkF m 119 #[.val (.int p0)] [(.int (1 : Int32))])) (fun target kt => ?_) ?_
        · show Steps p.tables e below (s₁.setTop (mkF m 118 #[.val (.int p0)] [])) _
          refine XS.iconst X0.here hx rfl (hb hby d2_118) ?_
          exact kt
        exact own_retN X0 Bd.notSynchronized hx (t := .boolean) Bd.returns (by simp) (hb hby d2_119) (show Q2 Z p0 h0 n0 _ _ _ from ⟨by rw [show own_st own_R2 p0 = 1 from hv.trans (own_st_in hc106 hc115)] <;> rfl, N0, e0⟩) (by decide) (by decide)
  have j84 : own_st own_R2 p0 = own_st [(248, 767), (880, 893), (895, 8191), (8204, 8205), (8304, 8591), (11264, 12271), (12289, 55295), (63744, 64975), (65008, 65533), (65536, 983039)] p0 → own_G p e below (own_P s (Q2 Z p0 h0 n0) 0 0) (s₁.setTop (mkF m 84 #[.val (.int p0)] [])) := fun hv => by
    refine own_via (A' := s₁.setTop (mkF m 88 #[.val (.int p0)] [(.int (248 : Int32)), (.int p0)])) (fun target kt => ?_) ?_
    · show Steps p.tables e below (s₁.setTop (mkF m 84 #[.val (.int p0)] [])) _
      refine XS.iloadN X0.here hx rfl (hb hby d2_84) rfl ?_
      show Steps p.tables e below (s₁.setTop (mkF m 85 #[.val (.int p0)] [(.int p0)])) _
      refine XS.sipush X0.here hx rfl (hb hby d2_85) ?_
      exact kt
    by_cases hc88 : p0 < (248 : Int32)
    · refine own_via (A' := s₁.setTop (mkF m 91 #[.val (.int p0)] [])) (fun target kt => XS.icmpNo X0.here hx rfl (hb hby d2_88) rfl (tlt hc88).2.1 kt) ?_
      refine own_via (A' := s₁.setTop (mkF m 92 #[.val (.int p0)] [(.int (0 : Int32))])) (fun target kt => ?_) ?_
      · show Steps p.tables e below (s₁.setTop (mkF m 91 #[.val (.int p0)] [])) _
        refine XS.iconst X0.here hx rfl (hb hby d2_91) ?_
        exact kt
      exact own_retN X0 Bd.notSynchronized hx (t := .boolean) Bd.returns (by simp) (hb hby d2_92) (show Q2 Z p0 h0 n0 _ _ _ from ⟨by rw [show own_st own_R2 p0 = 0 from hv.trans (own_st_lo hc88)] <;> rfl, N0, e0⟩) (by decide) (by decide)
    · refine own_via (A' := s₁.setTop (mkF m 93 #[.val (.int p0)] [])) (fun target kt => XS.icmpYes X0.here hx rfl (pc0 := 88) (pc' := 93) rfl (hb hby d2_88) rfl (flt hc88).2.1 (by decide) (by decide) kt) ?_
      refine own_via (A' := s₁.setTop (mkF m 97 #[.val (.int p0)] [(.int (767 : Int32)), (.int p0)])) (fun target kt => ?_) ?_
      · show Steps p.tables e below (s₁.setTop (mkF m 93 #[.val (.int p0)] [])) _
        refine XS.iloadN X0.here hx rfl (hb hby d2_93) rfl ?_
        show Steps p.tables e below (s₁.setTop (mkF m 94 #[.val (.int p0)] [(.int p0)])) _
        refine XS.sipush X0.here hx rfl (hb hby d2_94) ?_
        exact kt
      by_cases hc97 : (767 : Int32) < p0
      · refine own_via (A' := s₁.setTop (mkF m 102 #[.val (.int p0)] [])) (fun target kt => XS.icmpYes X0.here hx rfl (pc0 := 97) (pc' := 102) rfl (hb hby d2_97) rfl (tlt hc97).2.2.1 (by decide) (by decide) kt) ?_
        exact j102 (hv.trans (own_st_hi hc88 hc97))
      · refine own_via (A' := s₁.setTop (mkF m 100 #[.val (.int p0)] [])) (fun target kt => XS.icmpNo X0.here hx rfl (hb hby d2_97) rfl (flt hc97).2.2.1 kt) ?_
        refine own_via (A' := s₁.setTop (mkF m 101 #[.val (.int p0)] [(.int (1 : Int32))])) (fun target kt => ?_) ?_
        · show Steps p.tables e below (s₁.setTop (mkF m 100 #[.val (.int p0)] [])) _
          refine XS.iconst X0.here hx rfl (hb hby d2_100) ?_
          exact kt
        exact own_retN X0 Bd.notSynchronized hx (t := .boolean) Bd.returns (by simp) (hb hby d2_101) (show Q2 Z p0 h0 n0 _ _ _ from ⟨by rw [show own_st own_R2 p0 = 1 from hv.trans (own_st_in hc88 hc97)] <;> rfl, N0, e0⟩) (by decide) (by decide)
  have j66 : own_st own_R2 p0 = own_st [(216, 246), (248, 767), (880, 893), (895, 8191), (8204, 8205), (8304, 8591), (11264, 12271), (12289, 55295), (63744, 64975), (65008, 65533), (65536, 983039)] p0 → own_G p e below (own_P s (Q2 Z p0 h0 n0) 0 0) (s₁.setTop (mkF m 66 #[.val (.int p0)] [])) := fun hv => by
    refine own_via (A' := s₁.setTop (mkF m 70 #[.val (.int p0)] [(.int (216 : Int32)), (.int p0)])) (fun target kt => ?_) ?_
    · show Steps p.tables e below (s₁.setTop (mkF m 66 #[.val (.int p0)] [])) _
      refine XS.iloadN X0.here hx rfl (hb hby d2_66) rfl ?_
      show Steps p.tables e below (s₁.setTop (mkF m 67 #[.val (.int p0)] [(.int p0)])) _
      refine XS.sipush X0.here hx rfl (hb hby d2_67) ?_
      exact kt
    by_cases hc70 : p0 < (216 : Int32)
    · refine own_via (A' := s₁.setTop (mkF m 73 #[.val (.int p0)] [])) (fun target kt => XS.icmpNo X0.here hx rfl (hb hby d2_70) rfl (tlt hc70).2.1 kt) ?_
      refine own_via (A' := s₁.setTop (mkF m 74 #[.val (.int p0)] [(.int (0 : Int32))])) (fun target kt => ?_) ?_
      · show Steps p.tables e below (s₁.setTop (mkF m 73 #[.val (.int p0)] [])) _
        refine XS.iconst X0.here hx rfl (hb hby d2_73) ?_
        exact kt
      exact own_retN X0 Bd.notSynchronized hx (t := .boolean) Bd.returns (by simp) (hb hby d2_74) (show Q2 Z p0 h0 n0 _ _ _ from ⟨by rw [show own_st own_R2 p0 = 0 from hv.trans (own_st_lo hc70)] <;> rfl, N0, e0⟩) (by decide) (by decide)
    · refine own_via (A' := s₁.setTop (mkF m 75 #[.val (.int p0)] [])) (fun target kt => XS.icmpYes X0.here hx rfl (pc0 := 70) (pc' := 75) rfl (hb hby d2_70) rfl (flt hc70).2.1 (by decide) (by decide) kt) ?_
      refine own_via (A' := s₁.setTop (mkF m 79 #[.val (.int p0)] [(.int (246 : Int32)), (.int p0)])) (fun target kt => ?_) ?_
      · show Steps p.tables e below (s₁.setTop (mkF m 75 #[.val (.int p0)] [])) _
        refine XS.iloadN X0.here hx rfl (hb hby d2_75) rfl ?_
        show Steps p.tables e below (s₁.setTop (mkF m 76 #[.val (.int p0)] [(.int p0)])) _
        refine XS.sipush X0.here hx rfl (hb hby d2_76) ?_
        exact kt
      by_cases hc79 : (246 : Int32) < p0
      · refine own_via (A' := s₁.setTop (mkF m 84 #[.val (.int p0)] [])) (fun target kt => XS.icmpYes X0.here hx rfl (pc0 := 79) (pc' := 84) rfl (hb hby d2_79) rfl (tlt hc79).2.2.1 (by decide) (by decide) kt) ?_
        exact j84 (hv.trans (own_st_hi hc70 hc79))
      · refine own_via (A' := s₁.setTop (mkF m 82 #[.val (.int p0)] [])) (fun target kt => XS.icmpNo X0.here hx rfl (hb hby d2_79) rfl (flt hc79).2.2.1 kt) ?_
        refine own_via (A' := s₁.setTop (mkF m 83 #[.val (.int p0)] [(.int (1 : Int32))])) (fun target kt => ?_) ?_
        · show Steps p.tables e below (s₁.setTop (mkF m 82 #[.val (.int p0)] [])) _
          refine XS.iconst X0.here hx rfl (hb hby d2_82) ?_
          exact kt
        exact own_retN X0 Bd.notSynchronized hx (t := .boolean) Bd.returns (by simp) (hb hby d2_83) (show Q2 Z p0 h0 n0 _ _ _ from ⟨by rw [show own_st own_R2 p0 = 1 from hv.trans (own_st_in hc70 hc79)] <;> rfl, N0, e0⟩) (by decide) (by decide)
  have j48 : own_st own_R2 p0 = own_st [(192, 214), (216, 246), (248, 767), (880, 893), (895, 8191), (8204, 8205), (8304, 8591), (11264, 12271), (12289, 55295), (63744, 64975), (65008, 65533), (65536, 983039)] p0 → own_G p e below (own_P s (Q2 Z p0 h0 n0) 0 0) (s₁.setTop (mkF m 48 #[.val (.int p0)] [])) := fun hv => by
    refine own_via (A' := s₁.setTop (mkF m 52 #[.val (.int p0)] [(.int (192 : Int32)), (.int p0)])) (fun target kt => ?_) ?_
    · show Steps p.tables e below (s₁.setTop (mkF m 48 #[.val (.int p0)] [])) _
      refine XS.iloadN X0.here hx rfl (hb hby d2_48) rfl ?_
      show Steps p.tables e below (s₁.setTop (mkF m 49 #[.val (.int p0)] [(.int p0)])) _
      refine XS.sipush X0.here hx rfl (hb hby d2_49) ?_
      exact kt
    by_cases hc52 : p0 < (192 : Int32)
    · refine own_via (A' := s₁.setTop (mkF m 55 #[.val (.int p0)] [])) (fun target kt => XS.icmpNo X0.here hx rfl (hb hby d2_52) rfl (tlt hc52).2.1 kt) ?_
      refine own_via (A' := s₁.setTop (mkF m 56 #[.val (.int p0)] [(.int (0 : Int32))])) (fun target kt => ?_) ?_
      · show Steps p.tables e below (s₁.setTop (mkF m 55 #[.val (.int p0)] [])) _
        refine XS.iconst X0.here hx rfl (hb hby d2_55) ?_
        exact kt
      exact own_retN X0 Bd.notSynchronized hx (t := .boolean) Bd.returns (by simp) (hb hby d2_56) (show Q2 Z p0 h0 n0 _ _ _ from ⟨by rw [show own_st own_R2 p0 = 0 from hv.trans (own_st_lo hc52)] <;> rfl, N0, e0⟩) (by decide) (by decide)
    · refine own_via (A' := s₁.setTop (mkF m 57 #[.val (.int p0)] [])) (fun target kt => XS.icmpYes X0.here hx rfl (pc0 := 52) (pc' := 57) rfl (hb hby d2_52) rfl (flt hc52).2.1 (by decide) (by decide) kt) ?_
      refine own_via (A' := s₁.setTop (mkF m 61 #[.val (.int p0)] [(.int (214 : Int32)), (.int p0)])) (fun target kt => ?_) ?_
      · show Steps p.tables e below (s₁.setTop (mkF m 57 #[.val (.int p0)] [])) _
        refine XS.iloadN X0.here hx rfl (hb hby d2_57) rfl ?_
        show Steps p.tables e below (s₁.setTop (mkF m 58 #[.val (.int p0)] [(.int p0)])) _
        refine XS.sipush X0.here hx rfl (hb hby d2_58) ?_
        exact kt
      by_cases hc61 : (214 : Int32) < p0
      · refine own_via (A' := s₁.setTop (mkF m 66 #[.val (.int p0)] [])) (fun target kt => XS.icmpYes X0.here hx rfl (pc0 := 61) (pc' := 66) rfl (hb hby d2_61) rfl (tlt hc61).2.2.1 (by decide) (by decide) kt) ?_
        exact j66 (hv.trans (own_st_hi hc52 hc61))
      · refine own_via (A' := s₁.setTop (mkF m 64 #[.val (.int p0)] [])) (fun target kt => XS.icmpNo X0.here hx rfl (hb hby d2_61) rfl (flt hc61).2.2.1 kt) ?_
        refine own_via (A' := s₁.setTop (mkF m 65 #[.val (.int p0)] [(.int (1 : Int32))])) (fun target kt => ?_) ?_
        · show Steps p.tables e below (s₁.setTop (mkF m 64 #[.val (.int p0)] [])) _
          refine XS.iconst X0.here hx rfl (hb hby d2_64) ?_
          exact kt
        exact own_retN X0 Bd.notSynchronized hx (t := .boolean) Bd.returns (by simp) (hb hby d2_65) (show Q2 Z p0 h0 n0 _ _ _ from ⟨by rw [show own_st own_R2 p0 = 1 from hv.trans (own_st_in hc52 hc61)] <;> rfl, N0, e0⟩) (by decide) (by decide)
  have j32 : own_st own_R2 p0 = own_st [(97, 122), (192, 214), (216, 246), (248, 767), (880, 893), (895, 8191), (8204, 8205), (8304, 8591), (11264, 12271), (12289, 55295), (63744, 64975), (65008, 65533), (65536, 983039)] p0 → own_G p e below (own_P s (Q2 Z p0 h0 n0) 0 0) (s₁.setTop (mkF m 32 #[.val (.int p0)] [])) := fun hv => by
    refine own_via (A' := s₁.setTop (mkF m 35 #[.val (.int p0)] [(.int (97 : Int32)), (.int p0)])) (fun target kt => ?_) ?_
    · show Steps p.tables e below (s₁.setTop (mkF m 32 #[.val (.int p0)] [])) _
      refine XS.iloadN X0.here hx rfl (hb hby d2_32) rfl ?_
      show Steps p.tables e below (s₁.setTop (mkF m 33 #[.val (.int p0)] [(.int p0)])) _
      refine XS.bipush X0.here hx rfl (hb hby d2_33) ?_
      exact kt
    by_cases hc35 : p0 < (97 : Int32)
    · refine own_via (A' := s₁.setTop (mkF m 38 #[.val (.int p0)] [])) (fun target kt => XS.icmpNo X0.here hx rfl (hb hby d2_35) rfl (tlt hc35).2.1 kt) ?_
      refine own_via (A' := s₁.setTop (mkF m 39 #[.val (.int p0)] [(.int (0 : Int32))])) (fun target kt => ?_) ?_
      · show Steps p.tables e below (s₁.setTop (mkF m 38 #[.val (.int p0)] [])) _
        refine XS.iconst X0.here hx rfl (hb hby d2_38) ?_
        exact kt
      exact own_retN X0 Bd.notSynchronized hx (t := .boolean) Bd.returns (by simp) (hb hby d2_39) (show Q2 Z p0 h0 n0 _ _ _ from ⟨by rw [show own_st own_R2 p0 = 0 from hv.trans (own_st_lo hc35)] <;> rfl, N0, e0⟩) (by decide) (by decide)
    · refine own_via (A' := s₁.setTop (mkF m 40 #[.val (.int p0)] [])) (fun target kt => XS.icmpYes X0.here hx rfl (pc0 := 35) (pc' := 40) rfl (hb hby d2_35) rfl (flt hc35).2.1 (by decide) (by decide) kt) ?_
      refine own_via (A' := s₁.setTop (mkF m 43 #[.val (.int p0)] [(.int (122 : Int32)), (.int p0)])) (fun target kt => ?_) ?_
      · show Steps p.tables e below (s₁.setTop (mkF m 40 #[.val (.int p0)] [])) _
        refine XS.iloadN X0.here hx rfl (hb hby d2_40) rfl ?_
        show Steps p.tables e below (s₁.setTop (mkF m 41 #[.val (.int p0)] [(.int p0)])) _
        refine XS.bipush X0.here hx rfl (hb hby d2_41) ?_
        exact kt
      by_cases hc43 : (122 : Int32) < p0
      · refine own_via (A' := s₁.setTop (mkF m 48 #[.val (.int p0)] [])) (fun target kt => XS.icmpYes X0.here hx rfl (pc0 := 43) (pc' := 48) rfl (hb hby d2_43) rfl (tlt hc43).2.2.1 (by decide) (by decide) kt) ?_
        exact j48 (hv.trans (own_st_hi hc35 hc43))
      · refine own_via (A' := s₁.setTop (mkF m 46 #[.val (.int p0)] [])) (fun target kt => XS.icmpNo X0.here hx rfl (hb hby d2_43) rfl (flt hc43).2.2.1 kt) ?_
        refine own_via (A' := s₁.setTop (mkF m 47 #[.val (.int p0)] [(.int (1 : Int32))])) (fun target kt => ?_) ?_
        · show Steps p.tables e below (s₁.setTop (mkF m 46 #[.val (.int p0)] [])) _
          refine XS.iconst X0.here hx rfl (hb hby d2_46) ?_
          exact kt
        exact own_retN X0 Bd.notSynchronized hx (t := .boolean) Bd.returns (by simp) (hb hby d2_47) (show Q2 Z p0 h0 n0 _ _ _ from ⟨by rw [show own_st own_R2 p0 = 1 from hv.trans (own_st_in hc35 hc43)] <;> rfl, N0, e0⟩) (by decide) (by decide)
  have j16 : own_st own_R2 p0 = own_st [(95, 95), (97, 122), (192, 214), (216, 246), (248, 767), (880, 893), (895, 8191), (8204, 8205), (8304, 8591), (11264, 12271), (12289, 55295), (63744, 64975), (65008, 65533), (65536, 983039)] p0 → own_G p e below (own_P s (Q2 Z p0 h0 n0) 0 0) (s₁.setTop (mkF m 16 #[.val (.int p0)] [])) := fun hv => by
    refine own_via (A' := s₁.setTop (mkF m 19 #[.val (.int p0)] [(.int (95 : Int32)), (.int p0)])) (fun target kt => ?_) ?_
    · show Steps p.tables e below (s₁.setTop (mkF m 16 #[.val (.int p0)] [])) _
      refine XS.iloadN X0.here hx rfl (hb hby d2_16) rfl ?_
      show Steps p.tables e below (s₁.setTop (mkF m 17 #[.val (.int p0)] [(.int p0)])) _
      refine XS.bipush X0.here hx rfl (hb hby d2_17) ?_
      exact kt
    by_cases hc19 : p0 < (95 : Int32)
    · refine own_via (A' := s₁.setTop (mkF m 22 #[.val (.int p0)] [])) (fun target kt => XS.icmpNo X0.here hx rfl (hb hby d2_19) rfl (tlt hc19).2.1 kt) ?_
      refine own_via (A' := s₁.setTop (mkF m 23 #[.val (.int p0)] [(.int (0 : Int32))])) (fun target kt => ?_) ?_
      · show Steps p.tables e below (s₁.setTop (mkF m 22 #[.val (.int p0)] [])) _
        refine XS.iconst X0.here hx rfl (hb hby d2_22) ?_
        exact kt
      exact own_retN X0 Bd.notSynchronized hx (t := .boolean) Bd.returns (by simp) (hb hby d2_23) (show Q2 Z p0 h0 n0 _ _ _ from ⟨by rw [show own_st own_R2 p0 = 0 from hv.trans (own_st_lo hc19)] <;> rfl, N0, e0⟩) (by decide) (by decide)
    · refine own_via (A' := s₁.setTop (mkF m 24 #[.val (.int p0)] [])) (fun target kt => XS.icmpYes X0.here hx rfl (pc0 := 19) (pc' := 24) rfl (hb hby d2_19) rfl (flt hc19).2.1 (by decide) (by decide) kt) ?_
      refine own_via (A' := s₁.setTop (mkF m 27 #[.val (.int p0)] [(.int (95 : Int32)), (.int p0)])) (fun target kt => ?_) ?_
      · show Steps p.tables e below (s₁.setTop (mkF m 24 #[.val (.int p0)] [])) _
        refine XS.iloadN X0.here hx rfl (hb hby d2_24) rfl ?_
        show Steps p.tables e below (s₁.setTop (mkF m 25 #[.val (.int p0)] [(.int p0)])) _
        refine XS.bipush X0.here hx rfl (hb hby d2_25) ?_
        exact kt
      by_cases hc27 : (95 : Int32) < p0
      · refine own_via (A' := s₁.setTop (mkF m 32 #[.val (.int p0)] [])) (fun target kt => XS.icmpYes X0.here hx rfl (pc0 := 27) (pc' := 32) rfl (hb hby d2_27) rfl (tlt hc27).2.2.1 (by decide) (by decide) kt) ?_
        exact j32 (hv.trans (own_st_hi hc19 hc27))
      · refine own_via (A' := s₁.setTop (mkF m 30 #[.val (.int p0)] [])) (fun target kt => XS.icmpNo X0.here hx rfl (hb hby d2_27) rfl (flt hc27).2.2.1 kt) ?_
        refine own_via (A' := s₁.setTop (mkF m 31 #[.val (.int p0)] [(.int (1 : Int32))])) (fun target kt => ?_) ?_
        · show Steps p.tables e below (s₁.setTop (mkF m 30 #[.val (.int p0)] [])) _
          refine XS.iconst X0.here hx rfl (hb hby d2_30) ?_
          exact kt
        exact own_retN X0 Bd.notSynchronized hx (t := .boolean) Bd.returns (by simp) (hb hby d2_31) (show Q2 Z p0 h0 n0 _ _ _ from ⟨by rw [show own_st own_R2 p0 = 1 from hv.trans (own_st_in hc19 hc27)] <;> rfl, N0, e0⟩) (by decide) (by decide)
  have j0 : own_st own_R2 p0 = own_st [(65, 90), (95, 95), (97, 122), (192, 214), (216, 246), (248, 767), (880, 893), (895, 8191), (8204, 8205), (8304, 8591), (11264, 12271), (12289, 55295), (63744, 64975), (65008, 65533), (65536, 983039)] p0 → own_G p e below (own_P s (Q2 Z p0 h0 n0) 0 0) (s₁.setTop (mkF m 0 #[.val (.int p0)] [])) := fun hv => by
    refine own_via (A' := s₁.setTop (mkF m 3 #[.val (.int p0)] [(.int (65 : Int32)), (.int p0)])) (fun target kt => ?_) ?_
    · show Steps p.tables e below (s₁.setTop (mkF m 0 #[.val (.int p0)] [])) _
      refine XS.iloadN X0.here hx rfl (hb hby d2_0) rfl ?_
      show Steps p.tables e below (s₁.setTop (mkF m 1 #[.val (.int p0)] [(.int p0)])) _
      refine XS.bipush X0.here hx rfl (hb hby d2_1) ?_
      exact kt
    by_cases hc3 : p0 < (65 : Int32)
    · refine own_via (A' := s₁.setTop (mkF m 6 #[.val (.int p0)] [])) (fun target kt => XS.icmpNo X0.here hx rfl (hb hby d2_3) rfl (tlt hc3).2.1 kt) ?_
      refine own_via (A' := s₁.setTop (mkF m 7 #[.val (.int p0)] [(.int (0 : Int32))])) (fun target kt => ?_) ?_
      · show Steps p.tables e below (s₁.setTop (mkF m 6 #[.val (.int p0)] [])) _
        refine XS.iconst X0.here hx rfl (hb hby d2_6) ?_
        exact kt
      exact own_retN X0 Bd.notSynchronized hx (t := .boolean) Bd.returns (by simp) (hb hby d2_7) (show Q2 Z p0 h0 n0 _ _ _ from ⟨by rw [show own_st own_R2 p0 = 0 from hv.trans (own_st_lo hc3)] <;> rfl, N0, e0⟩) (by decide) (by decide)
    · refine own_via (A' := s₁.setTop (mkF m 8 #[.val (.int p0)] [])) (fun target kt => XS.icmpYes X0.here hx rfl (pc0 := 3) (pc' := 8) rfl (hb hby d2_3) rfl (flt hc3).2.1 (by decide) (by decide) kt) ?_
      refine own_via (A' := s₁.setTop (mkF m 11 #[.val (.int p0)] [(.int (90 : Int32)), (.int p0)])) (fun target kt => ?_) ?_
      · show Steps p.tables e below (s₁.setTop (mkF m 8 #[.val (.int p0)] [])) _
        refine XS.iloadN X0.here hx rfl (hb hby d2_8) rfl ?_
        show Steps p.tables e below (s₁.setTop (mkF m 9 #[.val (.int p0)] [(.int p0)])) _
        refine XS.bipush X0.here hx rfl (hb hby d2_9) ?_
        exact kt
      by_cases hc11 : (90 : Int32) < p0
      · refine own_via (A' := s₁.setTop (mkF m 16 #[.val (.int p0)] [])) (fun target kt => XS.icmpYes X0.here hx rfl (pc0 := 11) (pc' := 16) rfl (hb hby d2_11) rfl (tlt hc11).2.2.1 (by decide) (by decide) kt) ?_
        exact j16 (hv.trans (own_st_hi hc3 hc11))
      · refine own_via (A' := s₁.setTop (mkF m 14 #[.val (.int p0)] [])) (fun target kt => XS.icmpNo X0.here hx rfl (hb hby d2_11) rfl (flt hc11).2.2.1 kt) ?_
        refine own_via (A' := s₁.setTop (mkF m 15 #[.val (.int p0)] [(.int (1 : Int32))])) (fun target kt => ?_) ?_
        · show Steps p.tables e below (s₁.setTop (mkF m 14 #[.val (.int p0)] [])) _
          refine XS.iconst X0.here hx rfl (hb hby d2_14) ?_
          exact kt
        exact own_retN X0 Bd.notSynchronized hx (t := .boolean) Bd.returns (by simp) (hb hby d2_15) (show Q2 Z p0 h0 n0 _ _ _ from ⟨by rw [show own_st own_R2 p0 = 1 from hv.trans (own_st_in hc3 hc11)] <;> rfl, N0, e0⟩) (by decide) (by decide)
  exact j0 rfl
theorem own_same (c : Int32) : own_in own_R1 c = own_st own_R2 c := own_both own_R1 (by decide +kernel)
def own_ws : List Int32 := [65, 90, 95, 97, 122, 192, 214, 216, 246, 248, 767, 880, 893, 895, 8191, 8204, 8205, 8304, 8591, 11264, 12271, 12289, 55295, 63744, 64975, 65008, 65533, 65536, 983039]
theorem own_idx (p : Int32) : ¬ ((p &&& (65535 : Int32)) % (29 : Int32)) < 0 ∧ ((p &&& (65535 : Int32)) % (29 : Int32)) < 29 := by
  have e1 : (p &&& (65535 : Int32)).toInt = p.toInt % 2 ^ 16 := Jvm.Kit.i32_mask p 65535 (k := 16) (by decide) (by decide)
  have e2 : ((p &&& (65535 : Int32)) % (29 : Int32)).toInt = (p &&& (65535 : Int32)).toInt % 29 := Jvm.Kit.i32_rem_nonneg (y := 29) (by omega)
  have z0 : (0 : Int32).toInt = 0 := by decide
  have z29 : (29 : Int32).toInt = 29 := by decide
  rw [Int32.lt_iff_toInt_lt, Int32.lt_iff_toInt_lt, z0, z29]
  omega
theorem pn_0 : plainName "com/example/txq/txq/xdm/NameIsNameStartPinLaw" = true := by first | (simp [plainName, overriddenIn]; done) | decide +kernel
theorem pd_0_0 : parseMethodDescriptor "(I)Z" = some ⟨[.int], some .boolean⟩ := by decide +kernel
theorem ef_0 (m : MethodId) (p0 : Int32) (p1 : Int32) : entryFrame m #[(.int p0), (.int p1)] maxLocals = mkF m 0 #[.val (.int p0), .val (.int p1), .unset, .unset, .unset, .unset, .unset, .unset] [] := by first | (simp [entryFrame, mkF, argsToLocals, Value.category, maxLocals]; done) | rfl
def Q0 (Z : State) (p0 : Int32) (p1 : Int32)  (h0 : Heap) (n0 : Nat) (v : Option Value) (h : Heap) (L : List Loc) : Prop := v = some (.int 1) ∧ Fr n0 L
set_option maxRecDepth 65536 in
set_option maxHeartbeats 40000000 in
theorem rm0 (l : Launch) (Z : State) (a0 : Array Value) (hw : ∀ d ∈ tables_1, d.before a0 Z = true) (ws : List Jvm.Cond) (p0 : Int32) (p1 : Int32)  (h0 : Heap) (n0 : Nat) (Z0 : n0 ≤ h0.size)  :
    MetFree l x (head1 (Jvm.Cond.code x code maxLocals ret :: ws) room_1) (fun a U => a = #[(.int p0), (.int p1)] ∧ Z.Warmed39 U.vm ∧ U.heap = h0) (fun _ _ _ _ _ => True) (fun _ U o U' => ∃ v L, o = .returned v ∧ Q0 Z p0 p1 h0 n0 v U'.heap L ∧ FrameEnd U o U' L 1 29) := by
  refine MetFree.of_bodySF (plainFor_of_name pn_0) hisR ?_
  intro p e s m args below meth c s₁ Bd hml0 hP hK
  obtain ⟨rfl, hZ, hh⟩ := hP
  have hx := Bd.exec
  have hby := Bd.bytes
  have hml : c.maxLocals = 8 := hml0
  have hown : s.vm.findClass "com/example/txq/txq/xdm/NameIsNameStartPinLaw" = some m.cls := findClass_of_methodNamed Bd.named
  have X0 : Stand p l e room_1 s m #[(.int p0), (.int p1)] below meth c s₁ [] 0 0 := Stand.of_body Bd
  have e0 : s₁.heap = h0 := by rw [← hh, Bd.state]; rfl
  have N0 := Fr.nil n0
  show own_G p e below (own_P s (Q0 Z p0 p1 h0 n0) 1 29) _
  refine own_via (A' := s₁.setTop (mkF m 0 #[.val (.int p0), .val (.int p1), .unset, .unset, .unset, .unset, .unset, .unset] [])) (fun t k => castTop (ef_0 m p0 p1) k) ?_
  refine own_via (A' := s₁.setTop (mkF m 2 #[.val (.int p0), .val (.int p1), .unset, .unset, .unset, .unset, .unset, .unset] [(.int (29 : Int32))])) (fun target kt => ?_) ?_
  · show Steps p.tables e below (s₁.setTop (mkF m 0 #[.val (.int p0), .val (.int p1), .unset, .unset, .unset, .unset, .unset, .unset] [])) _
    refine XS.bipush X0.here hx rfl (hb hby at_0) ?_
    exact kt
  obtain ⟨T1, h1, k1, X1, e1, E1, A1, st1⟩ := newP X0 hx hZ (hw _ (List.mem_of_getElem? (i := 0) rfl)) e0 (g := (mkF m 2 #[.val (.int p0), .val (.int p1), .unset, .unset, .unset, .unset, .unset, .unset] [(.int (29 : Int32))])) rfl (hb hby at_2) rfl (by decide) (cap := 29) (by decide) (by decide) (by decide) (by decide)
  obtain ⟨b1, g1⟩ : ∃ z, z = h0.size := ⟨_, rfl⟩
  rw [← g1] at A1 st1
  have V1 : Arv Z h1 b1 k1 .int (29 : Int32) [(.int (0 : Int32)), (.int (0 : Int32)), (.int (0 : Int32)), (.int (0 : Int32)), (.int (0 : Int32)), (.int (0 : Int32)), (.int (0 : Int32)), (.int (0 : Int32)), (.int (0 : Int32)), (.int (0 : Int32)), (.int (0 : Int32)), (.int (0 : Int32)), (.int (0 : Int32)), (.int (0 : Int32)), (.int (0 : Int32)), (.int (0 : Int32)), (.int (0 : Int32)), (.int (0 : Int32)), (.int (0 : Int32)), (.int (0 : Int32)), (.int (0 : Int32)), (.int (0 : Int32)), (.int (0 : Int32)), (.int (0 : Int32)), (.int (0 : Int32)), (.int (0 : Int32)), (.int (0 : Int32)), (.int (0 : Int32)), (.int (0 : Int32))] (.int (0 : Int32)) := (Arv.new A1 (by decide)).pad (pad_rep [] (.int (0 : Int32)) 29)
  have g_b1 : n0 ≤ b1 := Nat.le_trans Z0 (Nat.le_of_eq g1.symm)
  have Z1 : n0 ≤ h1.size := Nat.le_trans Z0 E1.1
  refine own_via (A' := T1.setTop (mkF m 4 #[.val (.int p0), .val (.int p1), .unset, .unset, .unset, .unset, .unset, .unset] [(.ref b1)])) st1 ?_
  refine own_via (A' := T1.setTop (mkF m 8 #[.val (.int p0), .val (.int p1), .unset, .unset, .unset, .unset, .unset, .unset] [(.int (65 : Int32)), (.int (0 : Int32)), (.ref b1), (.ref b1)])) (fun target kt => ?_) ?_
  · show Steps p.tables e below (T1.setTop (mkF m 4 #[.val (.int p0), .val (.int p1), .unset, .unset, .unset, .unset, .unset, .unset] [(.ref b1)])) _
    refine XS.dup X1.here hx rfl (hb hby at_4) rfl rfl ?_
    show Steps p.tables e below (T1.setTop (mkF m 5 #[.val (.int p0), .val (.int p1), .unset, .unset, .unset, .unset, .unset, .unset] [(.ref b1), (.ref b1)])) _
    refine XS.iconst X1.here hx rfl (hb hby at_5) ?_
    show Steps p.tables e below (T1.setTop (mkF m 6 #[.val (.int p0), .val (.int p1), .unset, .unset, .unset, .unset, .unset, .unset] [(.int (0 : Int32)), (.ref b1), (.ref b1)])) _
    refine XS.bipush X1.here hx rfl (hb hby at_6) ?_
    exact kt
  obtain ⟨cl2, Ar2, q2, S2, N2a, H2, G2⟩ := V1
  have hin2 : ¬ ((0 : Int32) < 0 ∨ cl2.slots.size ≤ ((0 : Int32)).toNatClampNeg) := inb_of S2 ⟨by decide, by decide⟩
  obtain ⟨T2, h2, X2, e2, W2, st2⟩ := stI X1 hx hZ e1 Ar2 (j := (0 : Int32)) hin2 (g := (mkF m 8 #[.val (.int p0), .val (.int p1), .unset, .unset, .unset, .unset, .unset, .unset] [(.int (65 : Int32)), (.int (0 : Int32)), (.ref b1), (.ref b1)])) rfl rfl (hb hby at_8)
  have V2 : Arv Z h2 b1 k1 .int (29 : Int32) [(.int (65 : Int32)), (.int (0 : Int32)), (.int (0 : Int32)), (.int (0 : Int32)), (.int (0 : Int32)), (.int (0 : Int32)), (.int (0 : Int32)), (.int (0 : Int32)), (.int (0 : Int32)), (.int (0 : Int32)), (.int (0 : Int32)), (.int (0 : Int32)), (.int (0 : Int32)), (.int (0 : Int32)), (.int (0 : Int32)), (.int (0 : Int32)), (.int (0 : Int32)), (.int (0 : Int32)), (.int (0 : Int32)), (.int (0 : Int32)), (.int (0 : Int32)), (.int (0 : Int32)), (.int (0 : Int32)), (.int (0 : Int32)), (.int (0 : Int32)), (.int (0 : Int32)), (.int (0 : Int32)), (.int (0 : Int32)), (.int (0 : Int32))] (.int (0 : Int32)) := Arv.set Ar2 q2 S2 N2a H2 G2 rfl W2 0 rfl (Nat.le_of_ble_eq_true rfl)
  have N2 := Fr.snoc X2 N0 g_b1
  obtain ⟨LL2, X2, N2⟩ := own_fold X2 N2
  have Z2 : n0 ≤ h2.size := Nat.le_trans Z1 (Nat.le_of_eq W2.size.symm)
  refine own_via (A' := T2.setTop (mkF m 9 #[.val (.int p0), .val (.int p1), .unset, .unset, .unset, .unset, .unset, .unset] [(.ref b1)])) st2 ?_
  refine own_via (A' := T2.setTop (mkF m 13 #[.val (.int p0), .val (.int p1), .unset, .unset, .unset, .unset, .unset, .unset] [(.int (90 : Int32)), (.int (1 : Int32)), (.ref b1), (.ref b1)])) (fun target kt => ?_) ?_
  · show Steps p.tables e below (T2.setTop (mkF m 9 #[.val (.int p0), .val (.int p1), .unset, .unset, .unset, .unset, .unset, .unset] [(.ref b1)])) _
    refine XS.dup X2.here hx rfl (hb hby at_9) rfl rfl ?_
    show Steps p.tables e below (T2.setTop (mkF m 10 #[.val (.int p0), .val (.int p1), .unset, .unset, .unset, .unset, .unset, .unset] [(.ref b1), (.ref b1)])) _
    refine XS.iconst X2.here hx rfl (hb hby at_10) ?_
    show Steps p.tables e below (T2.setTop (mkF m 11 #[.val (.int p0), .val (.int p1), .unset, .unset, .unset, .unset, .unset, .unset] [(.int (1 : Int32)), (.ref b1), (.ref b1)])) _
    refine XS.bipush X2.here hx rfl (hb hby at_11) ?_
    exact kt
  obtain ⟨cl3, Ar3, q3, S3, N3a, H3, G3⟩ := V2
  have hin3 : ¬ ((1 : Int32) < 0 ∨ cl3.slots.size ≤ ((1 : Int32)).toNatClampNeg) := inb_of S3 ⟨by decide, by decide⟩
  obtain ⟨T3, h3, X3, e3, W3, st3⟩ := stI X2 hx hZ e2 Ar3 (j := (1 : Int32)) hin3 (g := (mkF m 13 #[.val (.int p0), .val (.int p1), .unset, .unset, .unset, .unset, .unset, .unset] [(.int (90 : Int32)), (.int (1 : Int32)), (.ref b1), (.ref b1)])) rfl rfl (hb hby at_13)
  have V3 : Arv Z h3 b1 k1 .int (29 : Int32) [(.int (65 : Int32)), (.int (90 : Int32)), (.int (0 : Int32)), (.int (0 : Int32)), (.int (0 : Int32)), (.int (0 : Int32)), (.int (0 : Int32)), (.int (0 : Int32)), (.int (0 : Int32)), (.int (0 : Int32)), (.int (0 : Int32)), (.int (0 : Int32)), (.int (0 : Int32)), (.int (0 : Int32)), (.int (0 : Int32)), (.int (0 : Int32)), (.int (0 : Int32)), (.int (0 : Int32)), (.int (0 : Int32)), (.int (0 : Int32)), (.int (0 : Int32)), (.int (0 : Int32)), (.int (0 : Int32)), (.int (0 : Int32)), (.int (0 : Int32)), (.int (0 : Int32)), (.int (0 : Int32)), (.int (0 : Int32)), (.int (0 : Int32))] (.int (0 : Int32)) := Arv.set Ar3 q3 S3 N3a H3 G3 rfl W3 1 rfl (Nat.le_of_ble_eq_true rfl)
  have N3 := Fr.snoc X3 N2 g_b1
  obtain ⟨LL3, X3, N3⟩ := own_fold X3 N3
  have Z3 : n0 ≤ h3.size := Nat.le_trans Z2 (Nat.le_of_eq W3.size.symm)
  refine own_via (A' := T3.setTop (mkF m 14 #[.val (.int p0), .val (.int p1), .unset, .unset, .unset, .unset, .unset, .unset] [(.ref b1)])) st3 ?_
  refine own_via (A' := T3.setTop (mkF m 18 #[.val (.int p0), .val (.int p1), .unset, .unset, .unset, .unset, .unset, .unset] [(.int (95 : Int32)), (.int (2 : Int32)), (.ref b1), (.ref b1)])) (fun target kt => ?_) ?_
  · show Steps p.tables e below (T3.setTop (mkF m 14 #[.val (.int p0), .val (.int p1), .unset, .unset, .unset, .unset, .unset, .unset] [(.ref b1)])) _
    refine XS.dup X3.here hx rfl (hb hby at_14) rfl rfl ?_
    show Steps p.tables e below (T3.setTop (mkF m 15 #[.val (.int p0), .val (.int p1), .unset, .unset, .unset, .unset, .unset, .unset] [(.ref b1), (.ref b1)])) _
    refine XS.iconst X3.here hx rfl (hb hby at_15) ?_
    show Steps p.tables e below (T3.setTop (mkF m 16 #[.val (.int p0), .val (.int p1), .unset, .unset, .unset, .unset, .unset, .unset] [(.int (2 : Int32)), (.ref b1), (.ref b1)])) _
    refine XS.bipush X3.here hx rfl (hb hby at_16) ?_
    exact kt
  obtain ⟨cl4, Ar4, q4, S4, N4a, H4, G4⟩ := V3
  have hin4 : ¬ ((2 : Int32) < 0 ∨ cl4.slots.size ≤ ((2 : Int32)).toNatClampNeg) := inb_of S4 ⟨by decide, by decide⟩
  obtain ⟨T4, h4, X4, e4, W4, st4⟩ := stI X3 hx hZ e3 Ar4 (j := (2 : Int32)) hin4 (g := (mkF m 18 #[.val (.int p0), .val (.int p1), .unset, .unset, .unset, .unset, .unset, .unset] [(.int (95 : Int32)), (.int (2 : Int32)), (.ref b1), (.ref b1)])) rfl rfl (hb hby at_18)
  have V4 : Arv Z h4 b1 k1 .int (29 : Int32) [(.int (65 : Int32)), (.int (90 : Int32)), (.int (95 : Int32)), (.int (0 : Int32)), (.int (0 : Int32)), (.int (0 : Int32)), (.int (0 : Int32)), (.int (0 : Int32)), (.int (0 : Int32)), (.int (0 : Int32)), (.int (0 : Int32)), (.int (0 : Int32)), (.int (0 : Int32)), (.int (0 : Int32)), (.int (0 : Int32)), (.int (0 : Int32)), (.int (0 : Int32)), (.int (0 : Int32)), (.int (0 : Int32)), (.int (0 : Int32)), (.int (0 : Int32)), (.int (0 : Int32)), (.int (0 : Int32)), (.int (0 : Int32)), (.int (0 : Int32)), (.int (0 : Int32)), (.int (0 : Int32)), (.int (0 : Int32)), (.int (0 : Int32))] (.int (0 : Int32)) := Arv.set Ar4 q4 S4 N4a H4 G4 rfl W4 2 rfl (Nat.le_of_ble_eq_true rfl)
  have N4 := Fr.snoc X4 N3 g_b1
  obtain ⟨LL4, X4, N4⟩ := own_fold X4 N4
  have Z4 : n0 ≤ h4.size := Nat.le_trans Z3 (Nat.le_of_eq W4.size.symm)
  refine own_via (A' := T4.setTop (mkF m 19 #[.val (.int p0), .val (.int p1), .unset, .unset, .unset, .unset, .unset, .unset] [(.ref b1)])) st4 ?_
  refine own_via (A' := T4.setTop (mkF m 23 #[.val (.int p0), .val (.int p1), .unset, .unset, .unset, .unset, .unset, .unset] [(.int (97 : Int32)), (.int (3 : Int32)), (.ref b1), (.ref b1)])) (fun target kt => ?_) ?_
  · show Steps p.tables e below (T4.setTop (mkF m 19 #[.val (.int p0), .val (.int p1), .unset, .unset, .unset, .unset, .unset, .unset] [(.ref b1)])) _
    refine XS.dup X4.here hx rfl (hb hby at_19) rfl rfl ?_
    show Steps p.tables e below (T4.setTop (mkF m 20 #[.val (.int p0), .val (.int p1), .unset, .unset, .unset, .unset, .unset, .unset] [(.ref b1), (.ref b1)])) _
    refine XS.iconst X4.here hx rfl (hb hby at_20) ?_
    show Steps p.tables e below (T4.setTop (mkF m 21 #[.val (.int p0), .val (.int p1), .unset, .unset, .unset, .unset, .unset, .unset] [(.int (3 : Int32)), (.ref b1), (.ref b1)])) _
    refine XS.bipush X4.here hx rfl (hb hby at_21) ?_
    exact kt
  obtain ⟨cl5, Ar5, q5, S5, N5a, H5, G5⟩ := V4
  have hin5 : ¬ ((3 : Int32) < 0 ∨ cl5.slots.size ≤ ((3 : Int32)).toNatClampNeg) := inb_of S5 ⟨by decide, by decide⟩
  obtain ⟨T5, h5, X5, e5, W5, st5⟩ := stI X4 hx hZ e4 Ar5 (j := (3 : Int32)) hin5 (g := (mkF m 23 #[.val (.int p0), .val (.int p1), .unset, .unset, .unset, .unset, .unset, .unset] [(.int (97 : Int32)), (.int (3 : Int32)), (.ref b1), (.ref b1)])) rfl rfl (hb hby at_23)
  have V5 : Arv Z h5 b1 k1 .int (29 : Int32) [(.int (65 : Int32)), (.int (90 : Int32)), (.int (95 : Int32)), (.int (97 : Int32)), (.int (0 : Int32)), (.int (0 : Int32)), (.int (0 : Int32)), (.int (0 : Int32)), (.int (0 : Int32)), (.int (0 : Int32)), (.int (0 : Int32)), (.int (0 : Int32)), (.int (0 : Int32)), (.int (0 : Int32)), (.int (0 : Int32)), (.int (0 : Int32)), (.int (0 : Int32)), (.int (0 : Int32)), (.int (0 : Int32)), (.int (0 : Int32)), (.int (0 : Int32)), (.int (0 : Int32)), (.int (0 : Int32)), (.int (0 : Int32)), (.int (0 : Int32)), (.int (0 : Int32)), (.int (0 : Int32)), (.int (0 : Int32)), (.int (0 : Int32))] (.int (0 : Int32)) := Arv.set Ar5 q5 S5 N5a H5 G5 rfl W5 3 rfl (Nat.le_of_ble_eq_true rfl)
  have N5 := Fr.snoc X5 N4 g_b1
  obtain ⟨LL5, X5, N5⟩ := own_fold X5 N5
  have Z5 : n0 ≤ h5.size := Nat.le_trans Z4 (Nat.le_of_eq W5.size.symm)
  refine own_via (A' := T5.setTop (mkF m 24 #[.val (.int p0), .val (.int p1), .unset, .unset, .unset, .unset, .unset, .unset] [(.ref b1)])) st5 ?_
  refine own_via (A' := T5.setTop (mkF m 28 #[.val (.int p0), .val (.int p1), .unset, .unset, .unset, .unset, .unset, .unset] [(.int (122 : Int32)), (.int (4 : Int32)), (.ref b1), (.ref b1)])) (fun target kt => ?_) ?_
  · show Steps p.tables e below (T5.setTop (mkF m 24 #[.val (.int p0), .val (.int p1), .unset, .unset, .unset, .unset, .unset, .unset] [(.ref b1)])) _
    refine XS.dup X5.here hx rfl (hb hby at_24) rfl rfl ?_
    show Steps p.tables e below (T5.setTop (mkF m 25 #[.val (.int p0), .val (.int p1), .unset, .unset, .unset, .unset, .unset, .unset] [(.ref b1), (.ref b1)])) _
    refine XS.iconst X5.here hx rfl (hb hby at_25) ?_
    show Steps p.tables e below (T5.setTop (mkF m 26 #[.val (.int p0), .val (.int p1), .unset, .unset, .unset, .unset, .unset, .unset] [(.int (4 : Int32)), (.ref b1), (.ref b1)])) _
    refine XS.bipush X5.here hx rfl (hb hby at_26) ?_
    exact kt
  obtain ⟨cl6, Ar6, q6, S6, N6a, H6, G6⟩ := V5
  have hin6 : ¬ ((4 : Int32) < 0 ∨ cl6.slots.size ≤ ((4 : Int32)).toNatClampNeg) := inb_of S6 ⟨by decide, by decide⟩
  obtain ⟨T6, h6, X6, e6, W6, st6⟩ := stI X5 hx hZ e5 Ar6 (j := (4 : Int32)) hin6 (g := (mkF m 28 #[.val (.int p0), .val (.int p1), .unset, .unset, .unset, .unset, .unset, .unset] [(.int (122 : Int32)), (.int (4 : Int32)), (.ref b1), (.ref b1)])) rfl rfl (hb hby at_28)
  have V6 : Arv Z h6 b1 k1 .int (29 : Int32) [(.int (65 : Int32)), (.int (90 : Int32)), (.int (95 : Int32)), (.int (97 : Int32)), (.int (122 : Int32)), (.int (0 : Int32)), (.int (0 : Int32)), (.int (0 : Int32)), (.int (0 : Int32)), (.int (0 : Int32)), (.int (0 : Int32)), (.int (0 : Int32)), (.int (0 : Int32)), (.int (0 : Int32)), (.int (0 : Int32)), (.int (0 : Int32)), (.int (0 : Int32)), (.int (0 : Int32)), (.int (0 : Int32)), (.int (0 : Int32)), (.int (0 : Int32)), (.int (0 : Int32)), (.int (0 : Int32)), (.int (0 : Int32)), (.int (0 : Int32)), (.int (0 : Int32)), (.int (0 : Int32)), (.int (0 : Int32)), (.int (0 : Int32))] (.int (0 : Int32)) := Arv.set Ar6 q6 S6 N6a H6 G6 rfl W6 4 rfl (Nat.le_of_ble_eq_true rfl)
  have N6 := Fr.snoc X6 N5 g_b1
  obtain ⟨LL6, X6, N6⟩ := own_fold X6 N6
  have Z6 : n0 ≤ h6.size := Nat.le_trans Z5 (Nat.le_of_eq W6.size.symm)
  refine own_via (A' := T6.setTop (mkF m 29 #[.val (.int p0), .val (.int p1), .unset, .unset, .unset, .unset, .unset, .unset] [(.ref b1)])) st6 ?_
  refine own_via (A' := T6.setTop (mkF m 34 #[.val (.int p0), .val (.int p1), .unset, .unset, .unset, .unset, .unset, .unset] [(.int (192 : Int32)), (.int (5 : Int32)), (.ref b1), (.ref b1)])) (fun target kt => ?_) ?_
  · show Steps p.tables e below (T6.setTop (mkF m 29 #[.val (.int p0), .val (.int p1), .unset, .unset, .unset, .unset, .unset, .unset] [(.ref b1)])) _
    refine XS.dup X6.here hx rfl (hb hby at_29) rfl rfl ?_
    show Steps p.tables e below (T6.setTop (mkF m 30 #[.val (.int p0), .val (.int p1), .unset, .unset, .unset, .unset, .unset, .unset] [(.ref b1), (.ref b1)])) _
    refine XS.iconst X6.here hx rfl (hb hby at_30) ?_
    show Steps p.tables e below (T6.setTop (mkF m 31 #[.val (.int p0), .val (.int p1), .unset, .unset, .unset, .unset, .unset, .unset] [(.int (5 : Int32)), (.ref b1), (.ref b1)])) _
    refine XS.sipush X6.here hx rfl (hb hby at_31) ?_
    exact kt
  obtain ⟨cl7, Ar7, q7, S7, N7a, H7, G7⟩ := V6
  have hin7 : ¬ ((5 : Int32) < 0 ∨ cl7.slots.size ≤ ((5 : Int32)).toNatClampNeg) := inb_of S7 ⟨by decide, by decide⟩
  obtain ⟨T7, h7, X7, e7, W7, st7⟩ := stI X6 hx hZ e6 Ar7 (j := (5 : Int32)) hin7 (g := (mkF m 34 #[.val (.int p0), .val (.int p1), .unset, .unset, .unset, .unset, .unset, .unset] [(.int (192 : Int32)), (.int (5 : Int32)), (.ref b1), (.ref b1)])) rfl rfl (hb hby at_34)
  have V7 : Arv Z h7 b1 k1 .int (29 : Int32) [(.int (65 : Int32)), (.int (90 : Int32)), (.int (95 : Int32)), (.int (97 : Int32)), (.int (122 : Int32)), (.int (192 : Int32)), (.int (0 : Int32)), (.int (0 : Int32)), (.int (0 : Int32)), (.int (0 : Int32)), (.int (0 : Int32)), (.int (0 : Int32)), (.int (0 : Int32)), (.int (0 : Int32)), (.int (0 : Int32)), (.int (0 : Int32)), (.int (0 : Int32)), (.int (0 : Int32)), (.int (0 : Int32)), (.int (0 : Int32)), (.int (0 : Int32)), (.int (0 : Int32)), (.int (0 : Int32)), (.int (0 : Int32)), (.int (0 : Int32)), (.int (0 : Int32)), (.int (0 : Int32)), (.int (0 : Int32)), (.int (0 : Int32))] (.int (0 : Int32)) := Arv.set Ar7 q7 S7 N7a H7 G7 rfl W7 5 rfl (Nat.le_of_ble_eq_true rfl)
  have N7 := Fr.snoc X7 N6 g_b1
  obtain ⟨LL7, X7, N7⟩ := own_fold X7 N7
  have Z7 : n0 ≤ h7.size := Nat.le_trans Z6 (Nat.le_of_eq W7.size.symm)
  refine own_via (A' := T7.setTop (mkF m 35 #[.val (.int p0), .val (.int p1), .unset, .unset, .unset, .unset, .unset, .unset] [(.ref b1)])) st7 ?_
  refine own_via (A' := T7.setTop (mkF m 41 #[.val (.int p0), .val (.int p1), .unset, .unset, .unset, .unset, .unset, .unset] [(.int (214 : Int32)), (.int (6 : Int32)), (.ref b1), (.ref b1)])) (fun target kt => ?_) ?_
  · show Steps p.tables e below (T7.setTop (mkF m 35 #[.val (.int p0), .val (.int p1), .unset, .unset, .unset, .unset, .unset, .unset] [(.ref b1)])) _
    refine XS.dup X7.here hx rfl (hb hby at_35) rfl rfl ?_
    show Steps p.tables e below (T7.setTop (mkF m 36 #[.val (.int p0), .val (.int p1), .unset, .unset, .unset, .unset, .unset, .unset] [(.ref b1), (.ref b1)])) _
    refine XS.bipush X7.here hx rfl (hb hby at_36) ?_
    show Steps p.tables e below (T7.setTop (mkF m 38 #[.val (.int p0), .val (.int p1), .unset, .unset, .unset, .unset, .unset, .unset] [(.int (6 : Int32)), (.ref b1), (.ref b1)])) _
    refine XS.sipush X7.here hx rfl (hb hby at_38) ?_
    exact kt
  obtain ⟨cl8, Ar8, q8, S8, N8a, H8, G8⟩ := V7
  have hin8 : ¬ ((6 : Int32) < 0 ∨ cl8.slots.size ≤ ((6 : Int32)).toNatClampNeg) := inb_of S8 ⟨by decide, by decide⟩
  obtain ⟨T8, h8, X8, e8, W8, st8⟩ := stI X7 hx hZ e7 Ar8 (j := (6 : Int32)) hin8 (g := (mkF m 41 #[.val (.int p0), .val (.int p1), .unset, .unset, .unset, .unset, .unset, .unset] [(.int (214 : Int32)), (.int (6 : Int32)), (.ref b1), (.ref b1)])) rfl rfl (hb hby at_41)
  have V8 : Arv Z h8 b1 k1 .int (29 : Int32) [(.int (65 : Int32)), (.int (90 : Int32)), (.int (95 : Int32)), (.int (97 : Int32)), (.int (122 : Int32)), (.int (192 : Int32)), (.int (214 : Int32)), (.int (0 : Int32)), (.int (0 : Int32)), (.int (0 : Int32)), (.int (0 : Int32)), (.int (0 : Int32)), (.int (0 : Int32)), (.int (0 : Int32)), (.int (0 : Int32)), (.int (0 : Int32)), (.int (0 : Int32)), (.int (0 : Int32)), (.int (0 : Int32)), (.int (0 : Int32)), (.int (0 : Int32)), (.int (0 : Int32)), (.int (0 : Int32)), (.int (0 : Int32)), (.int (0 : Int32)), (.int (0 : Int32)), (.int (0 : Int32)), (.int (0 : Int32)), (.int (0 : Int32))] (.int (0 : Int32)) := Arv.set Ar8 q8 S8 N8a H8 G8 rfl W8 6 rfl (Nat.le_of_ble_eq_true rfl)
  have N8 := Fr.snoc X8 N7 g_b1
  obtain ⟨LL8, X8, N8⟩ := own_fold X8 N8
  have Z8 : n0 ≤ h8.size := Nat.le_trans Z7 (Nat.le_of_eq W8.size.symm)
  refine own_via (A' := T8.setTop (mkF m 42 #[.val (.int p0), .val (.int p1), .unset, .unset, .unset, .unset, .unset, .unset] [(.ref b1)])) st8 ?_
  refine own_via (A' := T8.setTop (mkF m 48 #[.val (.int p0), .val (.int p1), .unset, .unset, .unset, .unset, .unset, .unset] [(.int (216 : Int32)), (.int (7 : Int32)), (.ref b1), (.ref b1)])) (fun target kt => ?_) ?_
  · show Steps p.tables e below (T8.setTop (mkF m 42 #[.val (.int p0), .val (.int p1), .unset, .unset, .unset, .unset, .unset, .unset] [(.ref b1)])) _
    refine XS.dup X8.here hx rfl (hb hby at_42) rfl rfl ?_
    show Steps p.tables e below (T8.setTop (mkF m 43 #[.val (.int p0), .val (.int p1), .unset, .unset, .unset, .unset, .unset, .unset] [(.ref b1), (.ref b1)])) _
    refine XS.bipush X8.here hx rfl (hb hby at_43) ?_
    show Steps p.tables e below (T8.setTop (mkF m 45 #[.val (.int p0), .val (.int p1), .unset, .unset, .unset, .unset, .unset, .unset] [(.int (7 : Int32)), (.ref b1), (.ref b1)])) _
    refine XS.sipush X8.here hx rfl (hb hby at_45) ?_
    exact kt
  obtain ⟨cl9, Ar9, q9, S9, N9a, H9, G9⟩ := V8
  have hin9 : ¬ ((7 : Int32) < 0 ∨ cl9.slots.size ≤ ((7 : Int32)).toNatClampNeg) := inb_of S9 ⟨by decide, by decide⟩
  obtain ⟨T9, h9, X9, e9, W9, st9⟩ := stI X8 hx hZ e8 Ar9 (j := (7 : Int32)) hin9 (g := (mkF m 48 #[.val (.int p0), .val (.int p1), .unset, .unset, .unset, .unset, .unset, .unset] [(.int (216 : Int32)), (.int (7 : Int32)), (.ref b1), (.ref b1)])) rfl rfl (hb hby at_48)
  have V9 : Arv Z h9 b1 k1 .int (29 : Int32) [(.int (65 : Int32)), (.int (90 : Int32)), (.int (95 : Int32)), (.int (97 : Int32)), (.int (122 : Int32)), (.int (192 : Int32)), (.int (214 : Int32)), (.int (216 : Int32)), (.int (0 : Int32)), (.int (0 : Int32)), (.int (0 : Int32)), (.int (0 : Int32)), (.int (0 : Int32)), (.int (0 : Int32)), (.int (0 : Int32)), (.int (0 : Int32)), (.int (0 : Int32)), (.int (0 : Int32)), (.int (0 : Int32)), (.int (0 : Int32)), (.int (0 : Int32)), (.int (0 : Int32)), (.int (0 : Int32)), (.int (0 : Int32)), (.int (0 : Int32)), (.int (0 : Int32)), (.int (0 : Int32)), (.int (0 : Int32)), (.int (0 : Int32))] (.int (0 : Int32)) := Arv.set Ar9 q9 S9 N9a H9 G9 rfl W9 7 rfl (Nat.le_of_ble_eq_true rfl)
  have N9 := Fr.snoc X9 N8 g_b1
  obtain ⟨LL9, X9, N9⟩ := own_fold X9 N9
  have Z9 : n0 ≤ h9.size := Nat.le_trans Z8 (Nat.le_of_eq W9.size.symm)
  refine own_via (A' := T9.setTop (mkF m 49 #[.val (.int p0), .val (.int p1), .unset, .unset, .unset, .unset, .unset, .unset] [(.ref b1)])) st9 ?_
  refine own_via (A' := T9.setTop (mkF m 55 #[.val (.int p0), .val (.int p1), .unset, .unset, .unset, .unset, .unset, .unset] [(.int (246 : Int32)), (.int (8 : Int32)), (.ref b1), (.ref b1)])) (fun target kt => ?_) ?_
  · show Steps p.tables e below (T9.setTop (mkF m 49 #[.val (.int p0), .val (.int p1), .unset, .unset, .unset, .unset, .unset, .unset] [(.ref b1)])) _
    refine XS.dup X9.here hx rfl (hb hby at_49) rfl rfl ?_
    show Steps p.tables e below (T9.setTop (mkF m 50 #[.val (.int p0), .val (.int p1), .unset, .unset, .unset, .unset, .unset, .unset] [(.ref b1), (.ref b1)])) _
    refine XS.bipush X9.here hx rfl (hb hby at_50) ?_
    show Steps p.tables e below (T9.setTop (mkF m 52 #[.val (.int p0), .val (.int p1), .unset, .unset, .unset, .unset, .unset, .unset] [(.int (8 : Int32)), (.ref b1), (.ref b1)])) _
    refine XS.sipush X9.here hx rfl (hb hby at_52) ?_
    exact kt
  obtain ⟨cl10, Ar10, q10, S10, N10a, H10, G10⟩ := V9
  have hin10 : ¬ ((8 : Int32) < 0 ∨ cl10.slots.size ≤ ((8 : Int32)).toNatClampNeg) := inb_of S10 ⟨by decide, by decide⟩
  obtain ⟨T10, h10, X10, e10, W10, st10⟩ := stI X9 hx hZ e9 Ar10 (j := (8 : Int32)) hin10 (g := (mkF m 55 #[.val (.int p0), .val (.int p1), .unset, .unset, .unset, .unset, .unset, .unset] [(.int (246 : Int32)), (.int (8 : Int32)), (.ref b1), (.ref b1)])) rfl rfl (hb hby at_55)
  have V10 : Arv Z h10 b1 k1 .int (29 : Int32) [(.int (65 : Int32)), (.int (90 : Int32)), (.int (95 : Int32)), (.int (97 : Int32)), (.int (122 : Int32)), (.int (192 : Int32)), (.int (214 : Int32)), (.int (216 : Int32)), (.int (246 : Int32)), (.int (0 : Int32)), (.int (0 : Int32)), (.int (0 : Int32)), (.int (0 : Int32)), (.int (0 : Int32)), (.int (0 : Int32)), (.int (0 : Int32)), (.int (0 : Int32)), (.int (0 : Int32)), (.int (0 : Int32)), (.int (0 : Int32)), (.int (0 : Int32)), (.int (0 : Int32)), (.int (0 : Int32)), (.int (0 : Int32)), (.int (0 : Int32)), (.int (0 : Int32)), (.int (0 : Int32)), (.int (0 : Int32)), (.int (0 : Int32))] (.int (0 : Int32)) := Arv.set Ar10 q10 S10 N10a H10 G10 rfl W10 8 rfl (Nat.le_of_ble_eq_true rfl)
  have N10 := Fr.snoc X10 N9 g_b1
  obtain ⟨LL10, X10, N10⟩ := own_fold X10 N10
  have Z10 : n0 ≤ h10.size := Nat.le_trans Z9 (Nat.le_of_eq W10.size.symm)
  refine own_via (A' := T10.setTop (mkF m 56 #[.val (.int p0), .val (.int p1), .unset, .unset, .unset, .unset, .unset, .unset] [(.ref b1)])) st10 ?_
  refine own_via (A' := T10.setTop (mkF m 62 #[.val (.int p0), .val (.int p1), .unset, .unset, .unset, .unset, .unset, .unset] [(.int (248 : Int32)), (.int (9 : Int32)), (.ref b1), (.ref b1)])) (fun target kt => ?_) ?_
  · show Steps p.tables e below (T10.setTop (mkF m 56 #[.val (.int p0), .val (.int p1), .unset, .unset, .unset, .unset, .unset, .unset] [(.ref b1)])) _
    refine XS.dup X10.here hx rfl (hb hby at_56) rfl rfl ?_
    show Steps p.tables e below (T10.setTop (mkF m 57 #[.val (.int p0), .val (.int p1), .unset, .unset, .unset, .unset, .unset, .unset] [(.ref b1), (.ref b1)])) _
    refine XS.bipush X10.here hx rfl (hb hby at_57) ?_
    show Steps p.tables e below (T10.setTop (mkF m 59 #[.val (.int p0), .val (.int p1), .unset, .unset, .unset, .unset, .unset, .unset] [(.int (9 : Int32)), (.ref b1), (.ref b1)])) _
    refine XS.sipush X10.here hx rfl (hb hby at_59) ?_
    exact kt
  obtain ⟨cl11, Ar11, q11, S11, N11a, H11, G11⟩ := V10
  have hin11 : ¬ ((9 : Int32) < 0 ∨ cl11.slots.size ≤ ((9 : Int32)).toNatClampNeg) := inb_of S11 ⟨by decide, by decide⟩
  obtain ⟨T11, h11, X11, e11, W11, st11⟩ := stI X10 hx hZ e10 Ar11 (j := (9 : Int32)) hin11 (g := (mkF m 62 #[.val (.int p0), .val (.int p1), .unset, .unset, .unset, .unset, .unset, .unset] [(.int (248 : Int32)), (.int (9 : Int32)), (.ref b1), (.ref b1)])) rfl rfl (hb hby at_62)
  have V11 : Arv Z h11 b1 k1 .int (29 : Int32) [(.int (65 : Int32)), (.int (90 : Int32)), (.int (95 : Int32)), (.int (97 : Int32)), (.int (122 : Int32)), (.int (192 : Int32)), (.int (214 : Int32)), (.int (216 : Int32)), (.int (246 : Int32)), (.int (248 : Int32)), (.int (0 : Int32)), (.int (0 : Int32)), (.int (0 : Int32)), (.int (0 : Int32)), (.int (0 : Int32)), (.int (0 : Int32)), (.int (0 : Int32)), (.int (0 : Int32)), (.int (0 : Int32)), (.int (0 : Int32)), (.int (0 : Int32)), (.int (0 : Int32)), (.int (0 : Int32)), (.int (0 : Int32)), (.int (0 : Int32)), (.int (0 : Int32)), (.int (0 : Int32)), (.int (0 : Int32)), (.int (0 : Int32))] (.int (0 : Int32)) := Arv.set Ar11 q11 S11 N11a H11 G11 rfl W11 9 rfl (Nat.le_of_ble_eq_true rfl)
  have N11 := Fr.snoc X11 N10 g_b1
  obtain ⟨LL11, X11, N11⟩ := own_fold X11 N11
  have Z11 : n0 ≤ h11.size := Nat.le_trans Z10 (Nat.le_of_eq W11.size.symm)
  refine own_via (A' := T11.setTop (mkF m 63 #[.val (.int p0), .val (.int p1), .unset, .unset, .unset, .unset, .unset, .unset] [(.ref b1)])) st11 ?_
  refine own_via (A' := T11.setTop (mkF m 69 #[.val (.int p0), .val (.int p1), .unset, .unset, .unset, .unset, .unset, .unset] [(.int (767 : Int32)), (.int (10 : Int32)), (.ref b1), (.ref b1)])) (fun target kt => ?_) ?_
  · show Steps p.tables e below (T11.setTop (mkF m 63 #[.val (.int p0), .val (.int p1), .unset, .unset, .unset, .unset, .unset, .unset] [(.ref b1)])) _
    refine XS.dup X11.here hx rfl (hb hby at_63) rfl rfl ?_
    show Steps p.tables e below (T11.setTop (mkF m 64 #[.val (.int p0), .val (.int p1), .unset, .unset, .unset, .unset, .unset, .unset] [(.ref b1), (.ref b1)])) _
    refine XS.bipush X11.here hx rfl (hb hby at_64) ?_
    show Steps p.tables e below (T11.setTop (mkF m 66 #[.val (.int p0), .val (.int p1), .unset, .unset, .unset, .unset, .unset, .unset] [(.int (10 : Int32)), (.ref b1), (.ref b1)])) _
    refine XS.sipush X11.here hx rfl (hb hby at_66) ?_
    exact kt
  obtain ⟨cl12, Ar12, q12, S12, N12a, H12, G12⟩ := V11
  have hin12 : ¬ ((10 : Int32) < 0 ∨ cl12.slots.size ≤ ((10 : Int32)).toNatClampNeg) := inb_of S12 ⟨by decide, by decide⟩
  obtain ⟨T12, h12, X12, e12, W12, st12⟩ := stI X11 hx hZ e11 Ar12 (j := (10 : Int32)) hin12 (g := (mkF m 69 #[.val (.int p0), .val (.int p1), .unset, .unset, .unset, .unset, .unset, .unset] [(.int (767 : Int32)), (.int (10 : Int32)), (.ref b1), (.ref b1)])) rfl rfl (hb hby at_69)
  have V12 : Arv Z h12 b1 k1 .int (29 : Int32) [(.int (65 : Int32)), (.int (90 : Int32)), (.int (95 : Int32)), (.int (97 : Int32)), (.int (122 : Int32)), (.int (192 : Int32)), (.int (214 : Int32)), (.int (216 : Int32)), (.int (246 : Int32)), (.int (248 : Int32)), (.int (767 : Int32)), (.int (0 : Int32)), (.int (0 : Int32)), (.int (0 : Int32)), (.int (0 : Int32)), (.int (0 : Int32)), (.int (0 : Int32)), (.int (0 : Int32)), (.int (0 : Int32)), (.int (0 : Int32)), (.int (0 : Int32)), (.int (0 : Int32)), (.int (0 : Int32)), (.int (0 : Int32)), (.int (0 : Int32)), (.int (0 : Int32)), (.int (0 : Int32)), (.int (0 : Int32)), (.int (0 : Int32))] (.int (0 : Int32)) := Arv.set Ar12 q12 S12 N12a H12 G12 rfl W12 10 rfl (Nat.le_of_ble_eq_true rfl)
  have N12 := Fr.snoc X12 N11 g_b1
  obtain ⟨LL12, X12, N12⟩ := own_fold X12 N12
  have Z12 : n0 ≤ h12.size := Nat.le_trans Z11 (Nat.le_of_eq W12.size.symm)
  refine own_via (A' := T12.setTop (mkF m 70 #[.val (.int p0), .val (.int p1), .unset, .unset, .unset, .unset, .unset, .unset] [(.ref b1)])) st12 ?_
  refine own_via (A' := T12.setTop (mkF m 76 #[.val (.int p0), .val (.int p1), .unset, .unset, .unset, .unset, .unset, .unset] [(.int (880 : Int32)), (.int (11 : Int32)), (.ref b1), (.ref b1)])) (fun target kt => ?_) ?_
  · show Steps p.tables e below (T12.setTop (mkF m 70 #[.val (.int p0), .val (.int p1), .unset, .unset, .unset, .unset, .unset, .unset] [(.ref b1)])) _
    refine XS.dup X12.here hx rfl (hb hby at_70) rfl rfl ?_
    show Steps p.tables e below (T12.setTop (mkF m 71 #[.val (.int p0), .val (.int p1), .unset, .unset, .unset, .unset, .unset, .unset] [(.ref b1), (.ref b1)])) _
    refine XS.bipush X12.here hx rfl (hb hby at_71) ?_
    show Steps p.tables e below (T12.setTop (mkF m 73 #[.val (.int p0), .val (.int p1), .unset, .unset, .unset, .unset, .unset, .unset] [(.int (11 : Int32)), (.ref b1), (.ref b1)])) _
    refine XS.sipush X12.here hx rfl (hb hby at_73) ?_
    exact kt
  obtain ⟨cl13, Ar13, q13, S13, N13a, H13, G13⟩ := V12
  have hin13 : ¬ ((11 : Int32) < 0 ∨ cl13.slots.size ≤ ((11 : Int32)).toNatClampNeg) := inb_of S13 ⟨by decide, by decide⟩
  obtain ⟨T13, h13, X13, e13, W13, st13⟩ := stI X12 hx hZ e12 Ar13 (j := (11 : Int32)) hin13 (g := (mkF m 76 #[.val (.int p0), .val (.int p1), .unset, .unset, .unset, .unset, .unset, .unset] [(.int (880 : Int32)), (.int (11 : Int32)), (.ref b1), (.ref b1)])) rfl rfl (hb hby at_76)
  have V13 : Arv Z h13 b1 k1 .int (29 : Int32) [(.int (65 : Int32)), (.int (90 : Int32)), (.int (95 : Int32)), (.int (97 : Int32)), (.int (122 : Int32)), (.int (192 : Int32)), (.int (214 : Int32)), (.int (216 : Int32)), (.int (246 : Int32)), (.int (248 : Int32)), (.int (767 : Int32)), (.int (880 : Int32)), (.int (0 : Int32)), (.int (0 : Int32)), (.int (0 : Int32)), (.int (0 : Int32)), (.int (0 : Int32)), (.int (0 : Int32)), (.int (0 : Int32)), (.int (0 : Int32)), (.int (0 : Int32)), (.int (0 : Int32)), (.int (0 : Int32)), (.int (0 : Int32)), (.int (0 : Int32)), (.int (0 : Int32)), (.int (0 : Int32)), (.int (0 : Int32)), (.int (0 : Int32))] (.int (0 : Int32)) := Arv.set Ar13 q13 S13 N13a H13 G13 rfl W13 11 rfl (Nat.le_of_ble_eq_true rfl)
  have N13 := Fr.snoc X13 N12 g_b1
  obtain ⟨LL13, X13, N13⟩ := own_fold X13 N13
  have Z13 : n0 ≤ h13.size := Nat.le_trans Z12 (Nat.le_of_eq W13.size.symm)
  refine own_via (A' := T13.setTop (mkF m 77 #[.val (.int p0), .val (.int p1), .unset, .unset, .unset, .unset, .unset, .unset] [(.ref b1)])) st13 ?_
  refine own_via (A' := T13.setTop (mkF m 83 #[.val (.int p0), .val (.int p1), .unset, .unset, .unset, .unset, .unset, .unset] [(.int (893 : Int32)), (.int (12 : Int32)), (.ref b1), (.ref b1)])) (fun target kt => ?_) ?_
  · show Steps p.tables e below (T13.setTop (mkF m 77 #[.val (.int p0), .val (.int p1), .unset, .unset, .unset, .unset, .unset, .unset] [(.ref b1)])) _
    refine XS.dup X13.here hx rfl (hb hby at_77) rfl rfl ?_
    show Steps p.tables e below (T13.setTop (mkF m 78 #[.val (.int p0), .val (.int p1), .unset, .unset, .unset, .unset, .unset, .unset] [(.ref b1), (.ref b1)])) _
    refine XS.bipush X13.here hx rfl (hb hby at_78) ?_
    show Steps p.tables e below (T13.setTop (mkF m 80 #[.val (.int p0), .val (.int p1), .unset, .unset, .unset, .unset, .unset, .unset] [(.int (12 : Int32)), (.ref b1), (.ref b1)])) _
    refine XS.sipush X13.here hx rfl (hb hby at_80) ?_
    exact kt
  obtain ⟨cl14, Ar14, q14, S14, N14a, H14, G14⟩ := V13
  have hin14 : ¬ ((12 : Int32) < 0 ∨ cl14.slots.size ≤ ((12 : Int32)).toNatClampNeg) := inb_of S14 ⟨by decide, by decide⟩
  obtain ⟨T14, h14, X14, e14, W14, st14⟩ := stI X13 hx hZ e13 Ar14 (j := (12 : Int32)) hin14 (g := (mkF m 83 #[.val (.int p0), .val (.int p1), .unset, .unset, .unset, .unset, .unset, .unset] [(.int (893 : Int32)), (.int (12 : Int32)), (.ref b1), (.ref b1)])) rfl rfl (hb hby at_83)
  have V14 : Arv Z h14 b1 k1 .int (29 : Int32) [(.int (65 : Int32)), (.int (90 : Int32)), (.int (95 : Int32)), (.int (97 : Int32)), (.int (122 : Int32)), (.int (192 : Int32)), (.int (214 : Int32)), (.int (216 : Int32)), (.int (246 : Int32)), (.int (248 : Int32)), (.int (767 : Int32)), (.int (880 : Int32)), (.int (893 : Int32)), (.int (0 : Int32)), (.int (0 : Int32)), (.int (0 : Int32)), (.int (0 : Int32)), (.int (0 : Int32)), (.int (0 : Int32)), (.int (0 : Int32)), (.int (0 : Int32)), (.int (0 : Int32)), (.int (0 : Int32)), (.int (0 : Int32)), (.int (0 : Int32)), (.int (0 : Int32)), (.int (0 : Int32)), (.int (0 : Int32)), (.int (0 : Int32))] (.int (0 : Int32)) := Arv.set Ar14 q14 S14 N14a H14 G14 rfl W14 12 rfl (Nat.le_of_ble_eq_true rfl)
  have N14 := Fr.snoc X14 N13 g_b1
  obtain ⟨LL14, X14, N14⟩ := own_fold X14 N14
  have Z14 : n0 ≤ h14.size := Nat.le_trans Z13 (Nat.le_of_eq W14.size.symm)
  refine own_via (A' := T14.setTop (mkF m 84 #[.val (.int p0), .val (.int p1), .unset, .unset, .unset, .unset, .unset, .unset] [(.ref b1)])) st14 ?_
  refine own_via (A' := T14.setTop (mkF m 90 #[.val (.int p0), .val (.int p1), .unset, .unset, .unset, .unset, .unset, .unset] [(.int (895 : Int32)), (.int (13 : Int32)), (.ref b1), (.ref b1)])) (fun target kt => ?_) ?_
  · show Steps p.tables e below (T14.setTop (mkF m 84 #[.val (.int p0), .val (.int p1), .unset, .unset, .unset, .unset, .unset, .unset] [(.ref b1)])) _
    refine XS.dup X14.here hx rfl (hb hby at_84) rfl rfl ?_
    show Steps p.tables e below (T14.setTop (mkF m 85 #[.val (.int p0), .val (.int p1), .unset, .unset, .unset, .unset, .unset, .unset] [(.ref b1), (.ref b1)])) _
    refine XS.bipush X14.here hx rfl (hb hby at_85) ?_
    show Steps p.tables e below (T14.setTop (mkF m 87 #[.val (.int p0), .val (.int p1), .unset, .unset, .unset, .unset, .unset, .unset] [(.int (13 : Int32)), (.ref b1), (.ref b1)])) _
    refine XS.sipush X14.here hx rfl (hb hby at_87) ?_
    exact kt
  obtain ⟨cl15, Ar15, q15, S15, N15a, H15, G15⟩ := V14
  have hin15 : ¬ ((13 : Int32) < 0 ∨ cl15.slots.size ≤ ((13 : Int32)).toNatClampNeg) := inb_of S15 ⟨by decide, by decide⟩
  obtain ⟨T15, h15, X15, e15, W15, st15⟩ := stI X14 hx hZ e14 Ar15 (j := (13 : Int32)) hin15 (g := (mkF m 90 #[.val (.int p0), .val (.int p1), .unset, .unset, .unset, .unset, .unset, .unset] [(.int (895 : Int32)), (.int (13 : Int32)), (.ref b1), (.ref b1)])) rfl rfl (hb hby at_90)
  have V15 : Arv Z h15 b1 k1 .int (29 : Int32) [(.int (65 : Int32)), (.int (90 : Int32)), (.int (95 : Int32)), (.int (97 : Int32)), (.int (122 : Int32)), (.int (192 : Int32)), (.int (214 : Int32)), (.int (216 : Int32)), (.int (246 : Int32)), (.int (248 : Int32)), (.int (767 : Int32)), (.int (880 : Int32)), (.int (893 : Int32)), (.int (895 : Int32)), (.int (0 : Int32)), (.int (0 : Int32)), (.int (0 : Int32)), (.int (0 : Int32)), (.int (0 : Int32)), (.int (0 : Int32)), (.int (0 : Int32)), (.int (0 : Int32)), (.int (0 : Int32)), (.int (0 : Int32)), (.int (0 : Int32)), (.int (0 : Int32)), (.int (0 : Int32)), (.int (0 : Int32)), (.int (0 : Int32))] (.int (0 : Int32)) := Arv.set Ar15 q15 S15 N15a H15 G15 rfl W15 13 rfl (Nat.le_of_ble_eq_true rfl)
  have N15 := Fr.snoc X15 N14 g_b1
  obtain ⟨LL15, X15, N15⟩ := own_fold X15 N15
  have Z15 : n0 ≤ h15.size := Nat.le_trans Z14 (Nat.le_of_eq W15.size.symm)
  refine own_via (A' := T15.setTop (mkF m 91 #[.val (.int p0), .val (.int p1), .unset, .unset, .unset, .unset, .unset, .unset] [(.ref b1)])) st15 ?_
  refine own_via (A' := T15.setTop (mkF m 97 #[.val (.int p0), .val (.int p1), .unset, .unset, .unset, .unset, .unset, .unset] [(.int (8191 : Int32)), (.int (14 : Int32)), (.ref b1), (.ref b1)])) (fun target kt => ?_) ?_
  · show Steps p.tables e below (T15.setTop (mkF m 91 #[.val (.int p0), .val (.int p1), .unset, .unset, .unset, .unset, .unset, .unset] [(.ref b1)])) _
    refine XS.dup X15.here hx rfl (hb hby at_91) rfl rfl ?_
    show Steps p.tables e below (T15.setTop (mkF m 92 #[.val (.int p0), .val (.int p1), .unset, .unset, .unset, .unset, .unset, .unset] [(.ref b1), (.ref b1)])) _
    refine XS.bipush X15.here hx rfl (hb hby at_92) ?_
    show Steps p.tables e below (T15.setTop (mkF m 94 #[.val (.int p0), .val (.int p1), .unset, .unset, .unset, .unset, .unset, .unset] [(.int (14 : Int32)), (.ref b1), (.ref b1)])) _
    refine XS.sipush X15.here hx rfl (hb hby at_94) ?_
    exact kt
  obtain ⟨cl16, Ar16, q16, S16, N16a, H16, G16⟩ := V15
  have hin16 : ¬ ((14 : Int32) < 0 ∨ cl16.slots.size ≤ ((14 : Int32)).toNatClampNeg) := inb_of S16 ⟨by decide, by decide⟩
  obtain ⟨T16, h16, X16, e16, W16, st16⟩ := stI X15 hx hZ e15 Ar16 (j := (14 : Int32)) hin16 (g := (mkF m 97 #[.val (.int p0), .val (.int p1), .unset, .unset, .unset, .unset, .unset, .unset] [(.int (8191 : Int32)), (.int (14 : Int32)), (.ref b1), (.ref b1)])) rfl rfl (hb hby at_97)
  have V16 : Arv Z h16 b1 k1 .int (29 : Int32) [(.int (65 : Int32)), (.int (90 : Int32)), (.int (95 : Int32)), (.int (97 : Int32)), (.int (122 : Int32)), (.int (192 : Int32)), (.int (214 : Int32)), (.int (216 : Int32)), (.int (246 : Int32)), (.int (248 : Int32)), (.int (767 : Int32)), (.int (880 : Int32)), (.int (893 : Int32)), (.int (895 : Int32)), (.int (8191 : Int32)), (.int (0 : Int32)), (.int (0 : Int32)), (.int (0 : Int32)), (.int (0 : Int32)), (.int (0 : Int32)), (.int (0 : Int32)), (.int (0 : Int32)), (.int (0 : Int32)), (.int (0 : Int32)), (.int (0 : Int32)), (.int (0 : Int32)), (.int (0 : Int32)), (.int (0 : Int32)), (.int (0 : Int32))] (.int (0 : Int32)) := Arv.set Ar16 q16 S16 N16a H16 G16 rfl W16 14 rfl (Nat.le_of_ble_eq_true rfl)
  have N16 := Fr.snoc X16 N15 g_b1
  obtain ⟨LL16, X16, N16⟩ := own_fold X16 N16
  have Z16 : n0 ≤ h16.size := Nat.le_trans Z15 (Nat.le_of_eq W16.size.symm)
  refine own_via (A' := T16.setTop (mkF m 98 #[.val (.int p0), .val (.int p1), .unset, .unset, .unset, .unset, .unset, .unset] [(.ref b1)])) st16 ?_
  refine own_via (A' := T16.setTop (mkF m 104 #[.val (.int p0), .val (.int p1), .unset, .unset, .unset, .unset, .unset, .unset] [(.int (8204 : Int32)), (.int (15 : Int32)), (.ref b1), (.ref b1)])) (fun target kt => ?_) ?_
  · show Steps p.tables e below (T16.setTop (mkF m 98 #[.val (.int p0), .val (.int p1), .unset, .unset, .unset, .unset, .unset, .unset] [(.ref b1)])) _
    refine XS.dup X16.here hx rfl (hb hby at_98) rfl rfl ?_
    show Steps p.tables e below (T16.setTop (mkF m 99 #[.val (.int p0), .val (.int p1), .unset, .unset, .unset, .unset, .unset, .unset] [(.ref b1), (.ref b1)])) _
    refine XS.bipush X16.here hx rfl (hb hby at_99) ?_
    show Steps p.tables e below (T16.setTop (mkF m 101 #[.val (.int p0), .val (.int p1), .unset, .unset, .unset, .unset, .unset, .unset] [(.int (15 : Int32)), (.ref b1), (.ref b1)])) _
    refine XS.sipush X16.here hx rfl (hb hby at_101) ?_
    exact kt
  obtain ⟨cl17, Ar17, q17, S17, N17a, H17, G17⟩ := V16
  have hin17 : ¬ ((15 : Int32) < 0 ∨ cl17.slots.size ≤ ((15 : Int32)).toNatClampNeg) := inb_of S17 ⟨by decide, by decide⟩
  obtain ⟨T17, h17, X17, e17, W17, st17⟩ := stI X16 hx hZ e16 Ar17 (j := (15 : Int32)) hin17 (g := (mkF m 104 #[.val (.int p0), .val (.int p1), .unset, .unset, .unset, .unset, .unset, .unset] [(.int (8204 : Int32)), (.int (15 : Int32)), (.ref b1), (.ref b1)])) rfl rfl (hb hby at_104)
  have V17 : Arv Z h17 b1 k1 .int (29 : Int32) [(.int (65 : Int32)), (.int (90 : Int32)), (.int (95 : Int32)), (.int (97 : Int32)), (.int (122 : Int32)), (.int (192 : Int32)), (.int (214 : Int32)), (.int (216 : Int32)), (.int (246 : Int32)), (.int (248 : Int32)), (.int (767 : Int32)), (.int (880 : Int32)), (.int (893 : Int32)), (.int (895 : Int32)), (.int (8191 : Int32)), (.int (8204 : Int32)), (.int (0 : Int32)), (.int (0 : Int32)), (.int (0 : Int32)), (.int (0 : Int32)), (.int (0 : Int32)), (.int (0 : Int32)), (.int (0 : Int32)), (.int (0 : Int32)), (.int (0 : Int32)), (.int (0 : Int32)), (.int (0 : Int32)), (.int (0 : Int32)), (.int (0 : Int32))] (.int (0 : Int32)) := Arv.set Ar17 q17 S17 N17a H17 G17 rfl W17 15 rfl (Nat.le_of_ble_eq_true rfl)
  have N17 := Fr.snoc X17 N16 g_b1
  obtain ⟨LL17, X17, N17⟩ := own_fold X17 N17
  have Z17 : n0 ≤ h17.size := Nat.le_trans Z16 (Nat.le_of_eq W17.size.symm)
  refine own_via (A' := T17.setTop (mkF m 105 #[.val (.int p0), .val (.int p1), .unset, .unset, .unset, .unset, .unset, .unset] [(.ref b1)])) st17 ?_
  refine own_via (A' := T17.setTop (mkF m 111 #[.val (.int p0), .val (.int p1), .unset, .unset, .unset, .unset, .unset, .unset] [(.int (8205 : Int32)), (.int (16 : Int32)), (.ref b1), (.ref b1)])) (fun target kt => ?_) ?_
  · show Steps p.tables e below (T17.setTop (mkF m 105 #[.val (.int p0), .val (.int p1), .unset, .unset, .unset, .unset, .unset, .unset] [(.ref b1)])) _
    refine XS.dup X17.here hx rfl (hb hby at_105) rfl rfl ?_
    show Steps p.tables e below (T17.setTop (mkF m 106 #[.val (.int p0), .val (.int p1), .unset, .unset, .unset, .unset, .unset, .unset] [(.ref b1), (.ref b1)])) _
    refine XS.bipush X17.here hx rfl (hb hby at_106) ?_
    show Steps p.tables e below (T17.setTop (mkF m 108 #[.val (.int p0), .val (.int p1), .unset, .unset, .unset, .unset, .unset, .unset] [(.int (16 : Int32)), (.ref b1), (.ref b1)])) _
    refine XS.sipush X17.here hx rfl (hb hby at_108) ?_
    exact kt
  obtain ⟨cl18, Ar18, q18, S18, N18a, H18, G18⟩ := V17
  have hin18 : ¬ ((16 : Int32) < 0 ∨ cl18.slots.size ≤ ((16 : Int32)).toNatClampNeg) := inb_of S18 ⟨by decide, by decide⟩
  obtain ⟨T18, h18, X18, e18, W18, st18⟩ := stI X17 hx hZ e17 Ar18 (j := (16 : Int32)) hin18 (g := (mkF m 111 #[.val (.int p0), .val (.int p1), .unset, .unset, .unset, .unset, .unset, .unset] [(.int (8205 : Int32)), (.int (16 : Int32)), (.ref b1), (.ref b1)])) rfl rfl (hb hby at_111)
  have V18 : Arv Z h18 b1 k1 .int (29 : Int32) [(.int (65 : Int32)), (.int (90 : Int32)), (.int (95 : Int32)), (.int (97 : Int32)), (.int (122 : Int32)), (.int (192 : Int32)), (.int (214 : Int32)), (.int (216 : Int32)), (.int (246 : Int32)), (.int (248 : Int32)), (.int (767 : Int32)), (.int (880 : Int32)), (.int (893 : Int32)), (.int (895 : Int32)), (.int (8191 : Int32)), (.int (8204 : Int32)), (.int (8205 : Int32)), (.int (0 : Int32)), (.int (0 : Int32)), (.int (0 : Int32)), (.int (0 : Int32)), (.int (0 : Int32)), (.int (0 : Int32)), (.int (0 : Int32)), (.int (0 : Int32)), (.int (0 : Int32)), (.int (0 : Int32)), (.int (0 : Int32)), (.int (0 : Int32))] (.int (0 : Int32)) := Arv.set Ar18 q18 S18 N18a H18 G18 rfl W18 16 rfl (Nat.le_of_ble_eq_true rfl)
  have N18 := Fr.snoc X18 N17 g_b1
  obtain ⟨LL18, X18, N18⟩ := own_fold X18 N18
  have Z18 : n0 ≤ h18.size := Nat.le_trans Z17 (Nat.le_of_eq W18.size.symm)
  refine own_via (A' := T18.setTop (mkF m 112 #[.val (.int p0), .val (.int p1), .unset, .unset, .unset, .unset, .unset, .unset] [(.ref b1)])) st18 ?_
  refine own_via (A' := T18.setTop (mkF m 118 #[.val (.int p0), .val (.int p1), .unset, .unset, .unset, .unset, .unset, .unset] [(.int (8304 : Int32)), (.int (17 : Int32)), (.ref b1), (.ref b1)])) (fun target kt => ?_) ?_
  · show Steps p.tables e below (T18.setTop (mkF m 112 #[.val (.int p0), .val (.int p1), .unset, .unset, .unset, .unset, .unset, .unset] [(.ref b1)])) _
    refine XS.dup X18.here hx rfl (hb hby at_112) rfl rfl ?_
    show Steps p.tables e below (T18.setTop (mkF m 113 #[.val (.int p0), .val (.int p1), .unset, .unset, .unset, .unset, .unset, .unset] [(.ref b1), (.ref b1)])) _
    refine XS.bipush X18.here hx rfl (hb hby at_113) ?_
    show Steps p.tables e below (T18.setTop (mkF m 115 #[.val (.int p0), .val (.int p1), .unset, .unset, .unset, .unset, .unset, .unset] [(.int (17 : Int32)), (.ref b1), (.ref b1)])) _
    refine XS.sipush X18.here hx rfl (hb hby at_115) ?_
    exact kt
  obtain ⟨cl19, Ar19, q19, S19, N19a, H19, G19⟩ := V18
  have hin19 : ¬ ((17 : Int32) < 0 ∨ cl19.slots.size ≤ ((17 : Int32)).toNatClampNeg) := inb_of S19 ⟨by decide, by decide⟩
  obtain ⟨T19, h19, X19, e19, W19, st19⟩ := stI X18 hx hZ e18 Ar19 (j := (17 : Int32)) hin19 (g := (mkF m 118 #[.val (.int p0), .val (.int p1), .unset, .unset, .unset, .unset, .unset, .unset] [(.int (8304 : Int32)), (.int (17 : Int32)), (.ref b1), (.ref b1)])) rfl rfl (hb hby at_118)
  have V19 : Arv Z h19 b1 k1 .int (29 : Int32) [(.int (65 : Int32)), (.int (90 : Int32)), (.int (95 : Int32)), (.int (97 : Int32)), (.int (122 : Int32)), (.int (192 : Int32)), (.int (214 : Int32)), (.int (216 : Int32)), (.int (246 : Int32)), (.int (248 : Int32)), (.int (767 : Int32)), (.int (880 : Int32)), (.int (893 : Int32)), (.int (895 : Int32)), (.int (8191 : Int32)), (.int (8204 : Int32)), (.int (8205 : Int32)), (.int (8304 : Int32)), (.int (0 : Int32)), (.int (0 : Int32)), (.int (0 : Int32)), (.int (0 : Int32)), (.int (0 : Int32)), (.int (0 : Int32)), (.int (0 : Int32)), (.int (0 : Int32)), (.int (0 : Int32)), (.int (0 : Int32)), (.int (0 : Int32))] (.int (0 : Int32)) := Arv.set Ar19 q19 S19 N19a H19 G19 rfl W19 17 rfl (Nat.le_of_ble_eq_true rfl)
  have N19 := Fr.snoc X19 N18 g_b1
  obtain ⟨LL19, X19, N19⟩ := own_fold X19 N19
  have Z19 : n0 ≤ h19.size := Nat.le_trans Z18 (Nat.le_of_eq W19.size.symm)
  refine own_via (A' := T19.setTop (mkF m 119 #[.val (.int p0), .val (.int p1), .unset, .unset, .unset, .unset, .unset, .unset] [(.ref b1)])) st19 ?_
  refine own_via (A' := T19.setTop (mkF m 125 #[.val (.int p0), .val (.int p1), .unset, .unset, .unset, .unset, .unset, .unset] [(.int (8591 : Int32)), (.int (18 : Int32)), (.ref b1), (.ref b1)])) (fun target kt => ?_) ?_
  · show Steps p.tables e below (T19.setTop (mkF m 119 #[.val (.int p0), .val (.int p1), .unset, .unset, .unset, .unset, .unset, .unset] [(.ref b1)])) _
    refine XS.dup X19.here hx rfl (hb hby at_119) rfl rfl ?_
    show Steps p.tables e below (T19.setTop (mkF m 120 #[.val (.int p0), .val (.int p1), .unset, .unset, .unset, .unset, .unset, .unset] [(.ref b1), (.ref b1)])) _
    refine XS.bipush X19.here hx rfl (hb hby at_120) ?_
    show Steps p.tables e below (T19.setTop (mkF m 122 #[.val (.int p0), .val (.int p1), .unset, .unset, .unset, .unset, .unset, .unset] [(.int (18 : Int32)), (.ref b1), (.ref b1)])) _
    refine XS.sipush X19.here hx rfl (hb hby at_122) ?_
    exact kt
  obtain ⟨cl20, Ar20, q20, S20, N20a, H20, G20⟩ := V19
  have hin20 : ¬ ((18 : Int32) < 0 ∨ cl20.slots.size ≤ ((18 : Int32)).toNatClampNeg) := inb_of S20 ⟨by decide, by decide⟩
  obtain ⟨T20, h20, X20, e20, W20, st20⟩ := stI X19 hx hZ e19 Ar20 (j := (18 : Int32)) hin20 (g := (mkF m 125 #[.val (.int p0), .val (.int p1), .unset, .unset, .unset, .unset, .unset, .unset] [(.int (8591 : Int32)), (.int (18 : Int32)), (.ref b1), (.ref b1)])) rfl rfl (hb hby at_125)
  have V20 : Arv Z h20 b1 k1 .int (29 : Int32) [(.int (65 : Int32)), (.int (90 : Int32)), (.int (95 : Int32)), (.int (97 : Int32)), (.int (122 : Int32)), (.int (192 : Int32)), (.int (214 : Int32)), (.int (216 : Int32)), (.int (246 : Int32)), (.int (248 : Int32)), (.int (767 : Int32)), (.int (880 : Int32)), (.int (893 : Int32)), (.int (895 : Int32)), (.int (8191 : Int32)), (.int (8204 : Int32)), (.int (8205 : Int32)), (.int (8304 : Int32)), (.int (8591 : Int32)), (.int (0 : Int32)), (.int (0 : Int32)), (.int (0 : Int32)), (.int (0 : Int32)), (.int (0 : Int32)), (.int (0 : Int32)), (.int (0 : Int32)), (.int (0 : Int32)), (.int (0 : Int32)), (.int (0 : Int32))] (.int (0 : Int32)) := Arv.set Ar20 q20 S20 N20a H20 G20 rfl W20 18 rfl (Nat.le_of_ble_eq_true rfl)
  have N20 := Fr.snoc X20 N19 g_b1
  obtain ⟨LL20, X20, N20⟩ := own_fold X20 N20
  have Z20 : n0 ≤ h20.size := Nat.le_trans Z19 (Nat.le_of_eq W20.size.symm)
  refine own_via (A' := T20.setTop (mkF m 126 #[.val (.int p0), .val (.int p1), .unset, .unset, .unset, .unset, .unset, .unset] [(.ref b1)])) st20 ?_
  refine own_via (A' := T20.setTop (mkF m 132 #[.val (.int p0), .val (.int p1), .unset, .unset, .unset, .unset, .unset, .unset] [(.int (11264 : Int32)), (.int (19 : Int32)), (.ref b1), (.ref b1)])) (fun target kt => ?_) ?_
  · show Steps p.tables e below (T20.setTop (mkF m 126 #[.val (.int p0), .val (.int p1), .unset, .unset, .unset, .unset, .unset, .unset] [(.ref b1)])) _
    refine XS.dup X20.here hx rfl (hb hby at_126) rfl rfl ?_
    show Steps p.tables e below (T20.setTop (mkF m 127 #[.val (.int p0), .val (.int p1), .unset, .unset, .unset, .unset, .unset, .unset] [(.ref b1), (.ref b1)])) _
    refine XS.bipush X20.here hx rfl (hb hby at_127) ?_
    show Steps p.tables e below (T20.setTop (mkF m 129 #[.val (.int p0), .val (.int p1), .unset, .unset, .unset, .unset, .unset, .unset] [(.int (19 : Int32)), (.ref b1), (.ref b1)])) _
    refine XS.sipush X20.here hx rfl (hb hby at_129) ?_
    exact kt
  obtain ⟨cl21, Ar21, q21, S21, N21a, H21, G21⟩ := V20
  have hin21 : ¬ ((19 : Int32) < 0 ∨ cl21.slots.size ≤ ((19 : Int32)).toNatClampNeg) := inb_of S21 ⟨by decide, by decide⟩
  obtain ⟨T21, h21, X21, e21, W21, st21⟩ := stI X20 hx hZ e20 Ar21 (j := (19 : Int32)) hin21 (g := (mkF m 132 #[.val (.int p0), .val (.int p1), .unset, .unset, .unset, .unset, .unset, .unset] [(.int (11264 : Int32)), (.int (19 : Int32)), (.ref b1), (.ref b1)])) rfl rfl (hb hby at_132)
  have V21 : Arv Z h21 b1 k1 .int (29 : Int32) [(.int (65 : Int32)), (.int (90 : Int32)), (.int (95 : Int32)), (.int (97 : Int32)), (.int (122 : Int32)), (.int (192 : Int32)), (.int (214 : Int32)), (.int (216 : Int32)), (.int (246 : Int32)), (.int (248 : Int32)), (.int (767 : Int32)), (.int (880 : Int32)), (.int (893 : Int32)), (.int (895 : Int32)), (.int (8191 : Int32)), (.int (8204 : Int32)), (.int (8205 : Int32)), (.int (8304 : Int32)), (.int (8591 : Int32)), (.int (11264 : Int32)), (.int (0 : Int32)), (.int (0 : Int32)), (.int (0 : Int32)), (.int (0 : Int32)), (.int (0 : Int32)), (.int (0 : Int32)), (.int (0 : Int32)), (.int (0 : Int32)), (.int (0 : Int32))] (.int (0 : Int32)) := Arv.set Ar21 q21 S21 N21a H21 G21 rfl W21 19 rfl (Nat.le_of_ble_eq_true rfl)
  have N21 := Fr.snoc X21 N20 g_b1
  obtain ⟨LL21, X21, N21⟩ := own_fold X21 N21
  have Z21 : n0 ≤ h21.size := Nat.le_trans Z20 (Nat.le_of_eq W21.size.symm)
  refine own_via (A' := T21.setTop (mkF m 133 #[.val (.int p0), .val (.int p1), .unset, .unset, .unset, .unset, .unset, .unset] [(.ref b1)])) st21 ?_
  refine own_via (A' := T21.setTop (mkF m 139 #[.val (.int p0), .val (.int p1), .unset, .unset, .unset, .unset, .unset, .unset] [(.int (12271 : Int32)), (.int (20 : Int32)), (.ref b1), (.ref b1)])) (fun target kt => ?_) ?_
  · show Steps p.tables e below (T21.setTop (mkF m 133 #[.val (.int p0), .val (.int p1), .unset, .unset, .unset, .unset, .unset, .unset] [(.ref b1)])) _
    refine XS.dup X21.here hx rfl (hb hby at_133) rfl rfl ?_
    show Steps p.tables e below (T21.setTop (mkF m 134 #[.val (.int p0), .val (.int p1), .unset, .unset, .unset, .unset, .unset, .unset] [(.ref b1), (.ref b1)])) _
    refine XS.bipush X21.here hx rfl (hb hby at_134) ?_
    show Steps p.tables e below (T21.setTop (mkF m 136 #[.val (.int p0), .val (.int p1), .unset, .unset, .unset, .unset, .unset, .unset] [(.int (20 : Int32)), (.ref b1), (.ref b1)])) _
    refine XS.sipush X21.here hx rfl (hb hby at_136) ?_
    exact kt
  obtain ⟨cl22, Ar22, q22, S22, N22a, H22, G22⟩ := V21
  have hin22 : ¬ ((20 : Int32) < 0 ∨ cl22.slots.size ≤ ((20 : Int32)).toNatClampNeg) := inb_of S22 ⟨by decide, by decide⟩
  obtain ⟨T22, h22, X22, e22, W22, st22⟩ := stI X21 hx hZ e21 Ar22 (j := (20 : Int32)) hin22 (g := (mkF m 139 #[.val (.int p0), .val (.int p1), .unset, .unset, .unset, .unset, .unset, .unset] [(.int (12271 : Int32)), (.int (20 : Int32)), (.ref b1), (.ref b1)])) rfl rfl (hb hby at_139)
  have V22 : Arv Z h22 b1 k1 .int (29 : Int32) [(.int (65 : Int32)), (.int (90 : Int32)), (.int (95 : Int32)), (.int (97 : Int32)), (.int (122 : Int32)), (.int (192 : Int32)), (.int (214 : Int32)), (.int (216 : Int32)), (.int (246 : Int32)), (.int (248 : Int32)), (.int (767 : Int32)), (.int (880 : Int32)), (.int (893 : Int32)), (.int (895 : Int32)), (.int (8191 : Int32)), (.int (8204 : Int32)), (.int (8205 : Int32)), (.int (8304 : Int32)), (.int (8591 : Int32)), (.int (11264 : Int32)), (.int (12271 : Int32)), (.int (0 : Int32)), (.int (0 : Int32)), (.int (0 : Int32)), (.int (0 : Int32)), (.int (0 : Int32)), (.int (0 : Int32)), (.int (0 : Int32)), (.int (0 : Int32))] (.int (0 : Int32)) := Arv.set Ar22 q22 S22 N22a H22 G22 rfl W22 20 rfl (Nat.le_of_ble_eq_true rfl)
  have N22 := Fr.snoc X22 N21 g_b1
  obtain ⟨LL22, X22, N22⟩ := own_fold X22 N22
  have Z22 : n0 ≤ h22.size := Nat.le_trans Z21 (Nat.le_of_eq W22.size.symm)
  refine own_via (A' := T22.setTop (mkF m 140 #[.val (.int p0), .val (.int p1), .unset, .unset, .unset, .unset, .unset, .unset] [(.ref b1)])) st22 ?_
  refine own_via (A' := T22.setTop (mkF m 146 #[.val (.int p0), .val (.int p1), .unset, .unset, .unset, .unset, .unset, .unset] [(.int (12289 : Int32)), (.int (21 : Int32)), (.ref b1), (.ref b1)])) (fun target kt => ?_) ?_
  · show Steps p.tables e below (T22.setTop (mkF m 140 #[.val (.int p0), .val (.int p1), .unset, .unset, .unset, .unset, .unset, .unset] [(.ref b1)])) _
    refine XS.dup X22.here hx rfl (hb hby at_140) rfl rfl ?_
    show Steps p.tables e below (T22.setTop (mkF m 141 #[.val (.int p0), .val (.int p1), .unset, .unset, .unset, .unset, .unset, .unset] [(.ref b1), (.ref b1)])) _
    refine XS.bipush X22.here hx rfl (hb hby at_141) ?_
    show Steps p.tables e below (T22.setTop (mkF m 143 #[.val (.int p0), .val (.int p1), .unset, .unset, .unset, .unset, .unset, .unset] [(.int (21 : Int32)), (.ref b1), (.ref b1)])) _
    refine XS.sipush X22.here hx rfl (hb hby at_143) ?_
    exact kt
  obtain ⟨cl23, Ar23, q23, S23, N23a, H23, G23⟩ := V22
  have hin23 : ¬ ((21 : Int32) < 0 ∨ cl23.slots.size ≤ ((21 : Int32)).toNatClampNeg) := inb_of S23 ⟨by decide, by decide⟩
  obtain ⟨T23, h23, X23, e23, W23, st23⟩ := stI X22 hx hZ e22 Ar23 (j := (21 : Int32)) hin23 (g := (mkF m 146 #[.val (.int p0), .val (.int p1), .unset, .unset, .unset, .unset, .unset, .unset] [(.int (12289 : Int32)), (.int (21 : Int32)), (.ref b1), (.ref b1)])) rfl rfl (hb hby at_146)
  have V23 : Arv Z h23 b1 k1 .int (29 : Int32) [(.int (65 : Int32)), (.int (90 : Int32)), (.int (95 : Int32)), (.int (97 : Int32)), (.int (122 : Int32)), (.int (192 : Int32)), (.int (214 : Int32)), (.int (216 : Int32)), (.int (246 : Int32)), (.int (248 : Int32)), (.int (767 : Int32)), (.int (880 : Int32)), (.int (893 : Int32)), (.int (895 : Int32)), (.int (8191 : Int32)), (.int (8204 : Int32)), (.int (8205 : Int32)), (.int (8304 : Int32)), (.int (8591 : Int32)), (.int (11264 : Int32)), (.int (12271 : Int32)), (.int (12289 : Int32)), (.int (0 : Int32)), (.int (0 : Int32)), (.int (0 : Int32)), (.int (0 : Int32)), (.int (0 : Int32)), (.int (0 : Int32)), (.int (0 : Int32))] (.int (0 : Int32)) := Arv.set Ar23 q23 S23 N23a H23 G23 rfl W23 21 rfl (Nat.le_of_ble_eq_true rfl)
  have N23 := Fr.snoc X23 N22 g_b1
  obtain ⟨LL23, X23, N23⟩ := own_fold X23 N23
  have Z23 : n0 ≤ h23.size := Nat.le_trans Z22 (Nat.le_of_eq W23.size.symm)
  refine own_via (A' := T23.setTop (mkF m 147 #[.val (.int p0), .val (.int p1), .unset, .unset, .unset, .unset, .unset, .unset] [(.ref b1)])) st23 ?_
  refine own_via (A' := T23.setTop (mkF m 152 #[.val (.int p0), .val (.int p1), .unset, .unset, .unset, .unset, .unset, .unset] [(.int (55295 : Int32)), (.int (22 : Int32)), (.ref b1), (.ref b1)])) (fun target kt => ?_) ?_
  · show Steps p.tables e below (T23.setTop (mkF m 147 #[.val (.int p0), .val (.int p1), .unset, .unset, .unset, .unset, .unset, .unset] [(.ref b1)])) _
    refine XS.dup X23.here hx rfl (hb hby at_147) rfl rfl ?_
    show Steps p.tables e below (T23.setTop (mkF m 148 #[.val (.int p0), .val (.int p1), .unset, .unset, .unset, .unset, .unset, .unset] [(.ref b1), (.ref b1)])) _
    refine XS.bipush X23.here hx rfl (hb hby at_148) ?_
    show Steps p.tables e below (T23.setTop (mkF m 150 #[.val (.int p0), .val (.int p1), .unset, .unset, .unset, .unset, .unset, .unset] [(.int (22 : Int32)), (.ref b1), (.ref b1)])) _
    refine X23.ldcInt hx hown (mvT hZ (hw _ (List.mem_of_getElem? (i := 1) rfl))) (g := (mkF m 150 #[.val (.int p0), .val (.int p1), .unset, .unset, .unset, .unset, .unset, .unset] [(.int (22 : Int32)), (.ref b1), (.ref b1)])) rfl (hb hby at_150) _ ?_
    exact kt
  obtain ⟨cl24, Ar24, q24, S24, N24a, H24, G24⟩ := V23
  have hin24 : ¬ ((22 : Int32) < 0 ∨ cl24.slots.size ≤ ((22 : Int32)).toNatClampNeg) := inb_of S24 ⟨by decide, by decide⟩
  obtain ⟨T24, h24, X24, e24, W24, st24⟩ := stI X23 hx hZ e23 Ar24 (j := (22 : Int32)) hin24 (g := (mkF m 152 #[.val (.int p0), .val (.int p1), .unset, .unset, .unset, .unset, .unset, .unset] [(.int (55295 : Int32)), (.int (22 : Int32)), (.ref b1), (.ref b1)])) rfl rfl (hb hby at_152)
  have V24 : Arv Z h24 b1 k1 .int (29 : Int32) [(.int (65 : Int32)), (.int (90 : Int32)), (.int (95 : Int32)), (.int (97 : Int32)), (.int (122 : Int32)), (.int (192 : Int32)), (.int (214 : Int32)), (.int (216 : Int32)), (.int (246 : Int32)), (.int (248 : Int32)), (.int (767 : Int32)), (.int (880 : Int32)), (.int (893 : Int32)), (.int (895 : Int32)), (.int (8191 : Int32)), (.int (8204 : Int32)), (.int (8205 : Int32)), (.int (8304 : Int32)), (.int (8591 : Int32)), (.int (11264 : Int32)), (.int (12271 : Int32)), (.int (12289 : Int32)), (.int (55295 : Int32)), (.int (0 : Int32)), (.int (0 : Int32)), (.int (0 : Int32)), (.int (0 : Int32)), (.int (0 : Int32)), (.int (0 : Int32))] (.int (0 : Int32)) := Arv.set Ar24 q24 S24 N24a H24 G24 rfl W24 22 rfl (Nat.le_of_ble_eq_true rfl)
  have N24 := Fr.snoc X24 N23 g_b1
  obtain ⟨LL24, X24, N24⟩ := own_fold X24 N24
  have Z24 : n0 ≤ h24.size := Nat.le_trans Z23 (Nat.le_of_eq W24.size.symm)
  refine own_via (A' := T24.setTop (mkF m 153 #[.val (.int p0), .val (.int p1), .unset, .unset, .unset, .unset, .unset, .unset] [(.ref b1)])) st24 ?_
  refine own_via (A' := T24.setTop (mkF m 158 #[.val (.int p0), .val (.int p1), .unset, .unset, .unset, .unset, .unset, .unset] [(.int (63744 : Int32)), (.int (23 : Int32)), (.ref b1), (.ref b1)])) (fun target kt => ?_) ?_
  · show Steps p.tables e below (T24.setTop (mkF m 153 #[.val (.int p0), .val (.int p1), .unset, .unset, .unset, .unset, .unset, .unset] [(.ref b1)])) _
    refine XS.dup X24.here hx rfl (hb hby at_153) rfl rfl ?_
    show Steps p.tables e below (T24.setTop (mkF m 154 #[.val (.int p0), .val (.int p1), .unset, .unset, .unset, .unset, .unset, .unset] [(.ref b1), (.ref b1)])) _
    refine XS.bipush X24.here hx rfl (hb hby at_154) ?_
    show Steps p.tables e below (T24.setTop (mkF m 156 #[.val (.int p0), .val (.int p1), .unset, .unset, .unset, .unset, .unset, .unset] [(.int (23 : Int32)), (.ref b1), (.ref b1)])) _
    refine X24.ldcInt hx hown (mvT hZ (hw _ (List.mem_of_getElem? (i := 2) rfl))) (g := (mkF m 156 #[.val (.int p0), .val (.int p1), .unset, .unset, .unset, .unset, .unset, .unset] [(.int (23 : Int32)), (.ref b1), (.ref b1)])) rfl (hb hby at_156) _ ?_
    exact kt
  obtain ⟨cl25, Ar25, q25, S25, N25a, H25, G25⟩ := V24
  have hin25 : ¬ ((23 : Int32) < 0 ∨ cl25.slots.size ≤ ((23 : Int32)).toNatClampNeg) := inb_of S25 ⟨by decide, by decide⟩
  obtain ⟨T25, h25, X25, e25, W25, st25⟩ := stI X24 hx hZ e24 Ar25 (j := (23 : Int32)) hin25 (g := (mkF m 158 #[.val (.int p0), .val (.int p1), .unset, .unset, .unset, .unset, .unset, .unset] [(.int (63744 : Int32)), (.int (23 : Int32)), (.ref b1), (.ref b1)])) rfl rfl (hb hby at_158)
  have V25 : Arv Z h25 b1 k1 .int (29 : Int32) [(.int (65 : Int32)), (.int (90 : Int32)), (.int (95 : Int32)), (.int (97 : Int32)), (.int (122 : Int32)), (.int (192 : Int32)), (.int (214 : Int32)), (.int (216 : Int32)), (.int (246 : Int32)), (.int (248 : Int32)), (.int (767 : Int32)), (.int (880 : Int32)), (.int (893 : Int32)), (.int (895 : Int32)), (.int (8191 : Int32)), (.int (8204 : Int32)), (.int (8205 : Int32)), (.int (8304 : Int32)), (.int (8591 : Int32)), (.int (11264 : Int32)), (.int (12271 : Int32)), (.int (12289 : Int32)), (.int (55295 : Int32)), (.int (63744 : Int32)), (.int (0 : Int32)), (.int (0 : Int32)), (.int (0 : Int32)), (.int (0 : Int32)), (.int (0 : Int32))] (.int (0 : Int32)) := Arv.set Ar25 q25 S25 N25a H25 G25 rfl W25 23 rfl (Nat.le_of_ble_eq_true rfl)
  have N25 := Fr.snoc X25 N24 g_b1
  obtain ⟨LL25, X25, N25⟩ := own_fold X25 N25
  have Z25 : n0 ≤ h25.size := Nat.le_trans Z24 (Nat.le_of_eq W25.size.symm)
  refine own_via (A' := T25.setTop (mkF m 159 #[.val (.int p0), .val (.int p1), .unset, .unset, .unset, .unset, .unset, .unset] [(.ref b1)])) st25 ?_
  refine own_via (A' := T25.setTop (mkF m 164 #[.val (.int p0), .val (.int p1), .unset, .unset, .unset, .unset, .unset, .unset] [(.int (64975 : Int32)), (.int (24 : Int32)), (.ref b1), (.ref b1)])) (fun target kt => ?_) ?_
  · show Steps p.tables e below (T25.setTop (mkF m 159 #[.val (.int p0), .val (.int p1), .unset, .unset, .unset, .unset, .unset, .unset] [(.ref b1)])) _
    refine XS.dup X25.here hx rfl (hb hby at_159) rfl rfl ?_
    show Steps p.tables e below (T25.setTop (mkF m 160 #[.val (.int p0), .val (.int p1), .unset, .unset, .unset, .unset, .unset, .unset] [(.ref b1), (.ref b1)])) _
    refine XS.bipush X25.here hx rfl (hb hby at_160) ?_
    show Steps p.tables e below (T25.setTop (mkF m 162 #[.val (.int p0), .val (.int p1), .unset, .unset, .unset, .unset, .unset, .unset] [(.int (24 : Int32)), (.ref b1), (.ref b1)])) _
    refine X25.ldcInt hx hown (mvT hZ (hw _ (List.mem_of_getElem? (i := 3) rfl))) (g := (mkF m 162 #[.val (.int p0), .val (.int p1), .unset, .unset, .unset, .unset, .unset, .unset] [(.int (24 : Int32)), (.ref b1), (.ref b1)])) rfl (hb hby at_162) _ ?_
    exact kt
  obtain ⟨cl26, Ar26, q26, S26, N26a, H26, G26⟩ := V25
  have hin26 : ¬ ((24 : Int32) < 0 ∨ cl26.slots.size ≤ ((24 : Int32)).toNatClampNeg) := inb_of S26 ⟨by decide, by decide⟩
  obtain ⟨T26, h26, X26, e26, W26, st26⟩ := stI X25 hx hZ e25 Ar26 (j := (24 : Int32)) hin26 (g := (mkF m 164 #[.val (.int p0), .val (.int p1), .unset, .unset, .unset, .unset, .unset, .unset] [(.int (64975 : Int32)), (.int (24 : Int32)), (.ref b1), (.ref b1)])) rfl rfl (hb hby at_164)
  have V26 : Arv Z h26 b1 k1 .int (29 : Int32) [(.int (65 : Int32)), (.int (90 : Int32)), (.int (95 : Int32)), (.int (97 : Int32)), (.int (122 : Int32)), (.int (192 : Int32)), (.int (214 : Int32)), (.int (216 : Int32)), (.int (246 : Int32)), (.int (248 : Int32)), (.int (767 : Int32)), (.int (880 : Int32)), (.int (893 : Int32)), (.int (895 : Int32)), (.int (8191 : Int32)), (.int (8204 : Int32)), (.int (8205 : Int32)), (.int (8304 : Int32)), (.int (8591 : Int32)), (.int (11264 : Int32)), (.int (12271 : Int32)), (.int (12289 : Int32)), (.int (55295 : Int32)), (.int (63744 : Int32)), (.int (64975 : Int32)), (.int (0 : Int32)), (.int (0 : Int32)), (.int (0 : Int32)), (.int (0 : Int32))] (.int (0 : Int32)) := Arv.set Ar26 q26 S26 N26a H26 G26 rfl W26 24 rfl (Nat.le_of_ble_eq_true rfl)
  have N26 := Fr.snoc X26 N25 g_b1
  obtain ⟨LL26, X26, N26⟩ := own_fold X26 N26
  have Z26 : n0 ≤ h26.size := Nat.le_trans Z25 (Nat.le_of_eq W26.size.symm)
  refine own_via (A' := T26.setTop (mkF m 165 #[.val (.int p0), .val (.int p1), .unset, .unset, .unset, .unset, .unset, .unset] [(.ref b1)])) st26 ?_
  refine own_via (A' := T26.setTop (mkF m 170 #[.val (.int p0), .val (.int p1), .unset, .unset, .unset, .unset, .unset, .unset] [(.int (65008 : Int32)), (.int (25 : Int32)), (.ref b1), (.ref b1)])) (fun target kt => ?_) ?_
  · show Steps p.tables e below (T26.setTop (mkF m 165 #[.val (.int p0), .val (.int p1), .unset, .unset, .unset, .unset, .unset, .unset] [(.ref b1)])) _
    refine XS.dup X26.here hx rfl (hb hby at_165) rfl rfl ?_
    show Steps p.tables e below (T26.setTop (mkF m 166 #[.val (.int p0), .val (.int p1), .unset, .unset, .unset, .unset, .unset, .unset] [(.ref b1), (.ref b1)])) _
    refine XS.bipush X26.here hx rfl (hb hby at_166) ?_
    show Steps p.tables e below (T26.setTop (mkF m 168 #[.val (.int p0), .val (.int p1), .unset, .unset, .unset, .unset, .unset, .unset] [(.int (25 : Int32)), (.ref b1), (.ref b1)])) _
    refine X26.ldcInt hx hown (mvT hZ (hw _ (List.mem_of_getElem? (i := 4) rfl))) (g := (mkF m 168 #[.val (.int p0), .val (.int p1), .unset, .unset, .unset, .unset, .unset, .unset] [(.int (25 : Int32)), (.ref b1), (.ref b1)])) rfl (hb hby at_168) _ ?_
    exact kt
  obtain ⟨cl27, Ar27, q27, S27, N27a, H27, G27⟩ := V26
  have hin27 : ¬ ((25 : Int32) < 0 ∨ cl27.slots.size ≤ ((25 : Int32)).toNatClampNeg) := inb_of S27 ⟨by decide, by decide⟩
  obtain ⟨T27, h27, X27, e27, W27, st27⟩ := stI X26 hx hZ e26 Ar27 (j := (25 : Int32)) hin27 (g := (mkF m 170 #[.val (.int p0), .val (.int p1), .unset, .unset, .unset, .unset, .unset, .unset] [(.int (65008 : Int32)), (.int (25 : Int32)), (.ref b1), (.ref b1)])) rfl rfl (hb hby at_170)
  have V27 : Arv Z h27 b1 k1 .int (29 : Int32) [(.int (65 : Int32)), (.int (90 : Int32)), (.int (95 : Int32)), (.int (97 : Int32)), (.int (122 : Int32)), (.int (192 : Int32)), (.int (214 : Int32)), (.int (216 : Int32)), (.int (246 : Int32)), (.int (248 : Int32)), (.int (767 : Int32)), (.int (880 : Int32)), (.int (893 : Int32)), (.int (895 : Int32)), (.int (8191 : Int32)), (.int (8204 : Int32)), (.int (8205 : Int32)), (.int (8304 : Int32)), (.int (8591 : Int32)), (.int (11264 : Int32)), (.int (12271 : Int32)), (.int (12289 : Int32)), (.int (55295 : Int32)), (.int (63744 : Int32)), (.int (64975 : Int32)), (.int (65008 : Int32)), (.int (0 : Int32)), (.int (0 : Int32)), (.int (0 : Int32))] (.int (0 : Int32)) := Arv.set Ar27 q27 S27 N27a H27 G27 rfl W27 25 rfl (Nat.le_of_ble_eq_true rfl)
  have N27 := Fr.snoc X27 N26 g_b1
  obtain ⟨LL27, X27, N27⟩ := own_fold X27 N27
  have Z27 : n0 ≤ h27.size := Nat.le_trans Z26 (Nat.le_of_eq W27.size.symm)
  refine own_via (A' := T27.setTop (mkF m 171 #[.val (.int p0), .val (.int p1), .unset, .unset, .unset, .unset, .unset, .unset] [(.ref b1)])) st27 ?_
  refine own_via (A' := T27.setTop (mkF m 176 #[.val (.int p0), .val (.int p1), .unset, .unset, .unset, .unset, .unset, .unset] [(.int (65533 : Int32)), (.int (26 : Int32)), (.ref b1), (.ref b1)])) (fun target kt => ?_) ?_
  · show Steps p.tables e below (T27.setTop (mkF m 171 #[.val (.int p0), .val (.int p1), .unset, .unset, .unset, .unset, .unset, .unset] [(.ref b1)])) _
    refine XS.dup X27.here hx rfl (hb hby at_171) rfl rfl ?_
    show Steps p.tables e below (T27.setTop (mkF m 172 #[.val (.int p0), .val (.int p1), .unset, .unset, .unset, .unset, .unset, .unset] [(.ref b1), (.ref b1)])) _
    refine XS.bipush X27.here hx rfl (hb hby at_172) ?_
    show Steps p.tables e below (T27.setTop (mkF m 174 #[.val (.int p0), .val (.int p1), .unset, .unset, .unset, .unset, .unset, .unset] [(.int (26 : Int32)), (.ref b1), (.ref b1)])) _
    refine X27.ldcInt hx hown (mvT hZ (hw _ (List.mem_of_getElem? (i := 5) rfl))) (g := (mkF m 174 #[.val (.int p0), .val (.int p1), .unset, .unset, .unset, .unset, .unset, .unset] [(.int (26 : Int32)), (.ref b1), (.ref b1)])) rfl (hb hby at_174) _ ?_
    exact kt
  obtain ⟨cl28, Ar28, q28, S28, N28a, H28, G28⟩ := V27
  have hin28 : ¬ ((26 : Int32) < 0 ∨ cl28.slots.size ≤ ((26 : Int32)).toNatClampNeg) := inb_of S28 ⟨by decide, by decide⟩
  obtain ⟨T28, h28, X28, e28, W28, st28⟩ := stI X27 hx hZ e27 Ar28 (j := (26 : Int32)) hin28 (g := (mkF m 176 #[.val (.int p0), .val (.int p1), .unset, .unset, .unset, .unset, .unset, .unset] [(.int (65533 : Int32)), (.int (26 : Int32)), (.ref b1), (.ref b1)])) rfl rfl (hb hby at_176)
  have V28 : Arv Z h28 b1 k1 .int (29 : Int32) [(.int (65 : Int32)), (.int (90 : Int32)), (.int (95 : Int32)), (.int (97 : Int32)), (.int (122 : Int32)), (.int (192 : Int32)), (.int (214 : Int32)), (.int (216 : Int32)), (.int (246 : Int32)), (.int (248 : Int32)), (.int (767 : Int32)), (.int (880 : Int32)), (.int (893 : Int32)), (.int (895 : Int32)), (.int (8191 : Int32)), (.int (8204 : Int32)), (.int (8205 : Int32)), (.int (8304 : Int32)), (.int (8591 : Int32)), (.int (11264 : Int32)), (.int (12271 : Int32)), (.int (12289 : Int32)), (.int (55295 : Int32)), (.int (63744 : Int32)), (.int (64975 : Int32)), (.int (65008 : Int32)), (.int (65533 : Int32)), (.int (0 : Int32)), (.int (0 : Int32))] (.int (0 : Int32)) := Arv.set Ar28 q28 S28 N28a H28 G28 rfl W28 26 rfl (Nat.le_of_ble_eq_true rfl)
  have N28 := Fr.snoc X28 N27 g_b1
  obtain ⟨LL28, X28, N28⟩ := own_fold X28 N28
  have Z28 : n0 ≤ h28.size := Nat.le_trans Z27 (Nat.le_of_eq W28.size.symm)
  refine own_via (A' := T28.setTop (mkF m 177 #[.val (.int p0), .val (.int p1), .unset, .unset, .unset, .unset, .unset, .unset] [(.ref b1)])) st28 ?_
  refine own_via (A' := T28.setTop (mkF m 182 #[.val (.int p0), .val (.int p1), .unset, .unset, .unset, .unset, .unset, .unset] [(.int (65536 : Int32)), (.int (27 : Int32)), (.ref b1), (.ref b1)])) (fun target kt => ?_) ?_
  · show Steps p.tables e below (T28.setTop (mkF m 177 #[.val (.int p0), .val (.int p1), .unset, .unset, .unset, .unset, .unset, .unset] [(.ref b1)])) _
    refine XS.dup X28.here hx rfl (hb hby at_177) rfl rfl ?_
    show Steps p.tables e below (T28.setTop (mkF m 178 #[.val (.int p0), .val (.int p1), .unset, .unset, .unset, .unset, .unset, .unset] [(.ref b1), (.ref b1)])) _
    refine XS.bipush X28.here hx rfl (hb hby at_178) ?_
    show Steps p.tables e below (T28.setTop (mkF m 180 #[.val (.int p0), .val (.int p1), .unset, .unset, .unset, .unset, .unset, .unset] [(.int (27 : Int32)), (.ref b1), (.ref b1)])) _
    refine X28.ldcInt hx hown (mvT hZ (hw _ (List.mem_of_getElem? (i := 6) rfl))) (g := (mkF m 180 #[.val (.int p0), .val (.int p1), .unset, .unset, .unset, .unset, .unset, .unset] [(.int (27 : Int32)), (.ref b1), (.ref b1)])) rfl (hb hby at_180) _ ?_
    exact kt
  obtain ⟨cl29, Ar29, q29, S29, N29a, H29, G29⟩ := V28
  have hin29 : ¬ ((27 : Int32) < 0 ∨ cl29.slots.size ≤ ((27 : Int32)).toNatClampNeg) := inb_of S29 ⟨by decide, by decide⟩
  obtain ⟨T29, h29, X29, e29, W29, st29⟩ := stI X28 hx hZ e28 Ar29 (j := (27 : Int32)) hin29 (g := (mkF m 182 #[.val (.int p0), .val (.int p1), .unset, .unset, .unset, .unset, .unset, .unset] [(.int (65536 : Int32)), (.int (27 : Int32)), (.ref b1), (.ref b1)])) rfl rfl (hb hby at_182)
  have V29 : Arv Z h29 b1 k1 .int (29 : Int32) [(.int (65 : Int32)), (.int (90 : Int32)), (.int (95 : Int32)), (.int (97 : Int32)), (.int (122 : Int32)), (.int (192 : Int32)), (.int (214 : Int32)), (.int (216 : Int32)), (.int (246 : Int32)), (.int (248 : Int32)), (.int (767 : Int32)), (.int (880 : Int32)), (.int (893 : Int32)), (.int (895 : Int32)), (.int (8191 : Int32)), (.int (8204 : Int32)), (.int (8205 : Int32)), (.int (8304 : Int32)), (.int (8591 : Int32)), (.int (11264 : Int32)), (.int (12271 : Int32)), (.int (12289 : Int32)), (.int (55295 : Int32)), (.int (63744 : Int32)), (.int (64975 : Int32)), (.int (65008 : Int32)), (.int (65533 : Int32)), (.int (65536 : Int32)), (.int (0 : Int32))] (.int (0 : Int32)) := Arv.set Ar29 q29 S29 N29a H29 G29 rfl W29 27 rfl (Nat.le_of_ble_eq_true rfl)
  have N29 := Fr.snoc X29 N28 g_b1
  obtain ⟨LL29, X29, N29⟩ := own_fold X29 N29
  have Z29 : n0 ≤ h29.size := Nat.le_trans Z28 (Nat.le_of_eq W29.size.symm)
  refine own_via (A' := T29.setTop (mkF m 183 #[.val (.int p0), .val (.int p1), .unset, .unset, .unset, .unset, .unset, .unset] [(.ref b1)])) st29 ?_
  refine own_via (A' := T29.setTop (mkF m 188 #[.val (.int p0), .val (.int p1), .unset, .unset, .unset, .unset, .unset, .unset] [(.int (983039 : Int32)), (.int (28 : Int32)), (.ref b1), (.ref b1)])) (fun target kt => ?_) ?_
  · show Steps p.tables e below (T29.setTop (mkF m 183 #[.val (.int p0), .val (.int p1), .unset, .unset, .unset, .unset, .unset, .unset] [(.ref b1)])) _
    refine XS.dup X29.here hx rfl (hb hby at_183) rfl rfl ?_
    show Steps p.tables e below (T29.setTop (mkF m 184 #[.val (.int p0), .val (.int p1), .unset, .unset, .unset, .unset, .unset, .unset] [(.ref b1), (.ref b1)])) _
    refine XS.bipush X29.here hx rfl (hb hby at_184) ?_
    show Steps p.tables e below (T29.setTop (mkF m 186 #[.val (.int p0), .val (.int p1), .unset, .unset, .unset, .unset, .unset, .unset] [(.int (28 : Int32)), (.ref b1), (.ref b1)])) _
    refine X29.ldcInt hx hown (mvT hZ (hw _ (List.mem_of_getElem? (i := 7) rfl))) (g := (mkF m 186 #[.val (.int p0), .val (.int p1), .unset, .unset, .unset, .unset, .unset, .unset] [(.int (28 : Int32)), (.ref b1), (.ref b1)])) rfl (hb hby at_186) _ ?_
    exact kt
  obtain ⟨cl30, Ar30, q30, S30, N30a, H30, G30⟩ := V29
  have hin30 : ¬ ((28 : Int32) < 0 ∨ cl30.slots.size ≤ ((28 : Int32)).toNatClampNeg) := inb_of S30 ⟨by decide, by decide⟩
  obtain ⟨T30, h30, X30, e30, W30, st30⟩ := stI X29 hx hZ e29 Ar30 (j := (28 : Int32)) hin30 (g := (mkF m 188 #[.val (.int p0), .val (.int p1), .unset, .unset, .unset, .unset, .unset, .unset] [(.int (983039 : Int32)), (.int (28 : Int32)), (.ref b1), (.ref b1)])) rfl rfl (hb hby at_188)
  have V30 : Arv Z h30 b1 k1 .int (29 : Int32) [(.int (65 : Int32)), (.int (90 : Int32)), (.int (95 : Int32)), (.int (97 : Int32)), (.int (122 : Int32)), (.int (192 : Int32)), (.int (214 : Int32)), (.int (216 : Int32)), (.int (246 : Int32)), (.int (248 : Int32)), (.int (767 : Int32)), (.int (880 : Int32)), (.int (893 : Int32)), (.int (895 : Int32)), (.int (8191 : Int32)), (.int (8204 : Int32)), (.int (8205 : Int32)), (.int (8304 : Int32)), (.int (8591 : Int32)), (.int (11264 : Int32)), (.int (12271 : Int32)), (.int (12289 : Int32)), (.int (55295 : Int32)), (.int (63744 : Int32)), (.int (64975 : Int32)), (.int (65008 : Int32)), (.int (65533 : Int32)), (.int (65536 : Int32)), (.int (983039 : Int32))] (.int (0 : Int32)) := Arv.set Ar30 q30 S30 N30a H30 G30 rfl W30 28 rfl (Nat.le_of_ble_eq_true rfl)
  have N30 := Fr.snoc X30 N29 g_b1
  obtain ⟨LL30, X30, N30⟩ := own_fold X30 N30
  have Z30 : n0 ≤ h30.size := Nat.le_trans Z29 (Nat.le_of_eq W30.size.symm)
  refine own_via (A' := T30.setTop (mkF m 189 #[.val (.int p0), .val (.int p1), .unset, .unset, .unset, .unset, .unset, .unset] [(.ref b1)])) st30 ?_
  refine own_via (A' := T30.setTop (mkF m 190 #[.val (.int p0), .val (.int p1), .val (.ref b1), .unset, .unset, .unset, .unset, .unset] [])) (fun target kt => ?_) ?_
  · show Steps p.tables e below (T30.setTop (mkF m 189 #[.val (.int p0), .val (.int p1), .unset, .unset, .unset, .unset, .unset, .unset] [(.ref b1)])) _
    refine XS.astoreN X30.here hx rfl (hb hby at_189) rfl rfl (l' := #[.val (.int p0), .val (.int p1), .val (.ref b1), .unset, .unset, .unset, .unset, .unset]) rfl ?_
    exact kt
  have VW : Arv Z h30 b1 k1 .int (29 : Int32) (own_ws.map Value.int) (.int (0 : Int32)) := V30
  refine own_via (A' := T30.setTop (mkF m 195 #[.val (.int p0), .val (.int p1), .val (.ref b1), .unset, .unset, .unset, .unset, .unset] [(.ref b1), (.int (p1 &&& (65535 : Int32)))])) (fun target kt => ?_) ?_
  · show Steps p.tables e below (T30.setTop (mkF m 190 #[.val (.int p0), .val (.int p1), .val (.ref b1), .unset, .unset, .unset, .unset, .unset] [])) _
    refine XS.iloadN X30.here hx rfl (hb hby at_190) rfl ?_
    show Steps p.tables e below (T30.setTop (mkF m 191 #[.val (.int p0), .val (.int p1), .val (.ref b1), .unset, .unset, .unset, .unset, .unset] [(.int p1)])) _
    refine X30.ldcInt hx hown (mvT hZ (hw _ (List.mem_of_getElem? (i := 8) rfl))) (g := (mkF m 191 #[.val (.int p0), .val (.int p1), .val (.ref b1), .unset, .unset, .unset, .unset, .unset] [(.int p1)])) rfl (hb hby at_191) _ ?_
    show Steps p.tables e below (T30.setTop (mkF m 193 #[.val (.int p0), .val (.int p1), .val (.ref b1), .unset, .unset, .unset, .unset, .unset] [(.int (65535 : Int32)), (.int p1)])) _
    refine XS.iand X30.here hx rfl (hb hby at_193) rfl ?_
    show Steps p.tables e below (T30.setTop (mkF m 194 #[.val (.int p0), .val (.int p1), .val (.ref b1), .unset, .unset, .unset, .unset, .unset] [(.int (p1 &&& (65535 : Int32)))])) _
    refine XS.aloadN X30.here hx rfl (hb hby at_194) rfl rfl ?_
    exact kt
  have V31 := VW
  obtain ⟨cl31, Ar31, -, S31, N31a, -, -⟩ := V31
  refine own_via (A' := T30.setTop (mkF m 196 #[.val (.int p0), .val (.int p1), .val (.ref b1), .unset, .unset, .unset, .unset, .unset] [(.int (29 : Int32)), (.int (p1 &&& (65535 : Int32)))])) (fun target kt => X30.arraylength hx (by rw [e30]; exact Ar31.1) (State.isArrayOf_alike hZ.alike Ar31.2.1) (g := (mkF m 195 #[.val (.int p0), .val (.int p1), .val (.ref b1), .unset, .unset, .unset, .unset, .unset] [(.ref b1), (.int (p1 &&& (65535 : Int32)))])) rfl rfl (hb hby at_195) _ (by rw [len_of S31 N31a]; exact kt)) ?_
  refine own_via (A' := T30.setTop (mkF m 198 #[.val (.int p0), .val (.int p1), .val (.ref b1), .val (.int ((p1 &&& (65535 : Int32)) % (29 : Int32))), .unset, .unset, .unset, .unset] [])) (fun target kt => ?_) ?_
  · show Steps p.tables e below (T30.setTop (mkF m 196 #[.val (.int p0), .val (.int p1), .val (.ref b1), .unset, .unset, .unset, .unset, .unset] [(.int (29 : Int32)), (.int (p1 &&& (65535 : Int32)))])) _
    refine iremM X30 hx rfl (hb hby at_196) rfl (by decide) ?_
    show Steps p.tables e below (T30.setTop (mkF m 197 #[.val (.int p0), .val (.int p1), .val (.ref b1), .unset, .unset, .unset, .unset, .unset] [(.int ((p1 &&& (65535 : Int32)) % (29 : Int32)))])) _
    refine XS.istoreN X30.here hx rfl (hb hby at_197) rfl (l' := #[.val (.int p0), .val (.int p1), .val (.ref b1), .val (.int ((p1 &&& (65535 : Int32)) % (29 : Int32))), .unset, .unset, .unset, .unset]) rfl ?_
    exact kt
  have hix := own_idx p1
  generalize ((p1 &&& (65535 : Int32)) % (29 : Int32)) = ix at hix ⊢
  refine own_via (A' := T30.setTop (mkF m 210 #[.val (.int p0), .val (.int p1), .val (.ref b1), .val (.int ix), .val (.int ((((p1.toUInt32 >>> ((16 : Int32) &&& 31).toUInt32).toInt32) % (3 : Int32)) - (1 : Int32))), .unset, .unset, .unset] [(.int ix), (.ref b1)])) (fun target kt => ?_) ?_
  · show Steps p.tables e below (T30.setTop (mkF m 198 #[.val (.int p0), .val (.int p1), .val (.ref b1), .val (.int ix), .unset, .unset, .unset, .unset] [])) _
    refine XS.iloadN X30.here hx rfl (hb hby at_198) rfl ?_
    show Steps p.tables e below (T30.setTop (mkF m 199 #[.val (.int p0), .val (.int p1), .val (.ref b1), .val (.int ix), .unset, .unset, .unset, .unset] [(.int p1)])) _
    refine XS.bipush X30.here hx rfl (hb hby at_199) ?_
    show Steps p.tables e below (T30.setTop (mkF m 201 #[.val (.int p0), .val (.int p1), .val (.ref b1), .val (.int ix), .unset, .unset, .unset, .unset] [(.int (16 : Int32)), (.int p1)])) _
    refine XS.iushr X30.here hx rfl (hb hby at_201) rfl ?_
    show Steps p.tables e below (T30.setTop (mkF m 202 #[.val (.int p0), .val (.int p1), .val (.ref b1), .val (.int ix), .unset, .unset, .unset, .unset] [(.int ((p1.toUInt32 >>> ((16 : Int32) &&& 31).toUInt32).toInt32))])) _
    refine XS.iconst X30.here hx rfl (hb hby at_202) ?_
    show Steps p.tables e below (T30.setTop (mkF m 203 #[.val (.int p0), .val (.int p1), .val (.ref b1), .val (.int ix), .unset, .unset, .unset, .unset] [(.int (3 : Int32)), (.int ((p1.toUInt32 >>> ((16 : Int32) &&& 31).toUInt32).toInt32))])) _
    refine iremM X30 hx rfl (hb hby at_203) rfl (by decide) ?_
    show Steps p.tables e below (T30.setTop (mkF m 204 #[.val (.int p0), .val (.int p1), .val (.ref b1), .val (.int ix), .unset, .unset, .unset, .unset] [(.int (((p1.toUInt32 >>> ((16 : Int32) &&& 31).toUInt32).toInt32) % (3 : Int32)))])) _
    refine XS.iconst X30.here hx rfl (hb hby at_204) ?_
    show Steps p.tables e below (T30.setTop (mkF m 205 #[.val (.int p0), .val (.int p1), .val (.ref b1), .val (.int ix), .unset, .unset, .unset, .unset] [(.int (1 : Int32)), (.int (((p1.toUInt32 >>> ((16 : Int32) &&& 31).toUInt32).toInt32) % (3 : Int32)))])) _
    refine XS.isub X30.here hx rfl (hb hby at_205) rfl ?_
    show Steps p.tables e below (T30.setTop (mkF m 206 #[.val (.int p0), .val (.int p1), .val (.ref b1), .val (.int ix), .unset, .unset, .unset, .unset] [(.int ((((p1.toUInt32 >>> ((16 : Int32) &&& 31).toUInt32).toInt32) % (3 : Int32)) - (1 : Int32)))])) _
    refine XS.istore X30.here hx rfl (hb hby at_206) rfl (l' := #[.val (.int p0), .val (.int p1), .val (.ref b1), .val (.int ix), .val (.int ((((p1.toUInt32 >>> ((16 : Int32) &&& 31).toUInt32).toInt32) % (3 : Int32)) - (1 : Int32))), .unset, .unset, .unset]) rfl ?_
    show Steps p.tables e below (T30.setTop (mkF m 208 #[.val (.int p0), .val (.int p1), .val (.ref b1), .val (.int ix), .val (.int ((((p1.toUInt32 >>> ((16 : Int32) &&& 31).toUInt32).toInt32) % (3 : Int32)) - (1 : Int32))), .unset, .unset, .unset] [])) _
    refine XS.aloadN X30.here hx rfl (hb hby at_208) rfl rfl ?_
    show Steps p.tables e below (T30.setTop (mkF m 209 #[.val (.int p0), .val (.int p1), .val (.ref b1), .val (.int ix), .val (.int ((((p1.toUInt32 >>> ((16 : Int32) &&& 31).toUInt32).toInt32) % (3 : Int32)) - (1 : Int32))), .unset, .unset, .unset] [(.ref b1)])) _
    refine XS.iloadN X30.here hx rfl (hb hby at_209) rfl ?_
    exact kt
  obtain ⟨cl32, w32, hw32, Ar32, hin32, hat32⟩ := own_at (ws := own_ws) (j := ix) VW hix
  refine own_via (A' := T30.setTop (mkF m 211 #[.val (.int p0), .val (.int p1), .val (.ref b1), .val (.int ix), .val (.int ((((p1.toUInt32 >>> ((16 : Int32) &&& 31).toUInt32).toInt32) % (3 : Int32)) - (1 : Int32))), .unset, .unset, .unset] [(.int w32)])) (fun target kt => X30.iaload hx (j := ix) (v := (.int w32)) (by rw [e30]; exact Ar32.1) (State.isArrayOf_alike hZ.alike Ar32.2.1) Ar32.2.2 hin32 hat32 (g := (mkF m 210 #[.val (.int p0), .val (.int p1), .val (.ref b1), .val (.int ix), .val (.int ((((p1.toUInt32 >>> ((16 : Int32) &&& 31).toUInt32).toInt32) % (3 : Int32)) - (1 : Int32))), .unset, .unset, .unset] [(.int ix), (.ref b1)])) rfl rfl (hb hby at_210) _ kt) ?_
  refine own_via (A' := T30.setTop (mkF m 216 #[.val (.int p0), .val (.int p1), .val (.ref b1), .val (.int ix), .val (.int ((((p1.toUInt32 >>> ((16 : Int32) &&& 31).toUInt32).toInt32) % (3 : Int32)) - (1 : Int32))), .val (.int (w32 + ((((p1.toUInt32 >>> ((16 : Int32) &&& 31).toUInt32).toInt32) % (3 : Int32)) - (1 : Int32)))), .unset, .unset] [])) (fun target kt => ?_) ?_
  · show Steps p.tables e below (T30.setTop (mkF m 211 #[.val (.int p0), .val (.int p1), .val (.ref b1), .val (.int ix), .val (.int ((((p1.toUInt32 >>> ((16 : Int32) &&& 31).toUInt32).toInt32) % (3 : Int32)) - (1 : Int32))), .unset, .unset, .unset] [(.int w32)])) _
    refine XS.iload X30.here hx rfl (hb hby at_211) rfl ?_
    show Steps p.tables e below (T30.setTop (mkF m 213 #[.val (.int p0), .val (.int p1), .val (.ref b1), .val (.int ix), .val (.int ((((p1.toUInt32 >>> ((16 : Int32) &&& 31).toUInt32).toInt32) % (3 : Int32)) - (1 : Int32))), .unset, .unset, .unset] [(.int ((((p1.toUInt32 >>> ((16 : Int32) &&& 31).toUInt32).toInt32) % (3 : Int32)) - (1 : Int32))), (.int w32)])) _
    refine XS.iadd X30.here hx rfl (hb hby at_213) rfl ?_
    show Steps p.tables e below (T30.setTop (mkF m 214 #[.val (.int p0), .val (.int p1), .val (.ref b1), .val (.int ix), .val (.int ((((p1.toUInt32 >>> ((16 : Int32) &&& 31).toUInt32).toInt32) % (3 : Int32)) - (1 : Int32))), .unset, .unset, .unset] [(.int (w32 + ((((p1.toUInt32 >>> ((16 : Int32) &&& 31).toUInt32).toInt32) % (3 : Int32)) - (1 : Int32))))])) _
    refine XS.istore X30.here hx rfl (hb hby at_214) rfl (l' := #[.val (.int p0), .val (.int p1), .val (.ref b1), .val (.int ix), .val (.int ((((p1.toUInt32 >>> ((16 : Int32) &&& 31).toUInt32).toInt32) % (3 : Int32)) - (1 : Int32))), .val (.int (w32 + ((((p1.toUInt32 >>> ((16 : Int32) &&& 31).toUInt32).toInt32) % (3 : Int32)) - (1 : Int32)))), .unset, .unset]) rfl ?_
    exact kt
  generalize (w32 + ((((p1.toUInt32 >>> ((16 : Int32) &&& 31).toUInt32).toInt32) % (3 : Int32)) - (1 : Int32))) = bb
  refine own_via (A' := T30.setTop (mkF m 217 #[.val (.int p0), .val (.int p1), .val (.ref b1), .val (.int ix), .val (.int ((((p1.toUInt32 >>> ((16 : Int32) &&& 31).toUInt32).toInt32) % (3 : Int32)) - (1 : Int32))), .val (.int bb), .unset, .unset] [(.int p0)])) (fun target kt => ?_) ?_
  · show Steps p.tables e below (T30.setTop (mkF m 216 #[.val (.int p0), .val (.int p1), .val (.ref b1), .val (.int ix), .val (.int ((((p1.toUInt32 >>> ((16 : Int32) &&& 31).toUInt32).toInt32) % (3 : Int32)) - (1 : Int32))), .val (.int bb), .unset, .unset] [])) _
    refine XS.iloadN X30.here hx rfl (hb hby at_216) rfl ?_
    exact kt
  obtain ⟨_, _, ⟨T33, L33, k33, n33⟩, -, X33, ⟨Lc33, hQ33, l33, y33, z33⟩, st33⟩ := Jvm.LawKit.callS X30 hx (y := (⟨"com/example/txq/txq/xdm/Name", "isNameStart", "(I)Z"⟩ : MethodName)) hown (mvT hZ (hw _ (List.mem_of_getElem? (i := 9) rfl))) (mvT hZ (hw _ (List.mem_of_getElem? (i := 10) rfl))) (mvT hZ (hw _ (List.mem_of_getElem? (i := 11) rfl))) (mvT hZ (hw _ (List.mem_of_getElem? (i := 12) rfl))) (by decide) (backOf (W := 0) (rm1 l Z a0 hw [] p0  h30 n0 Z30 ) hZ (hw _ (List.mem_of_getElem? (i := 12) rfl)) (hw _ (List.mem_of_getElem? (i := 11) rfl)) (by decide) (by decide)) (g := (mkF m 217 #[.val (.int p0), .val (.int p1), .val (.ref b1), .val (.int ix), .val (.int ((((p1.toUInt32 >>> ((16 : Int32) &&& 31).toUInt32).toInt32) % (3 : Int32)) - (1 : Int32))), .val (.int bb), .unset, .unset] [(.int p0)])) rfl (by rw [hml]; rfl) (argsL := [(.int p0)]) (rest := []) (lenOf pd_0_0 rfl) rfl (by show 2 * 0 + _ ≤ _; exact Nat.le_of_eq rfl) (hb hby at_217) (fun _ _ => ⟨rfl, e30, (by decide : 1 + 0 ≤ _), (by decide : 29 + 0 ≤ _)⟩)
  dsimp only [Pt.U, Pt.locs, Pt.cells, Pt.slots] at X33 l33 y33 z33 st33 hQ33
  subst l33 y33 z33
  obtain ⟨rfl, N33q, e33⟩ := hQ33
  have N33 := Fr.app N30 N33q
  refine own_via (A' := T33.setTop (mkF m 220 #[.val (.int p0), .val (.int p1), .val (.ref b1), .val (.int ix), .val (.int ((((p1.toUInt32 >>> ((16 : Int32) &&& 31).toUInt32).toInt32) % (3 : Int32)) - (1 : Int32))), .val (.int bb), .unset, .unset] [(.int (own_in own_R1 p0))])) st33 ?_
  refine own_via (A' := T33.setTop (mkF m 221 #[.val (.int p0), .val (.int p1), .val (.ref b1), .val (.int ix), .val (.int ((((p1.toUInt32 >>> ((16 : Int32) &&& 31).toUInt32).toInt32) % (3 : Int32)) - (1 : Int32))), .val (.int bb), .unset, .unset] [(.int p0), (.int (own_in own_R1 p0))])) (fun target kt => ?_) ?_
  · show Steps p.tables e below (T33.setTop (mkF m 220 #[.val (.int p0), .val (.int p1), .val (.ref b1), .val (.int ix), .val (.int ((((p1.toUInt32 >>> ((16 : Int32) &&& 31).toUInt32).toInt32) % (3 : Int32)) - (1 : Int32))), .val (.int bb), .unset, .unset] [(.int (own_in own_R1 p0))])) _
    refine XS.iloadN X33.here hx rfl (hb hby at_220) rfl ?_
    exact kt
  obtain ⟨_, _, ⟨T34, L34, k34, n34⟩, -, X34, ⟨Lc34, hQ34, l34, y34, z34⟩, st34⟩ := Jvm.LawKit.callS X33 hx (y := (⟨"com/example/txq/txq/xdm/NameIsNameStartPinLaw", "ref", "(I)Z"⟩ : MethodName)) hown (mvT hZ (hw _ (List.mem_of_getElem? (i := 16) rfl))) (mvT hZ (hw _ (List.mem_of_getElem? (i := 17) rfl))) (mvT hZ (hw _ (List.mem_of_getElem? (i := 18) rfl))) (mvT hZ (hw _ (List.mem_of_getElem? (i := 19) rfl))) (by decide) (backOf (W := 1) (rm2 l Z a0 hw [] p0  h30 n0 Z30 ) hZ (hw _ (List.mem_of_getElem? (i := 19) rfl)) (hw _ (List.mem_of_getElem? (i := 18) rfl)) (by decide) (by decide)) (g := (mkF m 221 #[.val (.int p0), .val (.int p1), .val (.ref b1), .val (.int ix), .val (.int ((((p1.toUInt32 >>> ((16 : Int32) &&& 31).toUInt32).toInt32) % (3 : Int32)) - (1 : Int32))), .val (.int bb), .unset, .unset] [(.int p0), (.int (own_in own_R1 p0))])) rfl (by rw [hml]; rfl) (argsL := [(.int p0)]) (rest := [(.int (own_in own_R1 p0))]) (lenOf pd_0_0 rfl) rfl (by show 2 * 0 + _ ≤ _; exact Nat.le_of_eq rfl) (hb hby at_221) (fun _ _ => ⟨rfl, e33, (by decide : 1 + 0 ≤ _), (by decide : 29 + 0 ≤ _)⟩)
  dsimp only [Pt.U, Pt.locs, Pt.cells, Pt.slots] at X34 l34 y34 z34 st34 hQ34
  subst l34 y34 z34
  obtain ⟨rfl, N34q, e34⟩ := hQ34
  have N34 := Fr.app N33 N34q
  refine own_via (A' := T34.setTop (mkF m 224 #[.val (.int p0), .val (.int p1), .val (.ref b1), .val (.int ix), .val (.int ((((p1.toUInt32 >>> ((16 : Int32) &&& 31).toUInt32).toInt32) % (3 : Int32)) - (1 : Int32))), .val (.int bb), .unset, .unset] [(.int (own_st own_R2 p0)), (.int (own_in own_R1 p0))])) st34 ?_
  refine own_via (A' := T34.setTop (mkF m 227 #[.val (.int p0), .val (.int p1), .val (.ref b1), .val (.int ix), .val (.int ((((p1.toUInt32 >>> ((16 : Int32) &&& 31).toUInt32).toInt32) % (3 : Int32)) - (1 : Int32))), .val (.int bb), .unset, .unset] [])) (fun target kt => XS.icmpNo X34.here hx rfl (hb hby at_224) rfl (teq (own_same _ : (own_in own_R1 p0) = (own_st own_R2 p0))).2 kt) ?_
  refine own_via (A' := T34.setTop (mkF m 236 #[.val (.int p0), .val (.int p1), .val (.ref b1), .val (.int ix), .val (.int ((((p1.toUInt32 >>> ((16 : Int32) &&& 31).toUInt32).toInt32) % (3 : Int32)) - (1 : Int32))), .val (.int bb), .val (.int (1 : Int32)), .unset] [(.int bb)])) (fun target kt => ?_) ?_
  · show Steps p.tables e below (T34.setTop (mkF m 227 #[.val (.int p0), .val (.int p1), .val (.ref b1), .val (.int ix), .val (.int ((((p1.toUInt32 >>> ((16 : Int32) &&& 31).toUInt32).toInt32) % (3 : Int32)) - (1 : Int32))), .val (.int bb), .unset, .unset] [])) _
    refine XS.iconst X34.here hx rfl (hb hby at_227) ?_
    show Steps p.tables e below (T34.setTop (mkF m 228 #[.val (.int p0), .val (.int p1), .val (.ref b1), .val (.int ix), .val (.int ((((p1.toUInt32 >>> ((16 : Int32) &&& 31).toUInt32).toInt32) % (3 : Int32)) - (1 : Int32))), .val (.int bb), .unset, .unset] [(.int (1 : Int32))])) _
    refine XS.goto X34.here hx rfl (pc0 := 228) (pc' := 232) rfl (hb hby at_228) (by decide) (by decide) ?_
    show Steps p.tables e below (T34.setTop (mkF m 232 #[.val (.int p0), .val (.int p1), .val (.ref b1), .val (.int ix), .val (.int ((((p1.toUInt32 >>> ((16 : Int32) &&& 31).toUInt32).toInt32) % (3 : Int32)) - (1 : Int32))), .val (.int bb), .unset, .unset] [(.int (1 : Int32))])) _
    refine XS.istore X34.here hx rfl (hb hby at_232) rfl (l' := #[.val (.int p0), .val (.int p1), .val (.ref b1), .val (.int ix), .val (.int ((((p1.toUInt32 >>> ((16 : Int32) &&& 31).toUInt32).toInt32) % (3 : Int32)) - (1 : Int32))), .val (.int bb), .val (.int (1 : Int32)), .unset]) rfl ?_
    show Steps p.tables e below (T34.setTop (mkF m 234 #[.val (.int p0), .val (.int p1), .val (.ref b1), .val (.int ix), .val (.int ((((p1.toUInt32 >>> ((16 : Int32) &&& 31).toUInt32).toInt32) % (3 : Int32)) - (1 : Int32))), .val (.int bb), .val (.int (1 : Int32)), .unset] [])) _
    refine XS.iload X34.here hx rfl (hb hby at_234) rfl ?_
    exact kt
  obtain ⟨_, _, ⟨T35, L35, k35, n35⟩, -, X35, ⟨Lc35, hQ35, l35, y35, z35⟩, st35⟩ := Jvm.LawKit.callS X34 hx (y := (⟨"com/example/txq/txq/xdm/Name", "isNameStart", "(I)Z"⟩ : MethodName)) hown (mvT hZ (hw _ (List.mem_of_getElem? (i := 9) rfl))) (mvT hZ (hw _ (List.mem_of_getElem? (i := 10) rfl))) (mvT hZ (hw _ (List.mem_of_getElem? (i := 11) rfl))) (mvT hZ (hw _ (List.mem_of_getElem? (i := 12) rfl))) (by decide) (backOf (W := 0) (rm1 l Z a0 hw [] bb  h30 n0 Z30 ) hZ (hw _ (List.mem_of_getElem? (i := 12) rfl)) (hw _ (List.mem_of_getElem? (i := 11) rfl)) (by decide) (by decide)) (g := (mkF m 236 #[.val (.int p0), .val (.int p1), .val (.ref b1), .val (.int ix), .val (.int ((((p1.toUInt32 >>> ((16 : Int32) &&& 31).toUInt32).toInt32) % (3 : Int32)) - (1 : Int32))), .val (.int bb), .val (.int (1 : Int32)), .unset] [(.int bb)])) rfl (by rw [hml]; rfl) (argsL := [(.int bb)]) (rest := []) (lenOf pd_0_0 rfl) rfl (by show 2 * 0 + _ ≤ _; exact Nat.le_of_eq rfl) (hb hby at_236) (fun _ _ => ⟨rfl, e34, (by decide : 1 + 0 ≤ _), (by decide : 29 + 0 ≤ _)⟩)
  dsimp only [Pt.U, Pt.locs, Pt.cells, Pt.slots] at X35 l35 y35 z35 st35 hQ35
  subst l35 y35 z35
  obtain ⟨rfl, N35q, e35⟩ := hQ35
  have N35 := Fr.app N34 N35q
  refine own_via (A' := T35.setTop (mkF m 239 #[.val (.int p0), .val (.int p1), .val (.ref b1), .val (.int ix), .val (.int ((((p1.toUInt32 >>> ((16 : Int32) &&& 31).toUInt32).toInt32) % (3 : Int32)) - (1 : Int32))), .val (.int bb), .val (.int (1 : Int32)), .unset] [(.int (own_in own_R1 bb))])) st35 ?_
  refine own_via (A' := T35.setTop (mkF m 241 #[.val (.int p0), .val (.int p1), .val (.ref b1), .val (.int ix), .val (.int ((((p1.toUInt32 >>> ((16 : Int32) &&& 31).toUInt32).toInt32) % (3 : Int32)) - (1 : Int32))), .val (.int bb), .val (.int (1 : Int32)), .unset] [(.int bb), (.int (own_in own_R1 bb))])) (fun target kt => ?_) ?_
  · show Steps p.tables e below (T35.setTop (mkF m 239 #[.val (.int p0), .val (.int p1), .val (.ref b1), .val (.int ix), .val (.int ((((p1.toUInt32 >>> ((16 : Int32) &&& 31).toUInt32).toInt32) % (3 : Int32)) - (1 : Int32))), .val (.int bb), .val (.int (1 : Int32)), .unset] [(.int (own_in own_R1 bb))])) _
    refine XS.iload X35.here hx rfl (hb hby at_239) rfl ?_
    exact kt
  obtain ⟨_, _, ⟨T36, L36, k36, n36⟩, -, X36, ⟨Lc36, hQ36, l36, y36, z36⟩, st36⟩ := Jvm.LawKit.callS X35 hx (y := (⟨"com/example/txq/txq/xdm/NameIsNameStartPinLaw", "ref", "(I)Z"⟩ : MethodName)) hown (mvT hZ (hw _ (List.mem_of_getElem? (i := 16) rfl))) (mvT hZ (hw _ (List.mem_of_getElem? (i := 17) rfl))) (mvT hZ (hw _ (List.mem_of_getElem? (i := 18) rfl))) (mvT hZ (hw _ (List.mem_of_getElem? (i := 19) rfl))) (by decide) (backOf (W := 1) (rm2 l Z a0 hw [] bb  h30 n0 Z30 ) hZ (hw _ (List.mem_of_getElem? (i := 19) rfl)) (hw _ (List.mem_of_getElem? (i := 18) rfl)) (by decide) (by decide)) (g := (mkF m 241 #[.val (.int p0), .val (.int p1), .val (.ref b1), .val (.int ix), .val (.int ((((p1.toUInt32 >>> ((16 : Int32) &&& 31).toUInt32).toInt32) % (3 : Int32)) - (1 : Int32))), .val (.int bb), .val (.int (1 : Int32)), .unset] [(.int bb), (.int (own_in own_R1 bb))])) rfl (by rw [hml]; rfl) (argsL := [(.int bb)]) (rest := [(.int (own_in own_R1 bb))]) (lenOf pd_0_0 rfl) rfl (by show 2 * 0 + _ ≤ _; exact Nat.le_of_eq rfl) (hb hby at_241) (fun _ _ => ⟨rfl, e35, (by decide : 1 + 0 ≤ _), (by decide : 29 + 0 ≤ _)⟩)
  dsimp only [Pt.U, Pt.locs, Pt.cells, Pt.slots] at X36 l36 y36 z36 st36 hQ36
  subst l36 y36 z36
  obtain ⟨rfl, N36q, e36⟩ := hQ36
  have N36 := Fr.app N35 N36q
  refine own_via (A' := T36.setTop (mkF m 244 #[.val (.int p0), .val (.int p1), .val (.ref b1), .val (.int ix), .val (.int ((((p1.toUInt32 >>> ((16 : Int32) &&& 31).toUInt32).toInt32) % (3 : Int32)) - (1 : Int32))), .val (.int bb), .val (.int (1 : Int32)), .unset] [(.int (own_st own_R2 bb)), (.int (own_in own_R1 bb))])) st36 ?_
  refine own_via (A' := T36.setTop (mkF m 247 #[.val (.int p0), .val (.int p1), .val (.ref b1), .val (.int ix), .val (.int ((((p1.toUInt32 >>> ((16 : Int32) &&& 31).toUInt32).toInt32) % (3 : Int32)) - (1 : Int32))), .val (.int bb), .val (.int (1 : Int32)), .unset] [])) (fun target kt => XS.icmpNo X36.here hx rfl (hb hby at_244) rfl (teq (own_same _ : (own_in own_R1 bb) = (own_st own_R2 bb))).2 kt) ?_
  refine own_via (A' := T36.setTop (mkF m 256 #[.val (.int p0), .val (.int p1), .val (.ref b1), .val (.int ix), .val (.int ((((p1.toUInt32 >>> ((16 : Int32) &&& 31).toUInt32).toInt32) % (3 : Int32)) - (1 : Int32))), .val (.int bb), .val (.int (1 : Int32)), .val (.int (1 : Int32))] [(.int (1 : Int32))])) (fun target kt => ?_) ?_
  · show Steps p.tables e below (T36.setTop (mkF m 247 #[.val (.int p0), .val (.int p1), .val (.ref b1), .val (.int ix), .val (.int ((((p1.toUInt32 >>> ((16 : Int32) &&& 31).toUInt32).toInt32) % (3 : Int32)) - (1 : Int32))), .val (.int bb), .val (.int (1 : Int32)), .unset] [])) _
    refine XS.iconst X36.here hx rfl (hb hby at_247) ?_
    show Steps p.tables e below (T36.setTop (mkF m 248 #[.val (.int p0), .val (.int p1), .val (.ref b1), .val (.int ix), .val (.int ((((p1.toUInt32 >>> ((16 : Int32) &&& 31).toUInt32).toInt32) % (3 : Int32)) - (1 : Int32))), .val (.int bb), .val (.int (1 : Int32)), .unset] [(.int (1 : Int32))])) _
    refine XS.goto X36.here hx rfl (pc0 := 248) (pc' := 252) rfl (hb hby at_248) (by decide) (by decide) ?_
    show Steps p.tables e below (T36.setTop (mkF m 252 #[.val (.int p0), .val (.int p1), .val (.ref b1), .val (.int ix), .val (.int ((((p1.toUInt32 >>> ((16 : Int32) &&& 31).toUInt32).toInt32) % (3 : Int32)) - (1 : Int32))), .val (.int bb), .val (.int (1 : Int32)), .unset] [(.int (1 : Int32))])) _
    refine XS.istore X36.here hx rfl (hb hby at_252) rfl (l' := #[.val (.int p0), .val (.int p1), .val (.ref b1), .val (.int ix), .val (.int ((((p1.toUInt32 >>> ((16 : Int32) &&& 31).toUInt32).toInt32) % (3 : Int32)) - (1 : Int32))), .val (.int bb), .val (.int (1 : Int32)), .val (.int (1 : Int32))]) rfl ?_
    show Steps p.tables e below (T36.setTop (mkF m 254 #[.val (.int p0), .val (.int p1), .val (.ref b1), .val (.int ix), .val (.int ((((p1.toUInt32 >>> ((16 : Int32) &&& 31).toUInt32).toInt32) % (3 : Int32)) - (1 : Int32))), .val (.int bb), .val (.int (1 : Int32)), .val (.int (1 : Int32))] [])) _
    refine XS.iload X36.here hx rfl (hb hby at_254) rfl ?_
    exact kt
  refine own_via (A' := T36.setTop (mkF m 259 #[.val (.int p0), .val (.int p1), .val (.ref b1), .val (.int ix), .val (.int ((((p1.toUInt32 >>> ((16 : Int32) &&& 31).toUInt32).toInt32) % (3 : Int32)) - (1 : Int32))), .val (.int bb), .val (.int (1 : Int32)), .val (.int (1 : Int32))] [])) (fun target kt => XS.ifNo X36.here hx rfl (hb hby at_256) rfl ((if0 _ _).trans (feq ((by decide) : ¬ ((1 : Int32) = (0 : Int32)))).1) kt) ?_
  refine own_via (A' := T36.setTop (mkF m 261 #[.val (.int p0), .val (.int p1), .val (.ref b1), .val (.int ix), .val (.int ((((p1.toUInt32 >>> ((16 : Int32) &&& 31).toUInt32).toInt32) % (3 : Int32)) - (1 : Int32))), .val (.int bb), .val (.int (1 : Int32)), .val (.int (1 : Int32))] [(.int (1 : Int32))])) (fun target kt => ?_) ?_
  · show Steps p.tables e below (T36.setTop (mkF m 259 #[.val (.int p0), .val (.int p1), .val (.ref b1), .val (.int ix), .val (.int ((((p1.toUInt32 >>> ((16 : Int32) &&& 31).toUInt32).toInt32) % (3 : Int32)) - (1 : Int32))), .val (.int bb), .val (.int (1 : Int32)), .val (.int (1 : Int32))] [])) _
    refine XS.iload X36.here hx rfl (hb hby at_259) rfl ?_
    exact kt
  refine own_via (A' := T36.setTop (mkF m 264 #[.val (.int p0), .val (.int p1), .val (.ref b1), .val (.int ix), .val (.int ((((p1.toUInt32 >>> ((16 : Int32) &&& 31).toUInt32).toInt32) % (3 : Int32)) - (1 : Int32))), .val (.int bb), .val (.int (1 : Int32)), .val (.int (1 : Int32))] [])) (fun target kt => XS.ifNo X36.here hx rfl (hb hby at_261) rfl ((if0 _ _).trans (feq ((by decide) : ¬ ((1 : Int32) = (0 : Int32)))).1) kt) ?_
  refine own_via (A' := T36.setTop (mkF m 269 #[.val (.int p0), .val (.int p1), .val (.ref b1), .val (.int ix), .val (.int ((((p1.toUInt32 >>> ((16 : Int32) &&& 31).toUInt32).toInt32) % (3 : Int32)) - (1 : Int32))), .val (.int bb), .val (.int (1 : Int32)), .val (.int (1 : Int32))] [(.int (1 : Int32))])) (fun target kt => ?_) ?_
  · show Steps p.tables e below (T36.setTop (mkF m 264 #[.val (.int p0), .val (.int p1), .val (.ref b1), .val (.int ix), .val (.int ((((p1.toUInt32 >>> ((16 : Int32) &&& 31).toUInt32).toInt32) % (3 : Int32)) - (1 : Int32))), .val (.int bb), .val (.int (1 : Int32)), .val (.int (1 : Int32))] [])) _
    refine XS.iconst X36.here hx rfl (hb hby at_264) ?_
    show Steps p.tables e below (T36.setTop (mkF m 265 #[.val (.int p0), .val (.int p1), .val (.ref b1), .val (.int ix), .val (.int ((((p1.toUInt32 >>> ((16 : Int32) &&& 31).toUInt32).toInt32) % (3 : Int32)) - (1 : Int32))), .val (.int bb), .val (.int (1 : Int32)), .val (.int (1 : Int32))] [(.int (1 : Int32))])) _
    refine XS.goto X36.here hx rfl (pc0 := 265) (pc' := 269) rfl (hb hby at_265) (by decide) (by decide) ?_
    exact kt
  exact own_retN X36 Bd.notSynchronized hx (t := .boolean) Bd.returns (by simp) (hb hby at_269) (show Q0 Z p0 p1 h0 n0 _ _ _ from ⟨rfl, N36⟩) (by decide) (by decide)
set_option maxRecDepth 65536 in
set_option maxHeartbeats 40000000 in
theorem comes_1 {Post : Tables → Env → Array Value → State → Outcome → State → Prop} (hpost : ∀ tb e args s v u, (limb_1_1.after args s (.returned v) u = true ∧ limb_1_2.after args s (.returned v) u = true ∧ True) → FrameEnd s (.returned v) u (Jvm.fieldLocs frame_1_writes args s ++ Jvm.arrayLocs frame_1_arrays args s ++ Jvm.staticLocs frame_1_statics s) 16 128 → Post tb e args s (.returned v) u) :
    ArmFor flags0 classFile x code maxLocals ret World_1 tables_1 room_1 Calls_1 rest_1 Pre_1 Post := by
  intro l hfl _ _ p e ha hc hk s m args below hf hA hF happ hP
  obtain ⟨hcalls, hrest, hpre⟩ := hP
  obtain ⟨-, -, -, hnamed, -, -, -, hat⟩ := (Spec.applies_iff hf).mp happ
  obtain ⟨hg, hn⟩ := and_e (Cond.before_iff.mp (show (Jvm.Cond.and given_1 narrow_1).before args s = true from hpre))
  obtain ⟨h1, g0⟩ := and_e hg
  obtain ⟨a0, g1⟩ := and_e g0
  obtain ⟨w0, w1, rfl⟩ : ∃ w0 w1 : Value, args = #[w0, w1] := by
    have hs : args.size = 2 := by simpa [Cond.value, given_1] using h1
    obtain ⟨L⟩ := args
    match L, hs with
    | [w0, w1], _ => exact ⟨w0, w1, rfl⟩
  have hw := fun d (hd : d ∈ tables_1) => atoms_spec (ws := Jvm.Cond.code x code maxLocals ret :: tables_1) hat d (List.mem_cons_of_mem _ hd)
  obtain ⟨i0, ei0⟩ := is_v a0
  obtain rfl : w0 = (.int i0) := Option.some.inj ei0
  obtain ⟨i1, ei1⟩ := is_v g1
  obtain rfl : w1 = (.int i1) := Option.some.inj ei1
  obtain ⟨n, o, h1, h2, h3, _, L, rfl, ⟨rfl, N⟩, hq⟩ := rm0 l s _ hw tables_1 i0 i1 s.heap s.heap.size (Nat.le_refl _) p e ha hc hk s m _ below hf ((Spec.applies_iff_loose hf).mp happ).1 ⟨rfl, State.Warmed39.refl s, rfl⟩ trivial
  refine ⟨n, _, h1, h2, h3, hpost _ _ _ _ _ _ ⟨Cond.after_iff.mpr rfl, Cond.after_iff.mpr (eq_i res_at (Term.int_eval (1)) rfl), trivial⟩ ⟨hq.1, hq.2.1, (hq.2.2.sift fun y hy => Or.inr (N y hy)).mono (by decide) (by decide)⟩⟩
theorem main_1_1 : Claimed_1_1 := comes_1 fun _ _ _ _ _ _ h hF => ⟨h.1, hF⟩
theorem main_1_2 : Claimed_1_2 := comes_1 fun _ _ _ _ _ _ h hF => ⟨h.2.1, hF⟩
end Jvm.Pilot.@@N@@
namespace Jvm.Pilot.@@N@@
open Jvm Jvm.ClassFile Sem Op Lib Jvm.Free Jvm.Stand Jvm.Pilot.@@N@@.Jvm.D
/-! MADE BY PROGRAM (witnessworld.py) out of the Statement's table words and the real class files: 10 classes; the members and pool entries that the words name. The judged class is class 1, her method 2. -/
namespace start1
open Jvm.ClassFile
def u (s : String) : CpInfo := .utf8 (stringToUtf16 s)
/-- a pool by its gaps: so many unusable entries, then the entry; so many at the end -/
def gap : Nat → List CpInfo → List CpInfo
  | 0, r => r
  | n + 1, r => .unusable :: gap n r
def poolList (es : List (Nat × CpInfo)) (last : Nat) : List CpInfo := es.foldr (fun e r => gap e.1 (e.2 :: r)) (gap last [])
def pool (es : List (Nat × CpInfo)) (last : Nat) : Array CpInfo := ⟨poolList es last⟩
def fileOf (pool : Array CpInfo) (this : Nat) (attrs : Array Attribute := #[]) (ms : Array MethodInfo := #[]) (fl : Nat := 33) (sup : Nat := 0) (ifs : Array Nat := #[]) (fds : Array FieldInfo := #[]) : ClassFile where
  minorVersion := 0
  majorVersion := 65
  constantPool := pool
  accessFlags := fl
  thisClass := this
  superClass := sup
  interfaces := ifs
  fields := fds
  methods := ms
  attributes := attrs
def plain (name : String) (sup : Option ClassId) : Class where
  name := name
  kind := .ordinary
  loader := none
  accessFlags := 33
  super := sup
  interfaces := #[]
  cf := none
  fields := #[]
  methods := #[]
  instanceTypes := #[]
  staticTypes := #[]
  resolved := #[]
  callSites := []
  init := .initialized
  statics := none
  mirror := none

def pool0 : Array CpInfo := pool [(5, u "<init>"), (0, u "()V"), (1, .class_ 10), (1, u "java/lang/Object")] 113

def k0m0 : Method := { name := "<init>", desc := "()V", sig := { parameters := [], returnType := none }, accessFlags := 1, code := none }
/-- java/lang/Object -/
def k0 : Class := { plain "java/lang/Object" none with
  accessFlags := 33
  interfaces := #[]
  cf := some (fileOf pool0 8 #[] #[{ accessFlags := 1, nameIndex := 5, descriptorIndex := 6, attributes := #[] }] 33 0 #[] #[])
  fields := #[]
  methods := #[k0m0]
  instanceTypes := #[]
  staticTypes := #[]
  resolved := Array.replicate 124 none
  statics := none }

def pool1 : Array CpInfo := pool [(2, .class_ 4), (1, u "java/lang/Object"), (0, u "<init>"), (0, u "()V"), (0, .integer 55295), (0, .integer 63744), (0, .integer 64975), (0, .integer 65008), (0, .integer 65533), (0, .integer 65536), (0, .integer 983039), (0, .integer 65535), (0, .methodref 16 17), (0, .class_ 18), (0, .nameAndType 19 20), (0, u "com/example/txq/txq/xdm/Name"), (0, u "isNameStart"), (0, u "(I)Z"), (0, .methodref 22 23), (0, .class_ 24), (0, .nameAndType 25 20), (0, u "com/example/txq/txq/xdm/NameIsNameStartPinLaw"), (0, u "ref"), (3, u "law"), (0, u "(II)Z")] 4

def k1m0 : Method := { name := "<init>", desc := "()V", sig := { parameters := [], returnType := none }, accessFlags := 1, code := none }
def k1c1 : Code := { maxStack := 2, maxLocals := 1, code := method_2_code, exceptionTable := #[], attributes := #[] }
def k1m1 : Method := { name := "ref", desc := "(I)Z", sig := { parameters := [.int], returnType := some .boolean }, accessFlags := 10, code := some k1c1 }
def k1c2 : Code := { maxStack := 4, maxLocals := 8, code := code, exceptionTable := #[], attributes := #[] }
def k1m2 : Method := { name := "law", desc := "(II)Z", sig := { parameters := [.int, .int], returnType := some .boolean }, accessFlags := 9, code := some k1c2 }
/-- com/example/txq/txq/xdm/NameIsNameStartPinLaw -/
def k1 : Class := { plain "com/example/txq/txq/xdm/NameIsNameStartPinLaw" (some 0) with
  accessFlags := 49
  interfaces := #[]
  cf := some (fileOf pool1 22 #[] #[{ accessFlags := 1, nameIndex := 5, descriptorIndex := 6, attributes := #[] }, { accessFlags := 10, nameIndex := 25, descriptorIndex := 20, attributes := #[] }, { accessFlags := 9, nameIndex := 29, descriptorIndex := 30, attributes := #[] }] 49 2 #[] #[])
  fields := #[]
  methods := #[k1m0, k1m1, k1m2]
  instanceTypes := #[]
  staticTypes := #[]
  resolved := Array.replicate 35 none
  statics := none }

def pool2 : Array CpInfo := pool [(2, .class_ 4), (1, u "java/lang/Object"), (0, u "<init>"), (0, u "()V"), (0, .class_ 8), (0, u "java/lang/Record")] 13

def k2m0 : Method := { name := "<init>", desc := "()V", sig := { parameters := [], returnType := none }, accessFlags := 4, code := none }
/-- java/lang/Record -/
def k2 : Class := { plain "java/lang/Record" (some 0) with
  accessFlags := 1057
  interfaces := #[]
  cf := some (fileOf pool2 7 #[] #[{ accessFlags := 4, nameIndex := 5, descriptorIndex := 6, attributes := #[] }] 1057 2 #[] #[])
  fields := #[]
  methods := #[k2m0]
  instanceTypes := #[]
  staticTypes := #[]
  resolved := Array.replicate 22 none
  statics := none }

def pool3 : Array CpInfo := pool [(2, .class_ 4), (1, u "java/lang/Record"), (3, .class_ 10), (1, u "com/example/txq/txq/xdm/Name"), (0, u "namespaceUri"), (0, u "Ljava/lang/String;"), (2, u "localName"), (2, u "prefix"), (39, u "isNameStart"), (0, u "(I)Z"), (15, .integer 55295), (0, .integer 63744), (0, .integer 64975), (0, .integer 65008), (0, .integer 65533), (0, .integer 65536), (0, .integer 983039), (11, u "XML_NAMESPACE"), (3, u "XMLNS_NAMESPACE"), (2, u "XML_ID")] 43

def k3c0 : Code := { maxStack := 2, maxLocals := 1, code := prog_209_method_8_code, exceptionTable := #[], attributes := #[] }
def k3m0 : Method := { name := "isNameStart", desc := "(I)Z", sig := { parameters := [.int], returnType := some .boolean }, accessFlags := 9, code := some k3c0 }
/-- com/example/txq/txq/xdm/Name -/
def k3 : Class := { plain "com/example/txq/txq/xdm/Name" (some 2) with
  accessFlags := 49
  interfaces := #[]
  cf := some (fileOf pool3 8 #[] #[{ accessFlags := 9, nameIndex := 58, descriptorIndex := 59, attributes := #[] }] 49 2 #[] #[{ accessFlags := 18, nameIndex := 11, descriptorIndex := 12, attributes := #[] }, { accessFlags := 18, nameIndex := 15, descriptorIndex := 12, attributes := #[] }, { accessFlags := 18, nameIndex := 18, descriptorIndex := 12, attributes := #[] }, { accessFlags := 25, nameIndex := 93, descriptorIndex := 12, attributes := #[] }, { accessFlags := 25, nameIndex := 97, descriptorIndex := 12, attributes := #[] }, { accessFlags := 25, nameIndex := 100, descriptorIndex := 12, attributes := #[] }])
  fields := #[{ name := "namespaceUri", type := (.object "java/lang/String"), accessFlags := 18, slot := 0, constantValue := 0 }, { name := "localName", type := (.object "java/lang/String"), accessFlags := 18, slot := 1, constantValue := 0 }, { name := "prefix", type := (.object "java/lang/String"), accessFlags := 18, slot := 2, constantValue := 0 }, { name := "XML_NAMESPACE", type := (.object "java/lang/String"), accessFlags := 25, slot := 0, constantValue := 0 }, { name := "XMLNS_NAMESPACE", type := (.object "java/lang/String"), accessFlags := 25, slot := 1, constantValue := 0 }, { name := "XML_ID", type := (.object "java/lang/String"), accessFlags := 25, slot := 2, constantValue := 0 }]
  methods := #[k3m0]
  instanceTypes := #[(.object "java/lang/String"), (.object "java/lang/String"), (.object "java/lang/String")]
  staticTypes := #[(.object "java/lang/String"), (.object "java/lang/String"), (.object "java/lang/String")]
  resolved := Array.replicate 144 none
  statics := none }

def pool4 : Array CpInfo := pool [(1, u "java/lang/Cloneable"), (0, .class_ 1), (0, u "java/lang/Object"), (0, .class_ 3)] 3

/-- java/lang/Cloneable -/
def k4 : Class := { plain "java/lang/Cloneable" (some 0) with
  accessFlags := 1537
  interfaces := #[]
  cf := some (fileOf pool4 2 #[] #[] 1537 4 #[] #[])
  fields := #[]
  methods := #[]
  instanceTypes := #[]
  staticTypes := #[]
  resolved := Array.replicate 8 none
  statics := none }

def pool5 : Array CpInfo := pool [(1, u "java/io/Serializable"), (0, .class_ 1), (0, u "java/lang/Object"), (0, .class_ 3)] 3

/-- java/io/Serializable -/
def k5 : Class := { plain "java/io/Serializable" (some 0) with
  accessFlags := 1537
  interfaces := #[]
  cf := some (fileOf pool5 2 #[] #[] 1537 4 #[] #[])
  fields := #[]
  methods := #[]
  instanceTypes := #[]
  staticTypes := #[]
  resolved := Array.replicate 8 none
  statics := none }

/-- the primitive byte -/
def k6 : Class := { plain "byte" none with kind := .primitive 'B', accessFlags := 0x411 }
/-- [B -/
def k7 : Class := { plain "[B" (some 0) with kind := .array 6 .byte, interfaces := #[4, 5], accessFlags := 1041 }

/-- the primitive int -/
def k8 : Class := { plain "int" none with kind := .primitive 'I', accessFlags := 0x411 }
/-- [I -/
def k9 : Class := { plain "[I" (some 0) with kind := .array 8 .int, interfaces := #[4, 5], accessFlags := 1041 }

def heap : Heap := #[]
def classes : Array Class := #[k0, k1, k2, k3, k4, k5, k6, k7, k8, k9]
def interned : List (Array UInt16 × Addr) := []
def slotsUsed : Nat := 0
def theMethod : MethodId := ⟨1, 2⟩
def args0 : Array Value := #[.int 5, .int 7]
def aboutOver (below : List Frame) : State where
  vm := { classes := classes, interned := interned.toArray }
  heap := heap
  slotsUsed := slotsUsed
  threads := #[{ frames := .invoking theMethod args0 :: below }]
def below0 : List Frame := [.native { method := ⟨0, 0⟩, args := #[] }]
def about1 : State := aboutOver below0
def p0 : Program := .bare "" "" ""
def e0 : Env := launch0.env 0 0 0
theorem w_frames : about1.frames = Frame.invoking theMethod args0 :: below0 := rfl
set_option maxRecDepth 65536 in
theorem w_args : argsFit about1.vm theMethod args0 = true := by decide +kernel
set_option maxRecDepth 65536 in
theorem w_heap : heapFits about1 = true := by decide +kernel
set_option maxRecDepth 65536 in
theorem w_runnable : about1.curStatus? = some .runnable := by decide +kernel
set_option maxRecDepth 65536 in
theorem w_alone : about1.alone = true := by decide +kernel
set_option maxRecDepth 65536 in
theorem w_named : about1.methodNamed? x = some theMethod := by decide +kernel
set_option maxRecDepth 65536 in
theorem w_hears : about1.hears theMethod below0 = true := by decide +kernel
set_option maxRecDepth 65536 in
theorem w_ripe : about1.ripe theMethod args0 below0 = true := by decide +kernel
theorem w_running : about1.status = .running := rfl
set_option maxRecDepth 65536 in
theorem w_room : about1.hasRoom e0.platform room_1 = true :=
  launch0.hasRoom_least _ room_1 (by decide +kernel) (by decide +kernel) (by decide +kernel) (by decide +kernel) (by decide +kernel) (by decide +kernel)
theorem allAtoms_all (ts : List Jvm.Cond) (a : Array Jvm.Value) (st : Jvm.State) : (allAtoms ts).before a st = ts.all (fun c => c.before a st) := by
  induction ts with
  | nil => rfl
  | cons c t ih =>
    show (Jvm.Cond.and c (allAtoms t)).before a st = _
    rw [Jvm.Cond.before_and, ih, List.all_cons]
def words1 : List Jvm.Cond := Jvm.Cond.code x code maxLocals ret :: tables_1
/-- a 'code' word, met by the world's own term for the bytes: nothing is compared byte by byte -/
theorem code_word {y : MethodName} {bytes : ByteArray} {mx : Nat} {rt : Option FieldType} {a : Array Value} {s : State} {m : MethodId} {meth : Method} {c : Code} (h1 : s.methodNamed? y = some m) (h2 : s.vm.method? m = some meth) (h3 : meth.code = some c) (h4 : c.code = bytes)
    (h5 : (c.maxLocals == mx && c.exceptionTable.isEmpty && decide (c.maxStack ≤ mostOperands) && decide (meth.sig.returnType = rt) && !meth.locks && decide (parseMethodDescriptor y.desc = some meth.sig)) = true) : (Jvm.Cond.code y bytes mx rt).before a s = true := by
  simp only [Bool.and_eq_true, beq_iff_eq, Bool.not_eq_true', decide_eq_true_eq] at h5
  obtain ⟨⟨⟨⟨⟨g1, g2⟩, g3⟩, g4⟩, g5⟩, g6⟩ := h5
  simp [Cond.before, Cond.holds, Cond.value, h1, h2, h3, h4, g1, g2, g3, g4, g5, g6]
def isCode : Jvm.Cond → Bool
  | .code _ _ _ _ => true
  | _ => false
theorem all_split {L : List Jvm.Cond} {P : Jvm.Cond → Bool} (h1 : L.all (fun c => isCode c || P c) = true) (h2 : ∀ c ∈ L.filter isCode, P c = true) : L.all P = true := by
  refine List.all_eq_true.mpr fun c hc => ?_
  have h := List.all_eq_true.mp h1 c hc
  rcases Bool.eq_false_or_eq_true (isCode c) with hi | hi
  · exact h2 c (List.mem_filter.mpr ⟨hc, hi⟩)
  · simpa [hi] using h
set_option maxRecDepth 65536 in
theorem w_c0 : (Jvm.Cond.code x code maxLocals ret).before args0 about1 = true := code_word (m := ⟨1, 2⟩) (meth := k1m2) (c := k1c2) (by decide +kernel) rfl rfl rfl (by decide +kernel)
set_option maxRecDepth 65536 in
theorem w_c1 : (Jvm.Cond.code ({ cls := "com/example/txq/txq/xdm/Name", name := "isNameStart", desc := "(I)Z" } : Jvm.MethodName) prog_209_method_8_code (1 : Nat) (Option.some Jvm.ClassFile.FieldType.boolean)).before args0 about1 = true := code_word (m := ⟨3, 0⟩) (meth := k3m0) (c := k3c0) (by decide +kernel) rfl rfl rfl (by decide +kernel)
set_option maxRecDepth 65536 in
theorem w_c2 : (Jvm.Cond.code ({ cls := "com/example/txq/txq/xdm/NameIsNameStartPinLaw", name := "ref", desc := "(I)Z" } : Jvm.MethodName) method_2_code (1 : Nat) (Option.some Jvm.ClassFile.FieldType.boolean)).before args0 about1 = true := code_word (m := ⟨1, 1⟩) (meth := k1m1) (c := k1c1) (by decide +kernel) rfl rfl rfl (by decide +kernel)
def codes1 : List Jvm.Cond := [Jvm.Cond.code x code maxLocals ret, Jvm.Cond.code ({ cls := "com/example/txq/txq/xdm/Name", name := "isNameStart", desc := "(I)Z" } : Jvm.MethodName) prog_209_method_8_code (1 : Nat) (Option.some Jvm.ClassFile.FieldType.boolean), Jvm.Cond.code ({ cls := "com/example/txq/txq/xdm/NameIsNameStartPinLaw", name := "ref", desc := "(I)Z" } : Jvm.MethodName) method_2_code (1 : Nat) (Option.some Jvm.ClassFile.FieldType.boolean)]
set_option maxRecDepth 65536 in
theorem codes_eq : words1.filter isCode = codes1 := rfl
theorem w_codes : ∀ c ∈ words1.filter isCode, c.before args0 about1 = true := by
  rw [codes_eq]
  intro c hc
  simp only [codes1, List.mem_cons, List.not_mem_nil, or_false] at hc
  rcases hc with rfl | rfl | rfl
  · exact w_c0
  · exact w_c1
  · exact w_c2
set_option maxRecDepth 65536 in
theorem w_t1 : (words1.take 24).all (fun c => isCode c || c.before args0 about1) = true := by decide +kernel
set_option maxRecDepth 65536 in
theorem w_t2 : (words1.drop 24).all (fun c => isCode c || c.before args0 about1) = true := by decide +kernel
theorem w_tables : (allAtoms (Jvm.Cond.code x code maxLocals ret :: tables_1)).before args0 about1 = true := by
  rw [allAtoms_all]
  show words1.all (fun c => c.before args0 about1) = true
  refine all_split ?_ w_codes
  rw [← List.take_append_drop 24 words1, List.all_append, w_t1, w_t2]
  rfl
set_option maxRecDepth 65536 in
theorem w_case : (Jvm.Cond.and given_1 narrow_1).before args0 about1 = true := by decide +kernel
theorem w_applies : (headSpec (Jvm.Cond.code x code maxLocals ret :: tables_1) room_1).applies x e0.platform about1 = true :=
  (Spec.applies_iff w_frames).mpr ⟨w_running, w_runnable, w_alone, w_named, w_hears, w_ripe, w_room, w_tables⟩
theorem atStart : AtStart classFile x code maxLocals ret World_1 tables_1 room_1 Calls_1 rest_1 Pre_1 launch0 p0 e0 about1 theMethod args0 below0 :=
  ⟨lists_1, trivial, launch0.admits_env _ _ _, launch0.least_env, fairChoices_fair.cas, fairChoices_fair.clock, w_frames, w_args, w_heap, w_applies, trivial, trivial, w_case⟩
end start1
theorem witness_1 : WitnessClaimed_1 := ⟨start1.p0, start1.e0, start1.about1, start1.theMethod, start1.args0, start1.below0, start1.atStart⟩
end Jvm.Pilot.@@N@@
