import JvmDerived
import JvmDerived.Pilot.@@N@@Statement
import JvmDerived.Pilot.@@N@@Code
set_option linter.unusedVariables false
set_option linter.unusedSimpArgs false
namespace Jvm.RoadKit
open Sem ClassFile Op Lib Jvm.Stand Jvm.Free Jvm.LawKit
section New
variable {p : Program} {l : Launch} {e : Env} {R : Room} {s : State} {m : MethodId} {args : Array Value} {below : List Frame} {meth : Method} {c : Code} {T : State} {locs : List Loc} {cells slots : Nat}
theorem retI (X : Stand p l e R s m args below meth c T locs cells slots) (hx : p.tables.exec = Jvm.exec) {pc : Nat} {Ls : Array Slot} {z : Int32} {rest : List Value} (hret : meth.sig.returnType = some .int) (hd : decode c.code pc = .ok (.ireturn, 1)) {fs : List Frame}
    (hl : ∀ (f : JFrame) (acts : List Action), f.method = m → f.locked = none → f.entered = [] → (doReturn e (T.setTop f) acts (some (.int z))).1 = T.setFrames fs) : Steps p.tables e below (T.setTop (mkF m pc Ls (.int z :: rest))) (T.setFrames fs) :=
  retOut X hx hret rfl (Or.inl ⟨rfl, Or.inl rfl, z, rfl⟩) hd hl
theorem own_retJ (X : Stand p l e R s m args below meth c T locs cells slots) (hx : p.tables.exec = Jvm.exec) {pc : Nat} {Ls : Array Slot} {z : Int64} {rest : List Value} (hret : meth.sig.returnType = some .long) (hd : decode c.code pc = .ok (.lreturn, 1)) {fs : List Frame}
    (hl : ∀ (f : JFrame) (acts : List Action), f.method = m → f.locked = none → f.entered = [] → (doReturn e (T.setTop f) acts (some (.long z))).1 = T.setFrames fs) : Steps p.tables e below (T.setTop (mkF m pc Ls (.long z :: rest))) (T.setFrames fs) :=
  retOut X hx hret rfl (Or.inr (Or.inl ⟨rfl, rfl, z, rfl⟩)) hd hl
theorem own_retA (X : Stand p l e R s m args below meth c T locs cells slots) (hx : p.tables.exec = Jvm.exec) {pc : Nat} {Ls : Array Slot} {w : Value} {t : FieldType} {rest : List Value} (hret : meth.sig.returnType = some t) (ht : t.isReference = true) (hw : w.isRef = true) (hd : decode c.code pc = .ok (.areturn, 1)) {fs : List Frame}
    (hl : ∀ (f : JFrame) (acts : List Action), f.method = m → f.locked = none → f.entered = [] → (doReturn e (T.setTop f) acts (some w)).1 = T.setFrames fs) : Steps p.tables e below (T.setTop (mkF m pc Ls (w :: rest))) (T.setFrames fs) :=
  retOut X hx hret (by cases t <;> first | rfl | cases ht) (Or.inr (Or.inr (Or.inr (Or.inr ⟨rfl, ht, hw⟩)))) hd hl
end New
end Jvm.RoadKit
namespace Jvm.Pilot.@@N@@
open Jvm Jvm.ClassFile Sem Op Lib Jvm.Free Jvm.Stand Jvm.LawKit Jvm.RoadKit Bundle Jvm.Pilot.@@N@@.Jvm.D
abbrev own_Go (tb : Tables) (e : Env) (below : List Frame) (S0 S1 : State) : Prop := ∀ t, Steps tb e below S1 t → Steps tb e below S0 t
theorem own_eqI {args : Array Value} {s : State} {t : Term} {k : Int32} (h : (Jvm.Cond.eq t (.int k)).value args s none s [] = some true) : t.eval args s none [] s = some (.int k) := by
  obtain ⟨x, y, e1, e2, -, -⟩ := cmp_v (Or.inl h)
  obtain rfl : y = .int k := (Option.some.inj e2).symm
  cases x <;> simp [Cond.value, e1, Term.eval] at h <;> simp_all
theorem own_eqL {args : Array Value} {s : State} {t : Term} {k : Int64} (h : (Jvm.Cond.eq t (.long k)).value args s none s [] = some true) : t.eval args s none [] s = some (.long k) := by
  obtain ⟨x, y, e1, e2, -, -⟩ := cmp_v (Or.inl h)
  obtain rfl : y = .long k := (Option.some.inj e2).symm
  cases x <;> simp [Cond.value, e1, Term.eval] at h <;> simp_all
theorem own_nar0 : nar .boolean (0 : Int32) = 0 := by decide
theorem own_nar1 : nar .boolean (1 : Int32) = 1 := by decide
theorem own_nar_ite {P : Prop} [Decidable P] {a b : Int32} (ha : nar .boolean a = a) (hb : nar .boolean b = b) : nar .boolean (if P then a else b) = if P then a else b := by split <;> assumption
theorem own_fld {args : Array Value} {s : State} {t : Term} {a : Addr} {C n d : String} {v : Value} (ht : t.eval args s none [] s = some (.ref a)) (h : (Term.field t C n d).eval args s none [] s = some v) : Fld s s.heap a C n d v :=
  Fld.start (by rw [← fld_at (args := args) (first := s) (o := none) (idx := []) ht]; exact h)

theorem own_wS {Z : State} {a0 : Array Value} (hw : ∀ d ∈ tables_1, d.before a0 Z = true) : ∀ a ∈ Bundle.stringAtoms, a.before a0 Z = true := by
  intro a ha
  simp only [Bundle.stringAtoms, Bundle.sN, List.mem_cons, List.not_mem_nil, or_false] at ha
  rcases ha with rfl | rfl | rfl | rfl | rfl | rfl | rfl
  · exact (hw _ (List.mem_of_getElem? (i := 55) rfl))
  · exact (hw _ (List.mem_of_getElem? (i := 56) rfl))
  · exact (hw _ (List.mem_of_getElem? (i := 57) rfl))
  · exact (hw _ (List.mem_of_getElem? (i := 58) rfl))
  · exact (hw _ (List.mem_of_getElem? (i := 59) rfl))
  · exact (hw _ (List.mem_of_getElem? (i := 60) rfl))
  · exact (hw _ (List.mem_of_getElem? (i := 61) rfl))
theorem own_b32 (q : Int32) (n : Nat) (m : Int32) (hm : m.toBitVec = BitVec.twoPow 32 n) : (q &&& m) = 0 ↔ q.toBitVec.getLsbD n = false := by
  rw [← Int32.toBitVec_inj, Int32.toBitVec_and, hm, BitVec.and_twoPow]
  by_cases h : q.toBitVec.getLsbD n = true
  · have hn : n < 32 := by
      apply Classical.byContradiction; intro c
      rw [BitVec.getLsbD_of_ge _ _ (by omega)] at h; cases h
    simp only [h, if_true]
    constructor
    · intro e
      have := congrArg (fun z : BitVec 32 => z.getLsbD n) e
      simp [BitVec.getLsbD_twoPow, hn] at this
    · intro e; cases e
  · simp only [Bool.not_eq_true] at h
    simp [h]
theorem own_par (f : Int32) : (f &&& (1 : Int32)) = (0 : Int32) ↔ (f % (2 : Int32)) = (0 : Int32) := by
  have h1 := c_mask f 1 1 (by decide) (by decide)
  have h2 := c_irem f 2 2 (by decide)
  have e0 : (0 : Int32).toInt = 0 := by decide
  rw [← Int32.toInt_inj, ← Int32.toInt_inj, h1, e0]
  by_cases q : 0 ≤ f.toInt
  · rw [h2.1 q]; omega
  · rw [h2.2 (by omega)]; omega
theorem own_r1 (f : Int32) : (if (f &&& (1 : Int32)) = (0 : Int32) then (0 : Int32) else (1 : Int32)) = (if (f % (2 : Int32)) = (0 : Int32) then (0 : Int32) else (1 : Int32)) := by
  by_cases h : (f &&& (1 : Int32)) = (0 : Int32)
  · rw [if_pos h, if_pos ((own_par f).mp h)]
  · rw [if_neg h, if_neg (fun q => h ((own_par f).mpr q))]
theorem own_r2 (f : Int32) : (if ((f ^^^ (2 : Int32)) &&& (1 : Int32)) = (0 : Int32) then (0 : Int32) else (1 : Int32)) = (if (f % (2 : Int32)) = (0 : Int32) then (0 : Int32) else (1 : Int32)) := by
  have e : ((f ^^^ (2 : Int32)) &&& (1 : Int32)) = (0 : Int32) ↔ (f &&& (1 : Int32)) = (0 : Int32) := by
    rw [own_b32 _ 0 1 (by decide), own_b32 _ 0 1 (by decide), Int32.toBitVec_xor, BitVec.getLsbD_xor, show (2 : Int32).toBitVec.getLsbD 0 = false by decide]
    simp
  rw [← own_r1]
  by_cases h : (f &&& (1 : Int32)) = (0 : Int32)
  · rw [if_pos h, if_pos (e.mpr h)]
  · rw [if_neg h, if_neg (fun q => h (e.mp q))]
theorem own_r3 (f : Int32) : (if ((f ^^^ (1 : Int32)) &&& (1 : Int32)) = (0 : Int32) then (0 : Int32) else (1 : Int32)) = (if (if (f % (2 : Int32)) = (0 : Int32) then (0 : Int32) else (1 : Int32)) = (0 : Int32) then (1 : Int32) else (0 : Int32)) := by
  have e : ((f ^^^ (1 : Int32)) &&& (1 : Int32)) = (0 : Int32) ↔ ¬ (f &&& (1 : Int32)) = (0 : Int32) := by
    rw [own_b32 _ 0 1 (by decide), own_b32 _ 0 1 (by decide), Int32.toBitVec_xor, BitVec.getLsbD_xor, show (1 : Int32).toBitVec.getLsbD 0 = true by decide]
    cases f.toBitVec.getLsbD 0 <;> simp
  rw [← own_r1]
  by_cases h : (f &&& (1 : Int32)) = (0 : Int32)
  · simp [h, e]
  · simp [h, e]
theorem d1_0 : decode jdk_30_method_1_code 0 = .ok (.aload_n 0, 1) := by decide +kernel
theorem d1_1 : decode jdk_30_method_1_code 1 = .ok (.invokespecial 1, 3) := by decide +kernel
theorem d1_4 : decode jdk_30_method_1_code 4 = .ok (.return_, 1) := by decide +kernel
theorem pn_1 : plainName "java/lang/Record" = true := by first | (simp [plainName, overriddenIn]; done) | decide +kernel
theorem ef_1 (m : MethodId) (a0 : Addr) : entryFrame m #[(.ref a0)] 1 = mkF m 0 #[.val (.ref a0)] [] := by first | (simp [entryFrame, mkF, argsToLocals, Value.category]; done) | rfl
def Q1 (Z : State) (a0 : Addr)  (h0 : Heap) (v : Option Value) (h : Heap) (L : List Loc) : Prop := v = none ∧ Fr Z.heap.size L ∧ Keep h0 h []
set_option maxRecDepth 65536 in
set_option maxHeartbeats 40000000 in
theorem rm1 (l : Launch) (Z : State) (aw : Array Value) (hw : ∀ d ∈ tables_1, d.before aw Z = true) (ws : List Jvm.Cond) (a0 : Addr)  (h0 : Heap) (O0 : Old Z Z.heap.size h0)   :
    MetFree l (⟨"java/lang/Record", "<init>", "()V"⟩ : MethodName) (head1 (Jvm.Cond.code (⟨"java/lang/Record", "<init>", "()V"⟩ : MethodName) jdk_30_method_1_code 1 none :: ws) ({ frames := 1, cells := 0, slots := 0, locals := 12 } : Room)) (fun a U => a = #[(.ref a0)] ∧ Z.Warmed39 U.vm ∧ U.heap = h0) (fun _ _ _ _ _ => True) (fun _ U o U' => ∃ v L, o = .returned v ∧ Q1 Z a0 h0 v U'.heap L ∧ FrameEnd U o U' L ({ frames := 1, cells := 0, slots := 0, locals := 12 } : Room).cells ({ frames := 1, cells := 0, slots := 0, locals := 12 } : Room).slots) := by
  refine MetFree.of_bodySF (plainFor_of_name pn_1) hisR ?_
  intro p e s m args below meth c s₁ Bd hml0 hP hK
  obtain ⟨rfl, hZ, hh⟩ := hP
  have hZ0 := hZ
  have hx := Bd.exec
  have hby := Bd.bytes
  have hml : c.maxLocals = 1 := hml0
  have hown : s.vm.findClass "java/lang/Record" = some m.cls := findClass_of_methodNamed Bd.named
  have hnm := (name_of_methodNamed Bd.named Bd.method).1
  have X0 : Stand p l e ({ frames := 1, cells := 0, slots := 0, locals := 12 } : Room) s m #[(.ref a0)] below meth c s₁ [] 0 0 := Stand.of_body Bd
  have e0 : s₁.heap = h0 := by rw [← hh, Bd.state]; rfl
  have G0 : own_Go p.tables e below (s₁.setTop (entryFrame m #[(.ref a0)] 1)) (s₁.setTop (mkF m 0 #[.val (.ref a0)] [])) := fun t k => castTop (ef_1 m a0) k
  have N0 := Fr.nil Z.heap.size
  have K0 := Keep.refl h0 []
  have G1 : own_Go p.tables e below (s₁.setTop (entryFrame m #[(.ref a0)] 1)) (s₁.setTop (mkF m 1 #[.val (.ref a0)] [(.ref a0)])) := fun t k => G0 t (XS.aloadN X0.here hx rfl (hb hby d1_0) rfl rfl k)
  obtain ⟨T2, X2, e2, st2⟩ := initO X0 hx hZ hown (hw _ (List.mem_of_getElem? (i := 11) rfl)) (hw _ (List.mem_of_getElem? (i := 12) rfl)) (hw _ (List.mem_of_getElem? (i := 13) rfl)) e0 (g := (mkF m 1 #[.val (.ref a0)] [(.ref a0)])) rfl (by rw [hml]; rfl) rfl (hb hby d1_1) (by decide) (W := 0) (by show 2 * 0 + _ ≤ _; exact Nat.le_of_eq rfl) (by decide)
  have G2 : own_Go p.tables e below (s₁.setTop (entryFrame m #[(.ref a0)] 1)) (T2.setTop (mkF m 4 #[.val (.ref a0)] [])) := fun t k => G1 t (st2 t k)
  obtain ⟨fs, hr, hrun, hended, hW, hsame⟩ := X2.leave (v := none) (fun _ => rfl)
  refine ⟨_, _, G2 _ ?_, hrun, hended, _, _, rfl, ?_, ⟨_, rfl⟩, hW, hsame.mono (by decide) (by decide)⟩
  · exact X2.returnOut hx Bd.returns (hb hby d1_4) hr
  · show Q1 Z a0 h0 _ T2.heap _
    rw [e2]
    exact ⟨rfl, N0, K0⟩
theorem d2_0 : decode jdk_72_method_26_code 0 = .ok (.getstatic 81, 3) := by decide +kernel
theorem d2_3 : decode jdk_72_method_26_code 3 = .ok (.areturn, 1) := by decide +kernel
theorem pn_2 : plainName "java/util/Map" = true := by first | (simp [plainName, overriddenIn]; done) | decide +kernel
theorem ef_2 (m : MethodId)  : entryFrame m #[] 0 = mkF m 0 #[] [] := by first | (simp [entryFrame, mkF, argsToLocals, Value.category]; done) | rfl
def Q2 (Z : State)  (aM : Addr) (h0 : Heap) (v : Option Value) (h : Heap) (L : List Loc) : Prop := v = some (.ref aM) ∧ L = [] ∧ h = h0
set_option maxRecDepth 65536 in
set_option maxHeartbeats 40000000 in
theorem rm2 (l : Launch) (Z : State) (aw : Array Value) (hw : ∀ d ∈ tables_1, d.before aw Z = true) (ws : List Jvm.Cond)  (aM : Addr) (h0 : Heap) (S_M : Sta Z h0 "java/util/ImmutableCollections" "EMPTY_MAP" "Ljava/util/ImmutableCollections$MapN;" (.ref aM)) :
    MetFree l (⟨"java/util/Map", "of", "()Ljava/util/Map;"⟩ : MethodName) (head1 (Jvm.Cond.code (⟨"java/util/Map", "of", "()Ljava/util/Map;"⟩ : MethodName) jdk_72_method_26_code 0 (some (.object "java/util/Map")) :: ws) ({ frames := 0, cells := 0, slots := 0, locals := 0 } : Room)) (fun a U => a = #[] ∧ Z.Warmed39 U.vm ∧ U.heap = h0) (fun _ _ _ _ _ => True) (fun _ U o U' => ∃ v L, o = .returned v ∧ Q2 Z aM h0 v U'.heap L ∧ FrameEnd U o U' L ({ frames := 0, cells := 0, slots := 0, locals := 0 } : Room).cells ({ frames := 0, cells := 0, slots := 0, locals := 0 } : Room).slots) := by
  refine MetFree.of_bodySF (plainFor_of_name pn_2) hisR ?_
  intro p e s m args below meth c s₁ Bd hml0 hP hK
  obtain ⟨rfl, hZ, hh⟩ := hP
  have hZ0 := hZ
  have hx := Bd.exec
  have hby := Bd.bytes
  have hml : c.maxLocals = 0 := hml0
  have hown : s.vm.findClass "java/util/Map" = some m.cls := findClass_of_methodNamed Bd.named
  have hnm := (name_of_methodNamed Bd.named Bd.method).1
  have X0 : Stand p l e ({ frames := 0, cells := 0, slots := 0, locals := 0 } : Room) s m #[] below meth c s₁ [] 0 0 := Stand.of_body Bd
  have e0 : s₁.heap = h0 := by rw [← hh, Bd.state]; rfl
  have G0 : own_Go p.tables e below (s₁.setTop (entryFrame m #[] 0)) (s₁.setTop (mkF m 0 #[] [])) := fun t k => castTop (ef_2 m ) k
  obtain ⟨T1, X1, e1, st1⟩ := getS2 X0 hx hZ hown (host := "") (Or.inl (hw _ (List.mem_of_getElem? (i := 18) rfl))) Via.refl e0 S_M (g := (mkF m 0 #[] [])) rfl (hb hby d2_0)
  have G1 : own_Go p.tables e below (s₁.setTop (entryFrame m #[] 0)) (T1.setTop (mkF m 3 #[] [(.ref aM)])) := fun t k => G0 t (st1 t k)
  obtain ⟨fs, hr, hrun, hended, hW, hsame⟩ := X1.leave (v := some (.ref aM)) (fun h => by rw [Bd.returns] at h; cases h)
  refine ⟨_, _, G1 _ ?_, hrun, hended, _, _, rfl, ?_, ⟨_, rfl⟩, hW, hsame.mono (by decide) (by decide)⟩
  · exact own_retA X1 hx Bd.returns rfl rfl (hb hby d2_3) hr
  · show Q2 Z aM h0 _ T1.heap _
    rw [e1]
    exact ⟨rfl, rfl, rfl⟩
theorem d3_0 : decode prog_17_method_1_code 0 = .ok (.aload_n 0, 1) := by decide +kernel
theorem d3_1 : decode prog_17_method_1_code 1 = .ok (.invokespecial 5, 3) := by decide +kernel
theorem d3_4 : decode prog_17_method_1_code 4 = .ok (.aload 7, 2) := by decide +kernel
theorem d3_6 : decode prog_17_method_1_code 6 = .ok (.ifnonnull 9, 3) := by decide +kernel
theorem d3_9 : decode prog_17_method_1_code 9 = .ok (.invokestatic 11, 3) := by decide +kernel
theorem d3_12 : decode prog_17_method_1_code 12 = .ok (.goto 5, 3) := by decide +kernel
theorem d3_17 : decode prog_17_method_1_code 17 = .ok (.astore 7, 2) := by decide +kernel
theorem d3_19 : decode prog_17_method_1_code 19 = .ok (.aload 8, 2) := by decide +kernel
theorem d3_21 : decode prog_17_method_1_code 21 = .ok (.ifnonnull 9, 3) := by decide +kernel
theorem d3_24 : decode prog_17_method_1_code 24 = .ok (.getstatic 17, 3) := by decide +kernel
theorem d3_27 : decode prog_17_method_1_code 27 = .ok (.goto 5, 3) := by decide +kernel
theorem d3_32 : decode prog_17_method_1_code 32 = .ok (.astore 8, 2) := by decide +kernel
theorem d3_34 : decode prog_17_method_1_code 34 = .ok (.aload_n 0, 1) := by decide +kernel
theorem d3_35 : decode prog_17_method_1_code 35 = .ok (.iload_n 1, 1) := by decide +kernel
theorem d3_36 : decode prog_17_method_1_code 36 = .ok (.putfield 21, 3) := by decide +kernel
theorem d3_39 : decode prog_17_method_1_code 39 = .ok (.aload_n 0, 1) := by decide +kernel
theorem d3_40 : decode prog_17_method_1_code 40 = .ok (.aload_n 2, 1) := by decide +kernel
theorem d3_41 : decode prog_17_method_1_code 41 = .ok (.putfield 25, 3) := by decide +kernel
theorem d3_44 : decode prog_17_method_1_code 44 = .ok (.aload_n 0, 1) := by decide +kernel
theorem d3_45 : decode prog_17_method_1_code 45 = .ok (.iload_n 3, 1) := by decide +kernel
theorem d3_46 : decode prog_17_method_1_code 46 = .ok (.putfield 29, 3) := by decide +kernel
theorem d3_49 : decode prog_17_method_1_code 49 = .ok (.aload_n 0, 1) := by decide +kernel
theorem d3_50 : decode prog_17_method_1_code 50 = .ok (.iload 4, 2) := by decide +kernel
theorem d3_52 : decode prog_17_method_1_code 52 = .ok (.putfield 32, 3) := by decide +kernel
theorem d3_55 : decode prog_17_method_1_code 55 = .ok (.aload_n 0, 1) := by decide +kernel
theorem d3_56 : decode prog_17_method_1_code 56 = .ok (.iload 5, 2) := by decide +kernel
theorem d3_58 : decode prog_17_method_1_code 58 = .ok (.putfield 35, 3) := by decide +kernel
theorem d3_61 : decode prog_17_method_1_code 61 = .ok (.aload_n 0, 1) := by decide +kernel
theorem d3_62 : decode prog_17_method_1_code 62 = .ok (.aload 6, 2) := by decide +kernel
theorem d3_64 : decode prog_17_method_1_code 64 = .ok (.putfield 38, 3) := by decide +kernel
theorem d3_67 : decode prog_17_method_1_code 67 = .ok (.aload_n 0, 1) := by decide +kernel
theorem d3_68 : decode prog_17_method_1_code 68 = .ok (.aload 7, 2) := by decide +kernel
theorem d3_70 : decode prog_17_method_1_code 70 = .ok (.putfield 41, 3) := by decide +kernel
theorem d3_73 : decode prog_17_method_1_code 73 = .ok (.aload_n 0, 1) := by decide +kernel
theorem d3_74 : decode prog_17_method_1_code 74 = .ok (.aload 8, 2) := by decide +kernel
theorem d3_76 : decode prog_17_method_1_code 76 = .ok (.putfield 45, 3) := by decide +kernel
theorem d3_79 : decode prog_17_method_1_code 79 = .ok (.return_, 1) := by decide +kernel
theorem pn_3 : plainName "com/example/earnest_broker/earnestbroker/remoting/RemotingCommand" = true := by first | (simp [plainName, overriddenIn]; done) | decide +kernel
theorem pd_3_0 : parseMethodDescriptor "()V" = some ⟨[], none⟩ := by decide +kernel
theorem pd_3_1 : parseMethodDescriptor "()Ljava/util/Map;" = some ⟨[], some (.object "java/util/Map")⟩ := by decide +kernel
theorem ef_3 (m : MethodId) (a0 : Addr) (p1 : Int32) (p3 : Int32) (p4 : Int32) (p5 : Int32) : entryFrame m #[(.ref a0), (.int p1), .null, (.int p3), (.int p4), (.int p5), .null, .null, .null] 9 = mkF m 0 #[.val (.ref a0), .val (.int p1), .val .null, .val (.int p3), .val (.int p4), .val (.int p5), .val .null, .val .null, .val .null] [] := by first | (simp [entryFrame, mkF, argsToLocals, Value.category]; done) | rfl
def Q3 (Z : State) (a0 : Addr) (p1 : Int32) (p3 : Int32) (p4 : Int32) (p5 : Int32) (aM aB : Addr) (h0 : Heap) (v : Option Value) (h : Heap) (L : List Loc) : Prop := v = none ∧ Fr Z.heap.size L ∧ Keep h0 h [a0] ∧ (Exa Z h a0 "com/example/earnest_broker/earnestbroker/remoting/RemotingCommand") ∧ (Fld Z h a0 "com/example/earnest_broker/earnestbroker/remoting/RemotingCommand" "version" "I" (.int p3)) ∧ (Fld Z h a0 "com/example/earnest_broker/earnestbroker/remoting/RemotingCommand" "opaque" "I" (.int p4)) ∧ (Fld Z h a0 "com/example/earnest_broker/earnestbroker/remoting/RemotingCommand" "flag" "I" (.int p5))
set_option maxRecDepth 65536 in
set_option maxHeartbeats 40000000 in
theorem rm3 (l : Launch) (Z : State) (aw : Array Value) (hw : ∀ d ∈ tables_1, d.before aw Z = true) (ws : List Jvm.Cond) (a0 : Addr) (p1 : Int32) (p3 : Int32) (p4 : Int32) (p5 : Int32) (aM aB : Addr) (h0 : Heap) (O0 : Old Z Z.heap.size h0) (gn_a0 : Z.heap.size ≤ a0) (E_a0 : Exa Z h0 a0 "com/example/earnest_broker/earnestbroker/remoting/RemotingCommand") (F_code : Fld Z h0 a0 "com/example/earnest_broker/earnestbroker/remoting/RemotingCommand" "code" "I" (.int (0 : Int32))) (F_language : Fld Z h0 a0 "com/example/earnest_broker/earnestbroker/remoting/RemotingCommand" "language" "Ljava/lang/String;" .null) (F_version : Fld Z h0 a0 "com/example/earnest_broker/earnestbroker/remoting/RemotingCommand" "version" "I" (.int (0 : Int32))) (F_opaque : Fld Z h0 a0 "com/example/earnest_broker/earnestbroker/remoting/RemotingCommand" "opaque" "I" (.int (0 : Int32))) (F_flag : Fld Z h0 a0 "com/example/earnest_broker/earnestbroker/remoting/RemotingCommand" "flag" "I" (.int (0 : Int32))) (F_remark : Fld Z h0 a0 "com/example/earnest_broker/earnestbroker/remoting/RemotingCommand" "remark" "Ljava/lang/String;" .null) (F_extFields : Fld Z h0 a0 "com/example/earnest_broker/earnestbroker/remoting/RemotingCommand" "extFields" "Ljava/util/Map;" .null) (F_body : Fld Z h0 a0 "com/example/earnest_broker/earnestbroker/remoting/RemotingCommand" "body" "[B" .null) (S_M : Sta Z Z.heap "java/util/ImmutableCollections" "EMPTY_MAP" "Ljava/util/ImmutableCollections$MapN;" (.ref aM)) (S_B : Sta Z Z.heap "com/example/earnest_broker/earnestbroker/remoting/RemotingCommand" "NO_BODY" "[B" (.ref aB)) :
    MetFree l (⟨"com/example/earnest_broker/earnestbroker/remoting/RemotingCommand", "<init>", "(ILjava/lang/String;IIILjava/lang/String;Ljava/util/Map;[B)V"⟩ : MethodName) (head1 (Jvm.Cond.code (⟨"com/example/earnest_broker/earnestbroker/remoting/RemotingCommand", "<init>", "(ILjava/lang/String;IIILjava/lang/String;Ljava/util/Map;[B)V"⟩ : MethodName) prog_17_method_1_code 9 none :: ws) ({ frames := 2, cells := 0, slots := 0, locals := 24 } : Room)) (fun a U => a = #[(.ref a0), (.int p1), .null, (.int p3), (.int p4), (.int p5), .null, .null, .null] ∧ Z.Warmed39 U.vm ∧ U.heap = h0) (fun _ _ _ _ _ => True) (fun _ U o U' => ∃ v L, o = .returned v ∧ Q3 Z a0 p1 p3 p4 p5 aM aB h0 v U'.heap L ∧ FrameEnd U o U' L ({ frames := 2, cells := 0, slots := 0, locals := 24 } : Room).cells ({ frames := 2, cells := 0, slots := 0, locals := 24 } : Room).slots) := by
  refine MetFree.of_bodySF (plainFor_of_name pn_3) hisR ?_
  intro p e s m args below meth c s₁ Bd hml0 hP hK
  obtain ⟨rfl, hZ, hh⟩ := hP
  have hZ0 := hZ
  have hx := Bd.exec
  have hby := Bd.bytes
  have hml : c.maxLocals = 9 := hml0
  have hown : s.vm.findClass "com/example/earnest_broker/earnestbroker/remoting/RemotingCommand" = some m.cls := findClass_of_methodNamed Bd.named
  have hnm := (name_of_methodNamed Bd.named Bd.method).1
  have X0 : Stand p l e ({ frames := 2, cells := 0, slots := 0, locals := 24 } : Room) s m #[(.ref a0), (.int p1), .null, (.int p3), (.int p4), (.int p5), .null, .null, .null] below meth c s₁ [] 0 0 := Stand.of_body Bd
  have e0 : s₁.heap = h0 := by rw [← hh, Bd.state]; rfl
  have G0 : own_Go p.tables e below (s₁.setTop (entryFrame m #[(.ref a0), (.int p1), .null, (.int p3), (.int p4), (.int p5), .null, .null, .null] 9)) (s₁.setTop (mkF m 0 #[.val (.ref a0), .val (.int p1), .val .null, .val (.int p3), .val (.int p4), .val (.int p5), .val .null, .val .null, .val .null] [])) := fun t k => castTop (ef_3 m a0 p1 p3 p4 p5) k
  have N0 := Fr.nil Z.heap.size
  have K0 := Keep.refl h0 [a0]
  have G1 : own_Go p.tables e below (s₁.setTop (entryFrame m #[(.ref a0), (.int p1), .null, (.int p3), (.int p4), (.int p5), .null, .null, .null] 9)) (s₁.setTop (mkF m 1 #[.val (.ref a0), .val (.int p1), .val .null, .val (.int p3), .val (.int p4), .val (.int p5), .val .null, .val .null, .val .null] [(.ref a0)])) := fun t k => G0 t (XS.aloadN X0.here hx rfl (hb hby d3_0) rfl rfl k)
  obtain ⟨vv2, _, ⟨T2, L2, k2, n2⟩, -, X2, ⟨Lc2, hQ2, l2, y2, z2⟩, st2⟩ := X0.specialBack hx (y := (⟨"java/lang/Record", "<init>", "()V"⟩ : MethodName)) rfl hown (mvT hZ (hw _ (List.mem_of_getElem? (i := 6) rfl))) (mvT hZ (hw _ (List.mem_of_getElem? (i := 7) rfl))) (mvT hZ (hw _ (List.mem_of_getElem? (i := 10) rfl))) (by decide) (backOf (W := 0) (rm1 l Z aw hw [] a0  h0 O0   ) hZ (hw _ (List.mem_of_getElem? (i := 10) rfl)) (hw _ (List.mem_of_getElem? (i := 9) rfl)) (by decide) (by decide)) (g := (mkF m 1 #[.val (.ref a0), .val (.int p1), .val .null, .val (.int p3), .val (.int p4), .val (.int p5), .val .null, .val .null, .val .null] [(.ref a0)])) rfl (by rw [hml]; rfl) (Steps.refl _) (a := a0) (argsL := []) (rest := []) (lenOf pd_3_0 rfl) rfl (by show 2 * 0 + _ ≤ _; exact Nat.le_of_eq rfl) (hb hby d3_1) (fun _ _ => ⟨rfl, e0, (by decide : 0 + 0 ≤ _), (by decide : 0 + 0 ≤ _)⟩)
  dsimp only [Pt.U, Pt.locs, Pt.cells, Pt.slots] at X2 l2 y2 z2 st2 hQ2
  subst l2 y2 z2
  obtain ⟨rfl, Nq2, Kq2⟩ := hQ2
  have N2 := Fr.app N0 Nq2
  have O2 := O0.keep Kq2 all0
  have K2 := K0.trans Kq2 all0
  have G2 : own_Go p.tables e below (s₁.setTop (entryFrame m #[(.ref a0), (.int p1), .null, (.int p3), (.int p4), (.int p5), .null, .null, .null] 9)) (T2.setTop (mkF m 4 #[.val (.ref a0), .val (.int p1), .val .null, .val (.int p3), .val (.int p4), .val (.int p5), .val .null, .val .null, .val .null] [])) := fun t k => G1 t (st2.trans k)
  have G3 : own_Go p.tables e below (s₁.setTop (entryFrame m #[(.ref a0), (.int p1), .null, (.int p3), (.int p4), (.int p5), .null, .null, .null] 9)) (T2.setTop (mkF m 6 #[.val (.ref a0), .val (.int p1), .val .null, .val (.int p3), .val (.int p4), .val (.int p5), .val .null, .val .null, .val .null] [.null])) := fun t k => G2 t (XS.aload X2.here hx rfl (hb hby d3_4) rfl rfl k)
  have G4 : own_Go p.tables e below (s₁.setTop (entryFrame m #[(.ref a0), (.int p1), .null, (.int p3), (.int p4), (.int p5), .null, .null, .null] 9)) (T2.setTop (mkF m 9 #[.val (.ref a0), .val (.int p1), .val .null, .val (.int p3), .val (.int p4), .val (.int p5), .val .null, .val .null, .val .null] [])) := fun t k => G3 t (XS.ifnonnullNo X2.here hx rfl (hb hby d3_6) rfl k)
  obtain ⟨vv5, _, ⟨T5, L5, k5, n5⟩, -, X5, ⟨Lc5, hQ5, l5, y5, z5⟩, st5⟩ := Jvm.LawKit.callS X2 hx (y := (⟨"java/util/Map", "of", "()Ljava/util/Map;"⟩ : MethodName)) hown (mvT hZ (hw _ (List.mem_of_getElem? (i := 14) rfl))) (mvT hZ (hw _ (List.mem_of_getElem? (i := 15) rfl))) (mvT hZ (hw _ (List.mem_of_getElem? (i := 16) rfl))) (mvT hZ (hw _ (List.mem_of_getElem? (i := 17) rfl))) (by decide) (backOf (W := 0) (rm2 l Z aw hw []  aM T2.heap (S_M.ext O2.2)) hZ (hw _ (List.mem_of_getElem? (i := 17) rfl)) (hw _ (List.mem_of_getElem? (i := 16) rfl)) (by decide) (by decide)) (g := (mkF m 9 #[.val (.ref a0), .val (.int p1), .val .null, .val (.int p3), .val (.int p4), .val (.int p5), .val .null, .val .null, .val .null] [])) rfl (by rw [hml]; rfl) (argsL := []) (rest := []) (lenOf pd_3_1 rfl) rfl (by show 2 * 0 + _ ≤ _; exact Nat.le_of_eq rfl) (hb hby d3_9) (fun _ _ => ⟨rfl, rfl, (by decide : 0 + 0 ≤ _), (by decide : 0 + 0 ≤ _)⟩)
  dsimp only [Pt.U, Pt.locs, Pt.cells, Pt.slots] at X5 l5 y5 z5 st5 hQ5
  subst l5 y5 z5
  obtain ⟨rfl, rfl, e5⟩ := hQ5
  try rw [List.append_nil] at X5
  have G5 : own_Go p.tables e below (s₁.setTop (entryFrame m #[(.ref a0), (.int p1), .null, (.int p3), (.int p4), (.int p5), .null, .null, .null] 9)) (T5.setTop (mkF m 12 #[.val (.ref a0), .val (.int p1), .val .null, .val (.int p3), .val (.int p4), .val (.int p5), .val .null, .val .null, .val .null] [(.ref aM)])) := fun t k => G4 t (st5 t k)
  have G6 : own_Go p.tables e below (s₁.setTop (entryFrame m #[(.ref a0), (.int p1), .null, (.int p3), (.int p4), (.int p5), .null, .null, .null] 9)) (T5.setTop (mkF m 17 #[.val (.ref a0), .val (.int p1), .val .null, .val (.int p3), .val (.int p4), .val (.int p5), .val .null, .val .null, .val .null] [(.ref aM)])) := fun t k => G5 t (XS.goto X5.here hx rfl (pc0 := 12) (pc' := 17) rfl (hb hby d3_12) (by decide) (by decide) k)
  have G7 : own_Go p.tables e below (s₁.setTop (entryFrame m #[(.ref a0), (.int p1), .null, (.int p3), (.int p4), (.int p5), .null, .null, .null] 9)) (T5.setTop (mkF m 19 #[.val (.ref a0), .val (.int p1), .val .null, .val (.int p3), .val (.int p4), .val (.int p5), .val .null, .val (.ref aM), .val .null] [])) := fun t k => G6 t (XS.astore X5.here hx rfl (hb hby d3_17) rfl rfl (l' := #[.val (.ref a0), .val (.int p1), .val .null, .val (.int p3), .val (.int p4), .val (.int p5), .val .null, .val (.ref aM), .val .null]) rfl k)
  have G8 : own_Go p.tables e below (s₁.setTop (entryFrame m #[(.ref a0), (.int p1), .null, (.int p3), (.int p4), (.int p5), .null, .null, .null] 9)) (T5.setTop (mkF m 21 #[.val (.ref a0), .val (.int p1), .val .null, .val (.int p3), .val (.int p4), .val (.int p5), .val .null, .val (.ref aM), .val .null] [.null])) := fun t k => G7 t (XS.aload X5.here hx rfl (hb hby d3_19) rfl rfl k)
  have G9 : own_Go p.tables e below (s₁.setTop (entryFrame m #[(.ref a0), (.int p1), .null, (.int p3), (.int p4), (.int p5), .null, .null, .null] 9)) (T5.setTop (mkF m 24 #[.val (.ref a0), .val (.int p1), .val .null, .val (.int p3), .val (.int p4), .val (.int p5), .val .null, .val (.ref aM), .val .null] [])) := fun t k => G8 t (XS.ifnonnullNo X5.here hx rfl (hb hby d3_21) rfl k)
  obtain ⟨T10, X10, e10, st10⟩ := getS2 X5 hx hZ hown (host := "") (Or.inl (hw _ (List.mem_of_getElem? (i := 20) rfl))) Via.refl e5 (S_B.ext O2.2) (g := (mkF m 24 #[.val (.ref a0), .val (.int p1), .val .null, .val (.int p3), .val (.int p4), .val (.int p5), .val .null, .val (.ref aM), .val .null] [])) rfl (hb hby d3_24)
  have G10 : own_Go p.tables e below (s₁.setTop (entryFrame m #[(.ref a0), (.int p1), .null, (.int p3), (.int p4), (.int p5), .null, .null, .null] 9)) (T10.setTop (mkF m 27 #[.val (.ref a0), .val (.int p1), .val .null, .val (.int p3), .val (.int p4), .val (.int p5), .val .null, .val (.ref aM), .val .null] [(.ref aB)])) := fun t k => G9 t (st10 t k)
  have G11 : own_Go p.tables e below (s₁.setTop (entryFrame m #[(.ref a0), (.int p1), .null, (.int p3), (.int p4), (.int p5), .null, .null, .null] 9)) (T10.setTop (mkF m 32 #[.val (.ref a0), .val (.int p1), .val .null, .val (.int p3), .val (.int p4), .val (.int p5), .val .null, .val (.ref aM), .val .null] [(.ref aB)])) := fun t k => G10 t (XS.goto X10.here hx rfl (pc0 := 27) (pc' := 32) rfl (hb hby d3_27) (by decide) (by decide) k)
  have G12 : own_Go p.tables e below (s₁.setTop (entryFrame m #[(.ref a0), (.int p1), .null, (.int p3), (.int p4), (.int p5), .null, .null, .null] 9)) (T10.setTop (mkF m 34 #[.val (.ref a0), .val (.int p1), .val .null, .val (.int p3), .val (.int p4), .val (.int p5), .val .null, .val (.ref aM), .val (.ref aB)] [])) := fun t k => G11 t (XS.astore X10.here hx rfl (hb hby d3_32) rfl rfl (l' := #[.val (.ref a0), .val (.int p1), .val .null, .val (.int p3), .val (.int p4), .val (.int p5), .val .null, .val (.ref aM), .val (.ref aB)]) rfl k)
  have G13 : own_Go p.tables e below (s₁.setTop (entryFrame m #[(.ref a0), (.int p1), .null, (.int p3), (.int p4), (.int p5), .null, .null, .null] 9)) (T10.setTop (mkF m 35 #[.val (.ref a0), .val (.int p1), .val .null, .val (.int p3), .val (.int p4), .val (.int p5), .val .null, .val (.ref aM), .val (.ref aB)] [(.ref a0)])) := fun t k => G12 t (XS.aloadN X10.here hx rfl (hb hby d3_34) rfl rfl k)
  have G14 : own_Go p.tables e below (s₁.setTop (entryFrame m #[(.ref a0), (.int p1), .null, (.int p3), (.int p4), (.int p5), .null, .null, .null] 9)) (T10.setTop (mkF m 36 #[.val (.ref a0), .val (.int p1), .val .null, .val (.int p3), .val (.int p4), .val (.int p5), .val .null, .val (.ref aM), .val (.ref aB)] [(.int p1), (.ref a0)])) := fun t k => G13 t (XS.iloadN X10.here hx rfl (hb hby d3_35) rfl k)
  have f15 : Exa Z T2.heap a0 "com/example/earnest_broker/earnestbroker/remoting/RemotingCommand" := (E_a0.keep Kq2)
  have f16 : Fld Z T2.heap a0 "com/example/earnest_broker/earnestbroker/remoting/RemotingCommand" "code" "I" (.int (0 : Int32)) := (F_code.keep Kq2 nin0)
  obtain ⟨T17, h17, X17, e17, W17, st17⟩ := putF X10 hx hZ hown (host := "") (Or.inl (hw _ (List.mem_of_getElem? (i := 22) rfl))) Via.refl e10 f16 f15 (Or.inr ⟨(hw _ (List.mem_of_getElem? (i := 23) rfl)), rfl, hnm⟩) (hw _ (List.mem_of_getElem? (i := 1) rfl)) (ty := .int) (by decide) rfl rfl (g := (mkF m 36 #[.val (.ref a0), .val (.int p1), .val .null, .val (.int p3), .val (.int p4), .val (.int p5), .val .null, .val (.ref aM), .val (.ref aB)] [(.int p1), (.ref a0)])) rfl rfl (hb hby d3_36)
  have Fw17 := f16.same W17
  have N17 := Fr.snoc X17 N2 gn_a0
  have O17 := O2.wr W17 gn_a0
  have K17 := K2.wr W17 (Or.inl (List.mem_of_getElem? (i := 0) rfl))
  have G17 : own_Go p.tables e below (s₁.setTop (entryFrame m #[(.ref a0), (.int p1), .null, (.int p3), (.int p4), (.int p5), .null, .null, .null] 9)) (T17.setTop (mkF m 39 #[.val (.ref a0), .val (.int p1), .val .null, .val (.int p3), .val (.int p4), .val (.int p5), .val .null, .val (.ref aM), .val (.ref aB)] [])) := fun t k => G14 t (st17 t k)
  have G18 : own_Go p.tables e below (s₁.setTop (entryFrame m #[(.ref a0), (.int p1), .null, (.int p3), (.int p4), (.int p5), .null, .null, .null] 9)) (T17.setTop (mkF m 40 #[.val (.ref a0), .val (.int p1), .val .null, .val (.int p3), .val (.int p4), .val (.int p5), .val .null, .val (.ref aM), .val (.ref aB)] [(.ref a0)])) := fun t k => G17 t (XS.aloadN X17.here hx rfl (hb hby d3_39) rfl rfl k)
  have G19 : own_Go p.tables e below (s₁.setTop (entryFrame m #[(.ref a0), (.int p1), .null, (.int p3), (.int p4), (.int p5), .null, .null, .null] 9)) (T17.setTop (mkF m 41 #[.val (.ref a0), .val (.int p1), .val .null, .val (.int p3), .val (.int p4), .val (.int p5), .val .null, .val (.ref aM), .val (.ref aB)] [.null, (.ref a0)])) := fun t k => G18 t (XS.aloadN X17.here hx rfl (hb hby d3_40) rfl rfl k)
  have f20 : Exa Z h17 a0 "com/example/earnest_broker/earnestbroker/remoting/RemotingCommand" := (f15.wr W17)
  have f21 : Fld Z h17 a0 "com/example/earnest_broker/earnestbroker/remoting/RemotingCommand" "language" "Ljava/lang/String;" .null := ((F_language.keep Kq2 nin0).other W17 (Or.inr (slot_ne (Or.inr (hw _ (List.mem_of_getElem? (i := 25) rfl))) (Or.inr (hw _ (List.mem_of_getElem? (i := 23) rfl))) (by decide) (t := (.object "java/lang/String")) (t' := .int) (by decide) (by decide))))
  obtain ⟨T22, h22, X22, e22, W22, st22⟩ := putF X17 hx hZ hown (host := "") (Or.inl (hw _ (List.mem_of_getElem? (i := 24) rfl))) Via.refl e17 f21 f20 (Or.inr ⟨(hw _ (List.mem_of_getElem? (i := 25) rfl)), rfl, hnm⟩) (hw _ (List.mem_of_getElem? (i := 1) rfl)) (ty := (.object "java/lang/String")) (by decide) rfl rfl (g := (mkF m 41 #[.val (.ref a0), .val (.int p1), .val .null, .val (.int p3), .val (.int p4), .val (.int p5), .val .null, .val (.ref aM), .val (.ref aB)] [.null, (.ref a0)])) rfl rfl (hb hby d3_41)
  have Fw22 := f21.same W22
  have N22 := Fr.snoc X22 N17 gn_a0
  have O22 := O17.wr W22 gn_a0
  have K22 := K17.wr W22 (Or.inl (List.mem_of_getElem? (i := 0) rfl))
  have G22 : own_Go p.tables e below (s₁.setTop (entryFrame m #[(.ref a0), (.int p1), .null, (.int p3), (.int p4), (.int p5), .null, .null, .null] 9)) (T22.setTop (mkF m 44 #[.val (.ref a0), .val (.int p1), .val .null, .val (.int p3), .val (.int p4), .val (.int p5), .val .null, .val (.ref aM), .val (.ref aB)] [])) := fun t k => G19 t (st22 t k)
  have G23 : own_Go p.tables e below (s₁.setTop (entryFrame m #[(.ref a0), (.int p1), .null, (.int p3), (.int p4), (.int p5), .null, .null, .null] 9)) (T22.setTop (mkF m 45 #[.val (.ref a0), .val (.int p1), .val .null, .val (.int p3), .val (.int p4), .val (.int p5), .val .null, .val (.ref aM), .val (.ref aB)] [(.ref a0)])) := fun t k => G22 t (XS.aloadN X22.here hx rfl (hb hby d3_44) rfl rfl k)
  have G24 : own_Go p.tables e below (s₁.setTop (entryFrame m #[(.ref a0), (.int p1), .null, (.int p3), (.int p4), (.int p5), .null, .null, .null] 9)) (T22.setTop (mkF m 46 #[.val (.ref a0), .val (.int p1), .val .null, .val (.int p3), .val (.int p4), .val (.int p5), .val .null, .val (.ref aM), .val (.ref aB)] [(.int p3), (.ref a0)])) := fun t k => G23 t (XS.iloadN X22.here hx rfl (hb hby d3_45) rfl k)
  have f25 : Exa Z h22 a0 "com/example/earnest_broker/earnestbroker/remoting/RemotingCommand" := (f20.wr W22)
  have f26 : Fld Z h22 a0 "com/example/earnest_broker/earnestbroker/remoting/RemotingCommand" "version" "I" (.int (0 : Int32)) := (((F_version.keep Kq2 nin0).other W17 (Or.inr (slot_ne (Or.inr (hw _ (List.mem_of_getElem? (i := 27) rfl))) (Or.inr (hw _ (List.mem_of_getElem? (i := 23) rfl))) (by decide) (t := .int) (t' := .int) (by decide) (by decide)))).other W22 (Or.inr (slot_ne (Or.inr (hw _ (List.mem_of_getElem? (i := 27) rfl))) (Or.inr (hw _ (List.mem_of_getElem? (i := 25) rfl))) (by decide) (t := .int) (t' := (.object "java/lang/String")) (by decide) (by decide))))
  obtain ⟨T27, h27, X27, e27, W27, st27⟩ := putF X22 hx hZ hown (host := "") (Or.inl (hw _ (List.mem_of_getElem? (i := 26) rfl))) Via.refl e22 f26 f25 (Or.inr ⟨(hw _ (List.mem_of_getElem? (i := 27) rfl)), rfl, hnm⟩) (hw _ (List.mem_of_getElem? (i := 1) rfl)) (ty := .int) (by decide) rfl rfl (g := (mkF m 46 #[.val (.ref a0), .val (.int p1), .val .null, .val (.int p3), .val (.int p4), .val (.int p5), .val .null, .val (.ref aM), .val (.ref aB)] [(.int p3), (.ref a0)])) rfl rfl (hb hby d3_46)
  have Fw27 := f26.same W27
  have N27 := Fr.snoc X27 N22 gn_a0
  have O27 := O22.wr W27 gn_a0
  have K27 := K22.wr W27 (Or.inl (List.mem_of_getElem? (i := 0) rfl))
  have G27 : own_Go p.tables e below (s₁.setTop (entryFrame m #[(.ref a0), (.int p1), .null, (.int p3), (.int p4), (.int p5), .null, .null, .null] 9)) (T27.setTop (mkF m 49 #[.val (.ref a0), .val (.int p1), .val .null, .val (.int p3), .val (.int p4), .val (.int p5), .val .null, .val (.ref aM), .val (.ref aB)] [])) := fun t k => G24 t (st27 t k)
  have G28 : own_Go p.tables e below (s₁.setTop (entryFrame m #[(.ref a0), (.int p1), .null, (.int p3), (.int p4), (.int p5), .null, .null, .null] 9)) (T27.setTop (mkF m 50 #[.val (.ref a0), .val (.int p1), .val .null, .val (.int p3), .val (.int p4), .val (.int p5), .val .null, .val (.ref aM), .val (.ref aB)] [(.ref a0)])) := fun t k => G27 t (XS.aloadN X27.here hx rfl (hb hby d3_49) rfl rfl k)
  have G29 : own_Go p.tables e below (s₁.setTop (entryFrame m #[(.ref a0), (.int p1), .null, (.int p3), (.int p4), (.int p5), .null, .null, .null] 9)) (T27.setTop (mkF m 52 #[.val (.ref a0), .val (.int p1), .val .null, .val (.int p3), .val (.int p4), .val (.int p5), .val .null, .val (.ref aM), .val (.ref aB)] [(.int p4), (.ref a0)])) := fun t k => G28 t (XS.iload X27.here hx rfl (hb hby d3_50) rfl k)
  have f30 : Exa Z h27 a0 "com/example/earnest_broker/earnestbroker/remoting/RemotingCommand" := (f25.wr W27)
  have f31 : Fld Z h27 a0 "com/example/earnest_broker/earnestbroker/remoting/RemotingCommand" "opaque" "I" (.int (0 : Int32)) := ((((F_opaque.keep Kq2 nin0).other W17 (Or.inr (slot_ne (Or.inr (hw _ (List.mem_of_getElem? (i := 29) rfl))) (Or.inr (hw _ (List.mem_of_getElem? (i := 23) rfl))) (by decide) (t := .int) (t' := .int) (by decide) (by decide)))).other W22 (Or.inr (slot_ne (Or.inr (hw _ (List.mem_of_getElem? (i := 29) rfl))) (Or.inr (hw _ (List.mem_of_getElem? (i := 25) rfl))) (by decide) (t := .int) (t' := (.object "java/lang/String")) (by decide) (by decide)))).other W27 (Or.inr (slot_ne (Or.inr (hw _ (List.mem_of_getElem? (i := 29) rfl))) (Or.inr (hw _ (List.mem_of_getElem? (i := 27) rfl))) (by decide) (t := .int) (t' := .int) (by decide) (by decide))))
  obtain ⟨T32, h32, X32, e32, W32, st32⟩ := putF X27 hx hZ hown (host := "") (Or.inl (hw _ (List.mem_of_getElem? (i := 28) rfl))) Via.refl e27 f31 f30 (Or.inr ⟨(hw _ (List.mem_of_getElem? (i := 29) rfl)), rfl, hnm⟩) (hw _ (List.mem_of_getElem? (i := 1) rfl)) (ty := .int) (by decide) rfl rfl (g := (mkF m 52 #[.val (.ref a0), .val (.int p1), .val .null, .val (.int p3), .val (.int p4), .val (.int p5), .val .null, .val (.ref aM), .val (.ref aB)] [(.int p4), (.ref a0)])) rfl rfl (hb hby d3_52)
  have Fw32 := f31.same W32
  have N32 := Fr.snoc X32 N27 gn_a0
  have O32 := O27.wr W32 gn_a0
  have K32 := K27.wr W32 (Or.inl (List.mem_of_getElem? (i := 0) rfl))
  have G32 : own_Go p.tables e below (s₁.setTop (entryFrame m #[(.ref a0), (.int p1), .null, (.int p3), (.int p4), (.int p5), .null, .null, .null] 9)) (T32.setTop (mkF m 55 #[.val (.ref a0), .val (.int p1), .val .null, .val (.int p3), .val (.int p4), .val (.int p5), .val .null, .val (.ref aM), .val (.ref aB)] [])) := fun t k => G29 t (st32 t k)
  have G33 : own_Go p.tables e below (s₁.setTop (entryFrame m #[(.ref a0), (.int p1), .null, (.int p3), (.int p4), (.int p5), .null, .null, .null] 9)) (T32.setTop (mkF m 56 #[.val (.ref a0), .val (.int p1), .val .null, .val (.int p3), .val (.int p4), .val (.int p5), .val .null, .val (.ref aM), .val (.ref aB)] [(.ref a0)])) := fun t k => G32 t (XS.aloadN X32.here hx rfl (hb hby d3_55) rfl rfl k)
  have G34 : own_Go p.tables e below (s₁.setTop (entryFrame m #[(.ref a0), (.int p1), .null, (.int p3), (.int p4), (.int p5), .null, .null, .null] 9)) (T32.setTop (mkF m 58 #[.val (.ref a0), .val (.int p1), .val .null, .val (.int p3), .val (.int p4), .val (.int p5), .val .null, .val (.ref aM), .val (.ref aB)] [(.int p5), (.ref a0)])) := fun t k => G33 t (XS.iload X32.here hx rfl (hb hby d3_56) rfl k)
  have f35 : Exa Z h32 a0 "com/example/earnest_broker/earnestbroker/remoting/RemotingCommand" := (f30.wr W32)
  have f36 : Fld Z h32 a0 "com/example/earnest_broker/earnestbroker/remoting/RemotingCommand" "flag" "I" (.int (0 : Int32)) := (((((F_flag.keep Kq2 nin0).other W17 (Or.inr (slot_ne (Or.inr (hw _ (List.mem_of_getElem? (i := 31) rfl))) (Or.inr (hw _ (List.mem_of_getElem? (i := 23) rfl))) (by decide) (t := .int) (t' := .int) (by decide) (by decide)))).other W22 (Or.inr (slot_ne (Or.inr (hw _ (List.mem_of_getElem? (i := 31) rfl))) (Or.inr (hw _ (List.mem_of_getElem? (i := 25) rfl))) (by decide) (t := .int) (t' := (.object "java/lang/String")) (by decide) (by decide)))).other W27 (Or.inr (slot_ne (Or.inr (hw _ (List.mem_of_getElem? (i := 31) rfl))) (Or.inr (hw _ (List.mem_of_getElem? (i := 27) rfl))) (by decide) (t := .int) (t' := .int) (by decide) (by decide)))).other W32 (Or.inr (slot_ne (Or.inr (hw _ (List.mem_of_getElem? (i := 31) rfl))) (Or.inr (hw _ (List.mem_of_getElem? (i := 29) rfl))) (by decide) (t := .int) (t' := .int) (by decide) (by decide))))
  obtain ⟨T37, h37, X37, e37, W37, st37⟩ := putF X32 hx hZ hown (host := "") (Or.inl (hw _ (List.mem_of_getElem? (i := 30) rfl))) Via.refl e32 f36 f35 (Or.inr ⟨(hw _ (List.mem_of_getElem? (i := 31) rfl)), rfl, hnm⟩) (hw _ (List.mem_of_getElem? (i := 1) rfl)) (ty := .int) (by decide) rfl rfl (g := (mkF m 58 #[.val (.ref a0), .val (.int p1), .val .null, .val (.int p3), .val (.int p4), .val (.int p5), .val .null, .val (.ref aM), .val (.ref aB)] [(.int p5), (.ref a0)])) rfl rfl (hb hby d3_58)
  have Fw37 := f36.same W37
  have N37 := Fr.snoc X37 N32 gn_a0
  have O37 := O32.wr W37 gn_a0
  have K37 := K32.wr W37 (Or.inl (List.mem_of_getElem? (i := 0) rfl))
  have G37 : own_Go p.tables e below (s₁.setTop (entryFrame m #[(.ref a0), (.int p1), .null, (.int p3), (.int p4), (.int p5), .null, .null, .null] 9)) (T37.setTop (mkF m 61 #[.val (.ref a0), .val (.int p1), .val .null, .val (.int p3), .val (.int p4), .val (.int p5), .val .null, .val (.ref aM), .val (.ref aB)] [])) := fun t k => G34 t (st37 t k)
  have G38 : own_Go p.tables e below (s₁.setTop (entryFrame m #[(.ref a0), (.int p1), .null, (.int p3), (.int p4), (.int p5), .null, .null, .null] 9)) (T37.setTop (mkF m 62 #[.val (.ref a0), .val (.int p1), .val .null, .val (.int p3), .val (.int p4), .val (.int p5), .val .null, .val (.ref aM), .val (.ref aB)] [(.ref a0)])) := fun t k => G37 t (XS.aloadN X37.here hx rfl (hb hby d3_61) rfl rfl k)
  have G39 : own_Go p.tables e below (s₁.setTop (entryFrame m #[(.ref a0), (.int p1), .null, (.int p3), (.int p4), (.int p5), .null, .null, .null] 9)) (T37.setTop (mkF m 64 #[.val (.ref a0), .val (.int p1), .val .null, .val (.int p3), .val (.int p4), .val (.int p5), .val .null, .val (.ref aM), .val (.ref aB)] [.null, (.ref a0)])) := fun t k => G38 t (XS.aload X37.here hx rfl (hb hby d3_62) rfl rfl k)
  have f40 : Exa Z h37 a0 "com/example/earnest_broker/earnestbroker/remoting/RemotingCommand" := (f35.wr W37)
  have f41 : Fld Z h37 a0 "com/example/earnest_broker/earnestbroker/remoting/RemotingCommand" "remark" "Ljava/lang/String;" .null := ((((((F_remark.keep Kq2 nin0).other W17 (Or.inr (slot_ne (Or.inr (hw _ (List.mem_of_getElem? (i := 33) rfl))) (Or.inr (hw _ (List.mem_of_getElem? (i := 23) rfl))) (by decide) (t := (.object "java/lang/String")) (t' := .int) (by decide) (by decide)))).other W22 (Or.inr (slot_ne (Or.inr (hw _ (List.mem_of_getElem? (i := 33) rfl))) (Or.inr (hw _ (List.mem_of_getElem? (i := 25) rfl))) (by decide) (t := (.object "java/lang/String")) (t' := (.object "java/lang/String")) (by decide) (by decide)))).other W27 (Or.inr (slot_ne (Or.inr (hw _ (List.mem_of_getElem? (i := 33) rfl))) (Or.inr (hw _ (List.mem_of_getElem? (i := 27) rfl))) (by decide) (t := (.object "java/lang/String")) (t' := .int) (by decide) (by decide)))).other W32 (Or.inr (slot_ne (Or.inr (hw _ (List.mem_of_getElem? (i := 33) rfl))) (Or.inr (hw _ (List.mem_of_getElem? (i := 29) rfl))) (by decide) (t := (.object "java/lang/String")) (t' := .int) (by decide) (by decide)))).other W37 (Or.inr (slot_ne (Or.inr (hw _ (List.mem_of_getElem? (i := 33) rfl))) (Or.inr (hw _ (List.mem_of_getElem? (i := 31) rfl))) (by decide) (t := (.object "java/lang/String")) (t' := .int) (by decide) (by decide))))
  obtain ⟨T42, h42, X42, e42, W42, st42⟩ := putF X37 hx hZ hown (host := "") (Or.inl (hw _ (List.mem_of_getElem? (i := 32) rfl))) Via.refl e37 f41 f40 (Or.inr ⟨(hw _ (List.mem_of_getElem? (i := 33) rfl)), rfl, hnm⟩) (hw _ (List.mem_of_getElem? (i := 1) rfl)) (ty := (.object "java/lang/String")) (by decide) rfl rfl (g := (mkF m 64 #[.val (.ref a0), .val (.int p1), .val .null, .val (.int p3), .val (.int p4), .val (.int p5), .val .null, .val (.ref aM), .val (.ref aB)] [.null, (.ref a0)])) rfl rfl (hb hby d3_64)
  have Fw42 := f41.same W42
  have N42 := Fr.snoc X42 N37 gn_a0
  have O42 := O37.wr W42 gn_a0
  have K42 := K37.wr W42 (Or.inl (List.mem_of_getElem? (i := 0) rfl))
  have G42 : own_Go p.tables e below (s₁.setTop (entryFrame m #[(.ref a0), (.int p1), .null, (.int p3), (.int p4), (.int p5), .null, .null, .null] 9)) (T42.setTop (mkF m 67 #[.val (.ref a0), .val (.int p1), .val .null, .val (.int p3), .val (.int p4), .val (.int p5), .val .null, .val (.ref aM), .val (.ref aB)] [])) := fun t k => G39 t (st42 t k)
  have G43 : own_Go p.tables e below (s₁.setTop (entryFrame m #[(.ref a0), (.int p1), .null, (.int p3), (.int p4), (.int p5), .null, .null, .null] 9)) (T42.setTop (mkF m 68 #[.val (.ref a0), .val (.int p1), .val .null, .val (.int p3), .val (.int p4), .val (.int p5), .val .null, .val (.ref aM), .val (.ref aB)] [(.ref a0)])) := fun t k => G42 t (XS.aloadN X42.here hx rfl (hb hby d3_67) rfl rfl k)
  have G44 : own_Go p.tables e below (s₁.setTop (entryFrame m #[(.ref a0), (.int p1), .null, (.int p3), (.int p4), (.int p5), .null, .null, .null] 9)) (T42.setTop (mkF m 70 #[.val (.ref a0), .val (.int p1), .val .null, .val (.int p3), .val (.int p4), .val (.int p5), .val .null, .val (.ref aM), .val (.ref aB)] [(.ref aM), (.ref a0)])) := fun t k => G43 t (XS.aload X42.here hx rfl (hb hby d3_68) rfl rfl k)
  have f45 : Exa Z h42 a0 "com/example/earnest_broker/earnestbroker/remoting/RemotingCommand" := (f40.wr W42)
  have f46 : Fld Z h42 a0 "com/example/earnest_broker/earnestbroker/remoting/RemotingCommand" "extFields" "Ljava/util/Map;" .null := (((((((F_extFields.keep Kq2 nin0).other W17 (Or.inr (slot_ne (Or.inr (hw _ (List.mem_of_getElem? (i := 35) rfl))) (Or.inr (hw _ (List.mem_of_getElem? (i := 23) rfl))) (by decide) (t := (.object "java/util/Map")) (t' := .int) (by decide) (by decide)))).other W22 (Or.inr (slot_ne (Or.inr (hw _ (List.mem_of_getElem? (i := 35) rfl))) (Or.inr (hw _ (List.mem_of_getElem? (i := 25) rfl))) (by decide) (t := (.object "java/util/Map")) (t' := (.object "java/lang/String")) (by decide) (by decide)))).other W27 (Or.inr (slot_ne (Or.inr (hw _ (List.mem_of_getElem? (i := 35) rfl))) (Or.inr (hw _ (List.mem_of_getElem? (i := 27) rfl))) (by decide) (t := (.object "java/util/Map")) (t' := .int) (by decide) (by decide)))).other W32 (Or.inr (slot_ne (Or.inr (hw _ (List.mem_of_getElem? (i := 35) rfl))) (Or.inr (hw _ (List.mem_of_getElem? (i := 29) rfl))) (by decide) (t := (.object "java/util/Map")) (t' := .int) (by decide) (by decide)))).other W37 (Or.inr (slot_ne (Or.inr (hw _ (List.mem_of_getElem? (i := 35) rfl))) (Or.inr (hw _ (List.mem_of_getElem? (i := 31) rfl))) (by decide) (t := (.object "java/util/Map")) (t' := .int) (by decide) (by decide)))).other W42 (Or.inr (slot_ne (Or.inr (hw _ (List.mem_of_getElem? (i := 35) rfl))) (Or.inr (hw _ (List.mem_of_getElem? (i := 33) rfl))) (by decide) (t := (.object "java/util/Map")) (t' := (.object "java/lang/String")) (by decide) (by decide))))
  obtain ⟨T47, h47, X47, e47, W47, st47⟩ := putF X42 hx hZ hown (host := "") (Or.inl (hw _ (List.mem_of_getElem? (i := 34) rfl))) Via.refl e42 f46 f45 (Or.inr ⟨(hw _ (List.mem_of_getElem? (i := 35) rfl)), rfl, hnm⟩) (hw _ (List.mem_of_getElem? (i := 1) rfl)) (ty := (.object "java/util/Map")) (by decide) rfl rfl (g := (mkF m 70 #[.val (.ref a0), .val (.int p1), .val .null, .val (.int p3), .val (.int p4), .val (.int p5), .val .null, .val (.ref aM), .val (.ref aB)] [(.ref aM), (.ref a0)])) rfl rfl (hb hby d3_70)
  have Fw47 := f46.same W47
  have N47 := Fr.snoc X47 N42 gn_a0
  have O47 := O42.wr W47 gn_a0
  have K47 := K42.wr W47 (Or.inl (List.mem_of_getElem? (i := 0) rfl))
  have G47 : own_Go p.tables e below (s₁.setTop (entryFrame m #[(.ref a0), (.int p1), .null, (.int p3), (.int p4), (.int p5), .null, .null, .null] 9)) (T47.setTop (mkF m 73 #[.val (.ref a0), .val (.int p1), .val .null, .val (.int p3), .val (.int p4), .val (.int p5), .val .null, .val (.ref aM), .val (.ref aB)] [])) := fun t k => G44 t (st47 t k)
  have G48 : own_Go p.tables e below (s₁.setTop (entryFrame m #[(.ref a0), (.int p1), .null, (.int p3), (.int p4), (.int p5), .null, .null, .null] 9)) (T47.setTop (mkF m 74 #[.val (.ref a0), .val (.int p1), .val .null, .val (.int p3), .val (.int p4), .val (.int p5), .val .null, .val (.ref aM), .val (.ref aB)] [(.ref a0)])) := fun t k => G47 t (XS.aloadN X47.here hx rfl (hb hby d3_73) rfl rfl k)
  have G49 : own_Go p.tables e below (s₁.setTop (entryFrame m #[(.ref a0), (.int p1), .null, (.int p3), (.int p4), (.int p5), .null, .null, .null] 9)) (T47.setTop (mkF m 76 #[.val (.ref a0), .val (.int p1), .val .null, .val (.int p3), .val (.int p4), .val (.int p5), .val .null, .val (.ref aM), .val (.ref aB)] [(.ref aB), (.ref a0)])) := fun t k => G48 t (XS.aload X47.here hx rfl (hb hby d3_74) rfl rfl k)
  have f50 : Exa Z h47 a0 "com/example/earnest_broker/earnestbroker/remoting/RemotingCommand" := (f45.wr W47)
  have f51 : Fld Z h47 a0 "com/example/earnest_broker/earnestbroker/remoting/RemotingCommand" "body" "[B" .null := ((((((((F_body.keep Kq2 nin0).other W17 (Or.inr (slot_ne (Or.inr (hw _ (List.mem_of_getElem? (i := 37) rfl))) (Or.inr (hw _ (List.mem_of_getElem? (i := 23) rfl))) (by decide) (t := (.array .byte)) (t' := .int) (by decide) (by decide)))).other W22 (Or.inr (slot_ne (Or.inr (hw _ (List.mem_of_getElem? (i := 37) rfl))) (Or.inr (hw _ (List.mem_of_getElem? (i := 25) rfl))) (by decide) (t := (.array .byte)) (t' := (.object "java/lang/String")) (by decide) (by decide)))).other W27 (Or.inr (slot_ne (Or.inr (hw _ (List.mem_of_getElem? (i := 37) rfl))) (Or.inr (hw _ (List.mem_of_getElem? (i := 27) rfl))) (by decide) (t := (.array .byte)) (t' := .int) (by decide) (by decide)))).other W32 (Or.inr (slot_ne (Or.inr (hw _ (List.mem_of_getElem? (i := 37) rfl))) (Or.inr (hw _ (List.mem_of_getElem? (i := 29) rfl))) (by decide) (t := (.array .byte)) (t' := .int) (by decide) (by decide)))).other W37 (Or.inr (slot_ne (Or.inr (hw _ (List.mem_of_getElem? (i := 37) rfl))) (Or.inr (hw _ (List.mem_of_getElem? (i := 31) rfl))) (by decide) (t := (.array .byte)) (t' := .int) (by decide) (by decide)))).other W42 (Or.inr (slot_ne (Or.inr (hw _ (List.mem_of_getElem? (i := 37) rfl))) (Or.inr (hw _ (List.mem_of_getElem? (i := 33) rfl))) (by decide) (t := (.array .byte)) (t' := (.object "java/lang/String")) (by decide) (by decide)))).other W47 (Or.inr (slot_ne (Or.inr (hw _ (List.mem_of_getElem? (i := 37) rfl))) (Or.inr (hw _ (List.mem_of_getElem? (i := 35) rfl))) (by decide) (t := (.array .byte)) (t' := (.object "java/util/Map")) (by decide) (by decide))))
  obtain ⟨T52, h52, X52, e52, W52, st52⟩ := putF X47 hx hZ hown (host := "") (Or.inl (hw _ (List.mem_of_getElem? (i := 36) rfl))) Via.refl e47 f51 f50 (Or.inr ⟨(hw _ (List.mem_of_getElem? (i := 37) rfl)), rfl, hnm⟩) (hw _ (List.mem_of_getElem? (i := 1) rfl)) (ty := (.array .byte)) (by decide) rfl rfl (g := (mkF m 76 #[.val (.ref a0), .val (.int p1), .val .null, .val (.int p3), .val (.int p4), .val (.int p5), .val .null, .val (.ref aM), .val (.ref aB)] [(.ref aB), (.ref a0)])) rfl rfl (hb hby d3_76)
  have Fw52 := f51.same W52
  have N52 := Fr.snoc X52 N47 gn_a0
  have O52 := O47.wr W52 gn_a0
  have K52 := K47.wr W52 (Or.inl (List.mem_of_getElem? (i := 0) rfl))
  have G52 : own_Go p.tables e below (s₁.setTop (entryFrame m #[(.ref a0), (.int p1), .null, (.int p3), (.int p4), (.int p5), .null, .null, .null] 9)) (T52.setTop (mkF m 79 #[.val (.ref a0), .val (.int p1), .val .null, .val (.int p3), .val (.int p4), .val (.int p5), .val .null, .val (.ref aM), .val (.ref aB)] [])) := fun t k => G49 t (st52 t k)
  obtain ⟨fs, hr, hrun, hended, hW, hsame⟩ := X52.leave (v := none) (fun _ => rfl)
  refine ⟨_, _, G52 _ ?_, hrun, hended, _, _, rfl, ?_, ⟨_, rfl⟩, hW, hsame.mono (by decide) (by decide)⟩
  · exact X52.returnOut hx Bd.returns (hb hby d3_79) hr
  · show Q3 Z a0 p1 p3 p4 p5 aM aB h0 _ T52.heap _
    rw [e52]
    have f54 : Exa Z h52 a0 "com/example/earnest_broker/earnestbroker/remoting/RemotingCommand" := (f50.wr W52)
    have f55 : Fld Z h52 a0 "com/example/earnest_broker/earnestbroker/remoting/RemotingCommand" "version" "I" (.int p3) := (((((Fw27.other W32 (Or.inr (slot_ne (Or.inr (hw _ (List.mem_of_getElem? (i := 27) rfl))) (Or.inr (hw _ (List.mem_of_getElem? (i := 29) rfl))) (by decide) (t := .int) (t' := .int) (by decide) (by decide)))).other W37 (Or.inr (slot_ne (Or.inr (hw _ (List.mem_of_getElem? (i := 27) rfl))) (Or.inr (hw _ (List.mem_of_getElem? (i := 31) rfl))) (by decide) (t := .int) (t' := .int) (by decide) (by decide)))).other W42 (Or.inr (slot_ne (Or.inr (hw _ (List.mem_of_getElem? (i := 27) rfl))) (Or.inr (hw _ (List.mem_of_getElem? (i := 33) rfl))) (by decide) (t := .int) (t' := (.object "java/lang/String")) (by decide) (by decide)))).other W47 (Or.inr (slot_ne (Or.inr (hw _ (List.mem_of_getElem? (i := 27) rfl))) (Or.inr (hw _ (List.mem_of_getElem? (i := 35) rfl))) (by decide) (t := .int) (t' := (.object "java/util/Map")) (by decide) (by decide)))).other W52 (Or.inr (slot_ne (Or.inr (hw _ (List.mem_of_getElem? (i := 27) rfl))) (Or.inr (hw _ (List.mem_of_getElem? (i := 37) rfl))) (by decide) (t := .int) (t' := (.array .byte)) (by decide) (by decide))))
    have f56 : Fld Z h52 a0 "com/example/earnest_broker/earnestbroker/remoting/RemotingCommand" "opaque" "I" (.int p4) := ((((Fw32.other W37 (Or.inr (slot_ne (Or.inr (hw _ (List.mem_of_getElem? (i := 29) rfl))) (Or.inr (hw _ (List.mem_of_getElem? (i := 31) rfl))) (by decide) (t := .int) (t' := .int) (by decide) (by decide)))).other W42 (Or.inr (slot_ne (Or.inr (hw _ (List.mem_of_getElem? (i := 29) rfl))) (Or.inr (hw _ (List.mem_of_getElem? (i := 33) rfl))) (by decide) (t := .int) (t' := (.object "java/lang/String")) (by decide) (by decide)))).other W47 (Or.inr (slot_ne (Or.inr (hw _ (List.mem_of_getElem? (i := 29) rfl))) (Or.inr (hw _ (List.mem_of_getElem? (i := 35) rfl))) (by decide) (t := .int) (t' := (.object "java/util/Map")) (by decide) (by decide)))).other W52 (Or.inr (slot_ne (Or.inr (hw _ (List.mem_of_getElem? (i := 29) rfl))) (Or.inr (hw _ (List.mem_of_getElem? (i := 37) rfl))) (by decide) (t := .int) (t' := (.array .byte)) (by decide) (by decide))))
    have f57 : Fld Z h52 a0 "com/example/earnest_broker/earnestbroker/remoting/RemotingCommand" "flag" "I" (.int p5) := (((Fw37.other W42 (Or.inr (slot_ne (Or.inr (hw _ (List.mem_of_getElem? (i := 31) rfl))) (Or.inr (hw _ (List.mem_of_getElem? (i := 33) rfl))) (by decide) (t := .int) (t' := (.object "java/lang/String")) (by decide) (by decide)))).other W47 (Or.inr (slot_ne (Or.inr (hw _ (List.mem_of_getElem? (i := 31) rfl))) (Or.inr (hw _ (List.mem_of_getElem? (i := 35) rfl))) (by decide) (t := .int) (t' := (.object "java/util/Map")) (by decide) (by decide)))).other W52 (Or.inr (slot_ne (Or.inr (hw _ (List.mem_of_getElem? (i := 31) rfl))) (Or.inr (hw _ (List.mem_of_getElem? (i := 37) rfl))) (by decide) (t := .int) (t' := (.array .byte)) (by decide) (by decide))))
    exact ⟨rfl, N52, K52, f54, f55, f56, f57⟩
theorem d4_0 : decode prog_17_method_1_code 0 = .ok (.aload_n 0, 1) := by decide +kernel
theorem d4_1 : decode prog_17_method_1_code 1 = .ok (.invokespecial 5, 3) := by decide +kernel
theorem d4_4 : decode prog_17_method_1_code 4 = .ok (.aload 7, 2) := by decide +kernel
theorem d4_6 : decode prog_17_method_1_code 6 = .ok (.ifnonnull 9, 3) := by decide +kernel
theorem d4_15 : decode prog_17_method_1_code 15 = .ok (.aload 7, 2) := by decide +kernel
theorem d4_17 : decode prog_17_method_1_code 17 = .ok (.astore 7, 2) := by decide +kernel
theorem d4_19 : decode prog_17_method_1_code 19 = .ok (.aload 8, 2) := by decide +kernel
theorem d4_21 : decode prog_17_method_1_code 21 = .ok (.ifnonnull 9, 3) := by decide +kernel
theorem d4_24 : decode prog_17_method_1_code 24 = .ok (.getstatic 17, 3) := by decide +kernel
theorem d4_27 : decode prog_17_method_1_code 27 = .ok (.goto 5, 3) := by decide +kernel
theorem d4_32 : decode prog_17_method_1_code 32 = .ok (.astore 8, 2) := by decide +kernel
theorem d4_34 : decode prog_17_method_1_code 34 = .ok (.aload_n 0, 1) := by decide +kernel
theorem d4_35 : decode prog_17_method_1_code 35 = .ok (.iload_n 1, 1) := by decide +kernel
theorem d4_36 : decode prog_17_method_1_code 36 = .ok (.putfield 21, 3) := by decide +kernel
theorem d4_39 : decode prog_17_method_1_code 39 = .ok (.aload_n 0, 1) := by decide +kernel
theorem d4_40 : decode prog_17_method_1_code 40 = .ok (.aload_n 2, 1) := by decide +kernel
theorem d4_41 : decode prog_17_method_1_code 41 = .ok (.putfield 25, 3) := by decide +kernel
theorem d4_44 : decode prog_17_method_1_code 44 = .ok (.aload_n 0, 1) := by decide +kernel
theorem d4_45 : decode prog_17_method_1_code 45 = .ok (.iload_n 3, 1) := by decide +kernel
theorem d4_46 : decode prog_17_method_1_code 46 = .ok (.putfield 29, 3) := by decide +kernel
theorem d4_49 : decode prog_17_method_1_code 49 = .ok (.aload_n 0, 1) := by decide +kernel
theorem d4_50 : decode prog_17_method_1_code 50 = .ok (.iload 4, 2) := by decide +kernel
theorem d4_52 : decode prog_17_method_1_code 52 = .ok (.putfield 32, 3) := by decide +kernel
theorem d4_55 : decode prog_17_method_1_code 55 = .ok (.aload_n 0, 1) := by decide +kernel
theorem d4_56 : decode prog_17_method_1_code 56 = .ok (.iload 5, 2) := by decide +kernel
theorem d4_58 : decode prog_17_method_1_code 58 = .ok (.putfield 35, 3) := by decide +kernel
theorem d4_61 : decode prog_17_method_1_code 61 = .ok (.aload_n 0, 1) := by decide +kernel
theorem d4_62 : decode prog_17_method_1_code 62 = .ok (.aload 6, 2) := by decide +kernel
theorem d4_64 : decode prog_17_method_1_code 64 = .ok (.putfield 38, 3) := by decide +kernel
theorem d4_67 : decode prog_17_method_1_code 67 = .ok (.aload_n 0, 1) := by decide +kernel
theorem d4_68 : decode prog_17_method_1_code 68 = .ok (.aload 7, 2) := by decide +kernel
theorem d4_70 : decode prog_17_method_1_code 70 = .ok (.putfield 41, 3) := by decide +kernel
theorem d4_73 : decode prog_17_method_1_code 73 = .ok (.aload_n 0, 1) := by decide +kernel
theorem d4_74 : decode prog_17_method_1_code 74 = .ok (.aload 8, 2) := by decide +kernel
theorem d4_76 : decode prog_17_method_1_code 76 = .ok (.putfield 45, 3) := by decide +kernel
theorem d4_79 : decode prog_17_method_1_code 79 = .ok (.return_, 1) := by decide +kernel
theorem pn_4 : plainName "com/example/earnest_broker/earnestbroker/remoting/RemotingCommand" = true := by first | (simp [plainName, overriddenIn]; done) | decide +kernel
theorem pd_4_0 : parseMethodDescriptor "()V" = some ⟨[], none⟩ := by decide +kernel
theorem ef_4 (m : MethodId) (a0 : Addr) (p1 : Int32) (a2 : Addr) (p3 : Int32) (p4 : Int32) (p5 : Int32) (a7 : Addr) : entryFrame m #[(.ref a0), (.int p1), (.ref a2), (.int p3), (.int p4), (.int p5), .null, (.ref a7), .null] 9 = mkF m 0 #[.val (.ref a0), .val (.int p1), .val (.ref a2), .val (.int p3), .val (.int p4), .val (.int p5), .val .null, .val (.ref a7), .val .null] [] := by first | (simp [entryFrame, mkF, argsToLocals, Value.category]; done) | rfl
def Q4 (Z : State) (a0 : Addr) (p1 : Int32) (a2 : Addr) (p3 : Int32) (p4 : Int32) (p5 : Int32) (a7 : Addr) (aM aB : Addr) (h0 : Heap) (v : Option Value) (h : Heap) (L : List Loc) : Prop := v = none ∧ Fr Z.heap.size L ∧ Keep h0 h [a0] ∧ (Exa Z h a0 "com/example/earnest_broker/earnestbroker/remoting/RemotingCommand") ∧ (Fld Z h a0 "com/example/earnest_broker/earnestbroker/remoting/RemotingCommand" "version" "I" (.int p3)) ∧ (Fld Z h a0 "com/example/earnest_broker/earnestbroker/remoting/RemotingCommand" "opaque" "I" (.int p4)) ∧ (Fld Z h a0 "com/example/earnest_broker/earnestbroker/remoting/RemotingCommand" "flag" "I" (.int p5))
set_option maxRecDepth 65536 in
set_option maxHeartbeats 40000000 in
theorem rm4 (l : Launch) (Z : State) (aw : Array Value) (hw : ∀ d ∈ tables_1, d.before aw Z = true) (ws : List Jvm.Cond) (a0 : Addr) (p1 : Int32) (a2 : Addr) (p3 : Int32) (p4 : Int32) (p5 : Int32) (a7 : Addr) (aM aB : Addr) (h0 : Heap) (O0 : Old Z Z.heap.size h0) (gn_a0 : Z.heap.size ≤ a0) (E_a0 : Exa Z h0 a0 "com/example/earnest_broker/earnestbroker/remoting/RemotingCommand") (F_code : Fld Z h0 a0 "com/example/earnest_broker/earnestbroker/remoting/RemotingCommand" "code" "I" (.int (0 : Int32))) (F_language : Fld Z h0 a0 "com/example/earnest_broker/earnestbroker/remoting/RemotingCommand" "language" "Ljava/lang/String;" .null) (F_version : Fld Z h0 a0 "com/example/earnest_broker/earnestbroker/remoting/RemotingCommand" "version" "I" (.int (0 : Int32))) (F_opaque : Fld Z h0 a0 "com/example/earnest_broker/earnestbroker/remoting/RemotingCommand" "opaque" "I" (.int (0 : Int32))) (F_flag : Fld Z h0 a0 "com/example/earnest_broker/earnestbroker/remoting/RemotingCommand" "flag" "I" (.int (0 : Int32))) (F_remark : Fld Z h0 a0 "com/example/earnest_broker/earnestbroker/remoting/RemotingCommand" "remark" "Ljava/lang/String;" .null) (F_extFields : Fld Z h0 a0 "com/example/earnest_broker/earnestbroker/remoting/RemotingCommand" "extFields" "Ljava/util/Map;" .null) (F_body : Fld Z h0 a0 "com/example/earnest_broker/earnestbroker/remoting/RemotingCommand" "body" "[B" .null) (S_M : Sta Z Z.heap "java/util/ImmutableCollections" "EMPTY_MAP" "Ljava/util/ImmutableCollections$MapN;" (.ref aM)) (S_B : Sta Z Z.heap "com/example/earnest_broker/earnestbroker/remoting/RemotingCommand" "NO_BODY" "[B" (.ref aB)) :
    MetFree l (⟨"com/example/earnest_broker/earnestbroker/remoting/RemotingCommand", "<init>", "(ILjava/lang/String;IIILjava/lang/String;Ljava/util/Map;[B)V"⟩ : MethodName) (head1 (Jvm.Cond.code (⟨"com/example/earnest_broker/earnestbroker/remoting/RemotingCommand", "<init>", "(ILjava/lang/String;IIILjava/lang/String;Ljava/util/Map;[B)V"⟩ : MethodName) prog_17_method_1_code 9 none :: ws) ({ frames := 2, cells := 0, slots := 0, locals := 24 } : Room)) (fun a U => a = #[(.ref a0), (.int p1), (.ref a2), (.int p3), (.int p4), (.int p5), .null, (.ref a7), .null] ∧ Z.Warmed39 U.vm ∧ U.heap = h0) (fun _ _ _ _ _ => True) (fun _ U o U' => ∃ v L, o = .returned v ∧ Q4 Z a0 p1 a2 p3 p4 p5 a7 aM aB h0 v U'.heap L ∧ FrameEnd U o U' L ({ frames := 2, cells := 0, slots := 0, locals := 24 } : Room).cells ({ frames := 2, cells := 0, slots := 0, locals := 24 } : Room).slots) := by
  refine MetFree.of_bodySF (plainFor_of_name pn_4) hisR ?_
  intro p e s m args below meth c s₁ Bd hml0 hP hK
  obtain ⟨rfl, hZ, hh⟩ := hP
  have hZ0 := hZ
  have hx := Bd.exec
  have hby := Bd.bytes
  have hml : c.maxLocals = 9 := hml0
  have hown : s.vm.findClass "com/example/earnest_broker/earnestbroker/remoting/RemotingCommand" = some m.cls := findClass_of_methodNamed Bd.named
  have hnm := (name_of_methodNamed Bd.named Bd.method).1
  have X0 : Stand p l e ({ frames := 2, cells := 0, slots := 0, locals := 24 } : Room) s m #[(.ref a0), (.int p1), (.ref a2), (.int p3), (.int p4), (.int p5), .null, (.ref a7), .null] below meth c s₁ [] 0 0 := Stand.of_body Bd
  have e0 : s₁.heap = h0 := by rw [← hh, Bd.state]; rfl
  have G0 : own_Go p.tables e below (s₁.setTop (entryFrame m #[(.ref a0), (.int p1), (.ref a2), (.int p3), (.int p4), (.int p5), .null, (.ref a7), .null] 9)) (s₁.setTop (mkF m 0 #[.val (.ref a0), .val (.int p1), .val (.ref a2), .val (.int p3), .val (.int p4), .val (.int p5), .val .null, .val (.ref a7), .val .null] [])) := fun t k => castTop (ef_4 m a0 p1 a2 p3 p4 p5 a7) k
  have N0 := Fr.nil Z.heap.size
  have K0 := Keep.refl h0 [a0]
  have G1 : own_Go p.tables e below (s₁.setTop (entryFrame m #[(.ref a0), (.int p1), (.ref a2), (.int p3), (.int p4), (.int p5), .null, (.ref a7), .null] 9)) (s₁.setTop (mkF m 1 #[.val (.ref a0), .val (.int p1), .val (.ref a2), .val (.int p3), .val (.int p4), .val (.int p5), .val .null, .val (.ref a7), .val .null] [(.ref a0)])) := fun t k => G0 t (XS.aloadN X0.here hx rfl (hb hby d4_0) rfl rfl k)
  obtain ⟨vv2, _, ⟨T2, L2, k2, n2⟩, -, X2, ⟨Lc2, hQ2, l2, y2, z2⟩, st2⟩ := X0.specialBack hx (y := (⟨"java/lang/Record", "<init>", "()V"⟩ : MethodName)) rfl hown (mvT hZ (hw _ (List.mem_of_getElem? (i := 6) rfl))) (mvT hZ (hw _ (List.mem_of_getElem? (i := 7) rfl))) (mvT hZ (hw _ (List.mem_of_getElem? (i := 10) rfl))) (by decide) (backOf (W := 0) (rm1 l Z aw hw [] a0  h0 O0   ) hZ (hw _ (List.mem_of_getElem? (i := 10) rfl)) (hw _ (List.mem_of_getElem? (i := 9) rfl)) (by decide) (by decide)) (g := (mkF m 1 #[.val (.ref a0), .val (.int p1), .val (.ref a2), .val (.int p3), .val (.int p4), .val (.int p5), .val .null, .val (.ref a7), .val .null] [(.ref a0)])) rfl (by rw [hml]; rfl) (Steps.refl _) (a := a0) (argsL := []) (rest := []) (lenOf pd_4_0 rfl) rfl (by show 2 * 0 + _ ≤ _; exact Nat.le_of_eq rfl) (hb hby d4_1) (fun _ _ => ⟨rfl, e0, (by decide : 0 + 0 ≤ _), (by decide : 0 + 0 ≤ _)⟩)
  dsimp only [Pt.U, Pt.locs, Pt.cells, Pt.slots] at X2 l2 y2 z2 st2 hQ2
  subst l2 y2 z2
  obtain ⟨rfl, Nq2, Kq2⟩ := hQ2
  have N2 := Fr.app N0 Nq2
  have O2 := O0.keep Kq2 all0
  have K2 := K0.trans Kq2 all0
  have G2 : own_Go p.tables e below (s₁.setTop (entryFrame m #[(.ref a0), (.int p1), (.ref a2), (.int p3), (.int p4), (.int p5), .null, (.ref a7), .null] 9)) (T2.setTop (mkF m 4 #[.val (.ref a0), .val (.int p1), .val (.ref a2), .val (.int p3), .val (.int p4), .val (.int p5), .val .null, .val (.ref a7), .val .null] [])) := fun t k => G1 t (st2.trans k)
  have G3 : own_Go p.tables e below (s₁.setTop (entryFrame m #[(.ref a0), (.int p1), (.ref a2), (.int p3), (.int p4), (.int p5), .null, (.ref a7), .null] 9)) (T2.setTop (mkF m 6 #[.val (.ref a0), .val (.int p1), .val (.ref a2), .val (.int p3), .val (.int p4), .val (.int p5), .val .null, .val (.ref a7), .val .null] [(.ref a7)])) := fun t k => G2 t (XS.aload X2.here hx rfl (hb hby d4_4) rfl rfl k)
  have G4 : own_Go p.tables e below (s₁.setTop (entryFrame m #[(.ref a0), (.int p1), (.ref a2), (.int p3), (.int p4), (.int p5), .null, (.ref a7), .null] 9)) (T2.setTop (mkF m 15 #[.val (.ref a0), .val (.int p1), .val (.ref a2), .val (.int p3), .val (.int p4), .val (.int p5), .val .null, .val (.ref a7), .val .null] [])) := fun t k => G3 t (XS.ifnonnullYes X2.here hx rfl (pc0 := 6) (pc' := 15) rfl (hb hby d4_6) rfl (by decide) (by decide) k)
  have G5 : own_Go p.tables e below (s₁.setTop (entryFrame m #[(.ref a0), (.int p1), (.ref a2), (.int p3), (.int p4), (.int p5), .null, (.ref a7), .null] 9)) (T2.setTop (mkF m 17 #[.val (.ref a0), .val (.int p1), .val (.ref a2), .val (.int p3), .val (.int p4), .val (.int p5), .val .null, .val (.ref a7), .val .null] [(.ref a7)])) := fun t k => G4 t (XS.aload X2.here hx rfl (hb hby d4_15) rfl rfl k)
  have G6 : own_Go p.tables e below (s₁.setTop (entryFrame m #[(.ref a0), (.int p1), (.ref a2), (.int p3), (.int p4), (.int p5), .null, (.ref a7), .null] 9)) (T2.setTop (mkF m 19 #[.val (.ref a0), .val (.int p1), .val (.ref a2), .val (.int p3), .val (.int p4), .val (.int p5), .val .null, .val (.ref a7), .val .null] [])) := fun t k => G5 t (XS.astore X2.here hx rfl (hb hby d4_17) rfl rfl (l' := #[.val (.ref a0), .val (.int p1), .val (.ref a2), .val (.int p3), .val (.int p4), .val (.int p5), .val .null, .val (.ref a7), .val .null]) rfl k)
  have G7 : own_Go p.tables e below (s₁.setTop (entryFrame m #[(.ref a0), (.int p1), (.ref a2), (.int p3), (.int p4), (.int p5), .null, (.ref a7), .null] 9)) (T2.setTop (mkF m 21 #[.val (.ref a0), .val (.int p1), .val (.ref a2), .val (.int p3), .val (.int p4), .val (.int p5), .val .null, .val (.ref a7), .val .null] [.null])) := fun t k => G6 t (XS.aload X2.here hx rfl (hb hby d4_19) rfl rfl k)
  have G8 : own_Go p.tables e below (s₁.setTop (entryFrame m #[(.ref a0), (.int p1), (.ref a2), (.int p3), (.int p4), (.int p5), .null, (.ref a7), .null] 9)) (T2.setTop (mkF m 24 #[.val (.ref a0), .val (.int p1), .val (.ref a2), .val (.int p3), .val (.int p4), .val (.int p5), .val .null, .val (.ref a7), .val .null] [])) := fun t k => G7 t (XS.ifnonnullNo X2.here hx rfl (hb hby d4_21) rfl k)
  obtain ⟨T9, X9, e9, st9⟩ := getS2 X2 hx hZ hown (host := "") (Or.inl (hw _ (List.mem_of_getElem? (i := 20) rfl))) Via.refl rfl (S_B.ext O2.2) (g := (mkF m 24 #[.val (.ref a0), .val (.int p1), .val (.ref a2), .val (.int p3), .val (.int p4), .val (.int p5), .val .null, .val (.ref a7), .val .null] [])) rfl (hb hby d4_24)
  have G9 : own_Go p.tables e below (s₁.setTop (entryFrame m #[(.ref a0), (.int p1), (.ref a2), (.int p3), (.int p4), (.int p5), .null, (.ref a7), .null] 9)) (T9.setTop (mkF m 27 #[.val (.ref a0), .val (.int p1), .val (.ref a2), .val (.int p3), .val (.int p4), .val (.int p5), .val .null, .val (.ref a7), .val .null] [(.ref aB)])) := fun t k => G8 t (st9 t k)
  have G10 : own_Go p.tables e below (s₁.setTop (entryFrame m #[(.ref a0), (.int p1), (.ref a2), (.int p3), (.int p4), (.int p5), .null, (.ref a7), .null] 9)) (T9.setTop (mkF m 32 #[.val (.ref a0), .val (.int p1), .val (.ref a2), .val (.int p3), .val (.int p4), .val (.int p5), .val .null, .val (.ref a7), .val .null] [(.ref aB)])) := fun t k => G9 t (XS.goto X9.here hx rfl (pc0 := 27) (pc' := 32) rfl (hb hby d4_27) (by decide) (by decide) k)
  have G11 : own_Go p.tables e below (s₁.setTop (entryFrame m #[(.ref a0), (.int p1), (.ref a2), (.int p3), (.int p4), (.int p5), .null, (.ref a7), .null] 9)) (T9.setTop (mkF m 34 #[.val (.ref a0), .val (.int p1), .val (.ref a2), .val (.int p3), .val (.int p4), .val (.int p5), .val .null, .val (.ref a7), .val (.ref aB)] [])) := fun t k => G10 t (XS.astore X9.here hx rfl (hb hby d4_32) rfl rfl (l' := #[.val (.ref a0), .val (.int p1), .val (.ref a2), .val (.int p3), .val (.int p4), .val (.int p5), .val .null, .val (.ref a7), .val (.ref aB)]) rfl k)
  have G12 : own_Go p.tables e below (s₁.setTop (entryFrame m #[(.ref a0), (.int p1), (.ref a2), (.int p3), (.int p4), (.int p5), .null, (.ref a7), .null] 9)) (T9.setTop (mkF m 35 #[.val (.ref a0), .val (.int p1), .val (.ref a2), .val (.int p3), .val (.int p4), .val (.int p5), .val .null, .val (.ref a7), .val (.ref aB)] [(.ref a0)])) := fun t k => G11 t (XS.aloadN X9.here hx rfl (hb hby d4_34) rfl rfl k)
  have G13 : own_Go p.tables e below (s₁.setTop (entryFrame m #[(.ref a0), (.int p1), (.ref a2), (.int p3), (.int p4), (.int p5), .null, (.ref a7), .null] 9)) (T9.setTop (mkF m 36 #[.val (.ref a0), .val (.int p1), .val (.ref a2), .val (.int p3), .val (.int p4), .val (.int p5), .val .null, .val (.ref a7), .val (.ref aB)] [(.int p1), (.ref a0)])) := fun t k => G12 t (XS.iloadN X9.here hx rfl (hb hby d4_35) rfl k)
  have f14 : Exa Z T2.heap a0 "com/example/earnest_broker/earnestbroker/remoting/RemotingCommand" := (E_a0.keep Kq2)
  have f15 : Fld Z T2.heap a0 "com/example/earnest_broker/earnestbroker/remoting/RemotingCommand" "code" "I" (.int (0 : Int32)) := (F_code.keep Kq2 nin0)
  obtain ⟨T16, h16, X16, e16, W16, st16⟩ := putF X9 hx hZ hown (host := "") (Or.inl (hw _ (List.mem_of_getElem? (i := 22) rfl))) Via.refl e9 f15 f14 (Or.inr ⟨(hw _ (List.mem_of_getElem? (i := 23) rfl)), rfl, hnm⟩) (hw _ (List.mem_of_getElem? (i := 1) rfl)) (ty := .int) (by decide) rfl rfl (g := (mkF m 36 #[.val (.ref a0), .val (.int p1), .val (.ref a2), .val (.int p3), .val (.int p4), .val (.int p5), .val .null, .val (.ref a7), .val (.ref aB)] [(.int p1), (.ref a0)])) rfl rfl (hb hby d4_36)
  have Fw16 := f15.same W16
  have N16 := Fr.snoc X16 N2 gn_a0
  have O16 := O2.wr W16 gn_a0
  have K16 := K2.wr W16 (Or.inl (List.mem_of_getElem? (i := 0) rfl))
  have G16 : own_Go p.tables e below (s₁.setTop (entryFrame m #[(.ref a0), (.int p1), (.ref a2), (.int p3), (.int p4), (.int p5), .null, (.ref a7), .null] 9)) (T16.setTop (mkF m 39 #[.val (.ref a0), .val (.int p1), .val (.ref a2), .val (.int p3), .val (.int p4), .val (.int p5), .val .null, .val (.ref a7), .val (.ref aB)] [])) := fun t k => G13 t (st16 t k)
  have G17 : own_Go p.tables e below (s₁.setTop (entryFrame m #[(.ref a0), (.int p1), (.ref a2), (.int p3), (.int p4), (.int p5), .null, (.ref a7), .null] 9)) (T16.setTop (mkF m 40 #[.val (.ref a0), .val (.int p1), .val (.ref a2), .val (.int p3), .val (.int p4), .val (.int p5), .val .null, .val (.ref a7), .val (.ref aB)] [(.ref a0)])) := fun t k => G16 t (XS.aloadN X16.here hx rfl (hb hby d4_39) rfl rfl k)
  have G18 : own_Go p.tables e below (s₁.setTop (entryFrame m #[(.ref a0), (.int p1), (.ref a2), (.int p3), (.int p4), (.int p5), .null, (.ref a7), .null] 9)) (T16.setTop (mkF m 41 #[.val (.ref a0), .val (.int p1), .val (.ref a2), .val (.int p3), .val (.int p4), .val (.int p5), .val .null, .val (.ref a7), .val (.ref aB)] [(.ref a2), (.ref a0)])) := fun t k => G17 t (XS.aloadN X16.here hx rfl (hb hby d4_40) rfl rfl k)
  have f19 : Exa Z h16 a0 "com/example/earnest_broker/earnestbroker/remoting/RemotingCommand" := (f14.wr W16)
  have f20 : Fld Z h16 a0 "com/example/earnest_broker/earnestbroker/remoting/RemotingCommand" "language" "Ljava/lang/String;" .null := ((F_language.keep Kq2 nin0).other W16 (Or.inr (slot_ne (Or.inr (hw _ (List.mem_of_getElem? (i := 25) rfl))) (Or.inr (hw _ (List.mem_of_getElem? (i := 23) rfl))) (by decide) (t := (.object "java/lang/String")) (t' := .int) (by decide) (by decide))))
  obtain ⟨T21, h21, X21, e21, W21, st21⟩ := putF X16 hx hZ hown (host := "") (Or.inl (hw _ (List.mem_of_getElem? (i := 24) rfl))) Via.refl e16 f20 f19 (Or.inr ⟨(hw _ (List.mem_of_getElem? (i := 25) rfl)), rfl, hnm⟩) (hw _ (List.mem_of_getElem? (i := 1) rfl)) (ty := (.object "java/lang/String")) (by decide) rfl rfl (g := (mkF m 41 #[.val (.ref a0), .val (.int p1), .val (.ref a2), .val (.int p3), .val (.int p4), .val (.int p5), .val .null, .val (.ref a7), .val (.ref aB)] [(.ref a2), (.ref a0)])) rfl rfl (hb hby d4_41)
  have Fw21 := f20.same W21
  have N21 := Fr.snoc X21 N16 gn_a0
  have O21 := O16.wr W21 gn_a0
  have K21 := K16.wr W21 (Or.inl (List.mem_of_getElem? (i := 0) rfl))
  have G21 : own_Go p.tables e below (s₁.setTop (entryFrame m #[(.ref a0), (.int p1), (.ref a2), (.int p3), (.int p4), (.int p5), .null, (.ref a7), .null] 9)) (T21.setTop (mkF m 44 #[.val (.ref a0), .val (.int p1), .val (.ref a2), .val (.int p3), .val (.int p4), .val (.int p5), .val .null, .val (.ref a7), .val (.ref aB)] [])) := fun t k => G18 t (st21 t k)
  have G22 : own_Go p.tables e below (s₁.setTop (entryFrame m #[(.ref a0), (.int p1), (.ref a2), (.int p3), (.int p4), (.int p5), .null, (.ref a7), .null] 9)) (T21.setTop (mkF m 45 #[.val (.ref a0), .val (.int p1), .val (.ref a2), .val (.int p3), .val (.int p4), .val (.int p5), .val .null, .val (.ref a7), .val (.ref aB)] [(.ref a0)])) := fun t k => G21 t (XS.aloadN X21.here hx rfl (hb hby d4_44) rfl rfl k)
  have G23 : own_Go p.tables e below (s₁.setTop (entryFrame m #[(.ref a0), (.int p1), (.ref a2), (.int p3), (.int p4), (.int p5), .null, (.ref a7), .null] 9)) (T21.setTop (mkF m 46 #[.val (.ref a0), .val (.int p1), .val (.ref a2), .val (.int p3), .val (.int p4), .val (.int p5), .val .null, .val (.ref a7), .val (.ref aB)] [(.int p3), (.ref a0)])) := fun t k => G22 t (XS.iloadN X21.here hx rfl (hb hby d4_45) rfl k)
  have f24 : Exa Z h21 a0 "com/example/earnest_broker/earnestbroker/remoting/RemotingCommand" := (f19.wr W21)
  have f25 : Fld Z h21 a0 "com/example/earnest_broker/earnestbroker/remoting/RemotingCommand" "version" "I" (.int (0 : Int32)) := (((F_version.keep Kq2 nin0).other W16 (Or.inr (slot_ne (Or.inr (hw _ (List.mem_of_getElem? (i := 27) rfl))) (Or.inr (hw _ (List.mem_of_getElem? (i := 23) rfl))) (by decide) (t := .int) (t' := .int) (by decide) (by decide)))).other W21 (Or.inr (slot_ne (Or.inr (hw _ (List.mem_of_getElem? (i := 27) rfl))) (Or.inr (hw _ (List.mem_of_getElem? (i := 25) rfl))) (by decide) (t := .int) (t' := (.object "java/lang/String")) (by decide) (by decide))))
  obtain ⟨T26, h26, X26, e26, W26, st26⟩ := putF X21 hx hZ hown (host := "") (Or.inl (hw _ (List.mem_of_getElem? (i := 26) rfl))) Via.refl e21 f25 f24 (Or.inr ⟨(hw _ (List.mem_of_getElem? (i := 27) rfl)), rfl, hnm⟩) (hw _ (List.mem_of_getElem? (i := 1) rfl)) (ty := .int) (by decide) rfl rfl (g := (mkF m 46 #[.val (.ref a0), .val (.int p1), .val (.ref a2), .val (.int p3), .val (.int p4), .val (.int p5), .val .null, .val (.ref a7), .val (.ref aB)] [(.int p3), (.ref a0)])) rfl rfl (hb hby d4_46)
  have Fw26 := f25.same W26
  have N26 := Fr.snoc X26 N21 gn_a0
  have O26 := O21.wr W26 gn_a0
  have K26 := K21.wr W26 (Or.inl (List.mem_of_getElem? (i := 0) rfl))
  have G26 : own_Go p.tables e below (s₁.setTop (entryFrame m #[(.ref a0), (.int p1), (.ref a2), (.int p3), (.int p4), (.int p5), .null, (.ref a7), .null] 9)) (T26.setTop (mkF m 49 #[.val (.ref a0), .val (.int p1), .val (.ref a2), .val (.int p3), .val (.int p4), .val (.int p5), .val .null, .val (.ref a7), .val (.ref aB)] [])) := fun t k => G23 t (st26 t k)
  have G27 : own_Go p.tables e below (s₁.setTop (entryFrame m #[(.ref a0), (.int p1), (.ref a2), (.int p3), (.int p4), (.int p5), .null, (.ref a7), .null] 9)) (T26.setTop (mkF m 50 #[.val (.ref a0), .val (.int p1), .val (.ref a2), .val (.int p3), .val (.int p4), .val (.int p5), .val .null, .val (.ref a7), .val (.ref aB)] [(.ref a0)])) := fun t k => G26 t (XS.aloadN X26.here hx rfl (hb hby d4_49) rfl rfl k)
  have G28 : own_Go p.tables e below (s₁.setTop (entryFrame m #[(.ref a0), (.int p1), (.ref a2), (.int p3), (.int p4), (.int p5), .null, (.ref a7), .null] 9)) (T26.setTop (mkF m 52 #[.val (.ref a0), .val (.int p1), .val (.ref a2), .val (.int p3), .val (.int p4), .val (.int p5), .val .null, .val (.ref a7), .val (.ref aB)] [(.int p4), (.ref a0)])) := fun t k => G27 t (XS.iload X26.here hx rfl (hb hby d4_50) rfl k)
  have f29 : Exa Z h26 a0 "com/example/earnest_broker/earnestbroker/remoting/RemotingCommand" := (f24.wr W26)
  have f30 : Fld Z h26 a0 "com/example/earnest_broker/earnestbroker/remoting/RemotingCommand" "opaque" "I" (.int (0 : Int32)) := ((((F_opaque.keep Kq2 nin0).other W16 (Or.inr (slot_ne (Or.inr (hw _ (List.mem_of_getElem? (i := 29) rfl))) (Or.inr (hw _ (List.mem_of_getElem? (i := 23) rfl))) (by decide) (t := .int) (t' := .int) (by decide) (by decide)))).other W21 (Or.inr (slot_ne (Or.inr (hw _ (List.mem_of_getElem? (i := 29) rfl))) (Or.inr (hw _ (List.mem_of_getElem? (i := 25) rfl))) (by decide) (t := .int) (t' := (.object "java/lang/String")) (by decide) (by decide)))).other W26 (Or.inr (slot_ne (Or.inr (hw _ (List.mem_of_getElem? (i := 29) rfl))) (Or.inr (hw _ (List.mem_of_getElem? (i := 27) rfl))) (by decide) (t := .int) (t' := .int) (by decide) (by decide))))
  obtain ⟨T31, h31, X31, e31, W31, st31⟩ := putF X26 hx hZ hown (host := "") (Or.inl (hw _ (List.mem_of_getElem? (i := 28) rfl))) Via.refl e26 f30 f29 (Or.inr ⟨(hw _ (List.mem_of_getElem? (i := 29) rfl)), rfl, hnm⟩) (hw _ (List.mem_of_getElem? (i := 1) rfl)) (ty := .int) (by decide) rfl rfl (g := (mkF m 52 #[.val (.ref a0), .val (.int p1), .val (.ref a2), .val (.int p3), .val (.int p4), .val (.int p5), .val .null, .val (.ref a7), .val (.ref aB)] [(.int p4), (.ref a0)])) rfl rfl (hb hby d4_52)
  have Fw31 := f30.same W31
  have N31 := Fr.snoc X31 N26 gn_a0
  have O31 := O26.wr W31 gn_a0
  have K31 := K26.wr W31 (Or.inl (List.mem_of_getElem? (i := 0) rfl))
  have G31 : own_Go p.tables e below (s₁.setTop (entryFrame m #[(.ref a0), (.int p1), (.ref a2), (.int p3), (.int p4), (.int p5), .null, (.ref a7), .null] 9)) (T31.setTop (mkF m 55 #[.val (.ref a0), .val (.int p1), .val (.ref a2), .val (.int p3), .val (.int p4), .val (.int p5), .val .null, .val (.ref a7), .val (.ref aB)] [])) := fun t k => G28 t (st31 t k)
  have G32 : own_Go p.tables e below (s₁.setTop (entryFrame m #[(.ref a0), (.int p1), (.ref a2), (.int p3), (.int p4), (.int p5), .null, (.ref a7), .null] 9)) (T31.setTop (mkF m 56 #[.val (.ref a0), .val (.int p1), .val (.ref a2), .val (.int p3), .val (.int p4), .val (.int p5), .val .null, .val (.ref a7), .val (.ref aB)] [(.ref a0)])) := fun t k => G31 t (XS.aloadN X31.here hx rfl (hb hby d4_55) rfl rfl k)
  have G33 : own_Go p.tables e below (s₁.setTop (entryFrame m #[(.ref a0), (.int p1), (.ref a2), (.int p3), (.int p4), (.int p5), .null, (.ref a7), .null] 9)) (T31.setTop (mkF m 58 #[.val (.ref a0), .val (.int p1), .val (.ref a2), .val (.int p3), .val (.int p4), .val (.int p5), .val .null, .val (.ref a7), .val (.ref aB)] [(.int p5), (.ref a0)])) := fun t k => G32 t (XS.iload X31.here hx rfl (hb hby d4_56) rfl k)
  have f34 : Exa Z h31 a0 "com/example/earnest_broker/earnestbroker/remoting/RemotingCommand" := (f29.wr W31)
  have f35 : Fld Z h31 a0 "com/example/earnest_broker/earnestbroker/remoting/RemotingCommand" "flag" "I" (.int (0 : Int32)) := (((((F_flag.keep Kq2 nin0).other W16 (Or.inr (slot_ne (Or.inr (hw _ (List.mem_of_getElem? (i := 31) rfl))) (Or.inr (hw _ (List.mem_of_getElem? (i := 23) rfl))) (by decide) (t := .int) (t' := .int) (by decide) (by decide)))).other W21 (Or.inr (slot_ne (Or.inr (hw _ (List.mem_of_getElem? (i := 31) rfl))) (Or.inr (hw _ (List.mem_of_getElem? (i := 25) rfl))) (by decide) (t := .int) (t' := (.object "java/lang/String")) (by decide) (by decide)))).other W26 (Or.inr (slot_ne (Or.inr (hw _ (List.mem_of_getElem? (i := 31) rfl))) (Or.inr (hw _ (List.mem_of_getElem? (i := 27) rfl))) (by decide) (t := .int) (t' := .int) (by decide) (by decide)))).other W31 (Or.inr (slot_ne (Or.inr (hw _ (List.mem_of_getElem? (i := 31) rfl))) (Or.inr (hw _ (List.mem_of_getElem? (i := 29) rfl))) (by decide) (t := .int) (t' := .int) (by decide) (by decide))))
  obtain ⟨T36, h36, X36, e36, W36, st36⟩ := putF X31 hx hZ hown (host := "") (Or.inl (hw _ (List.mem_of_getElem? (i := 30) rfl))) Via.refl e31 f35 f34 (Or.inr ⟨(hw _ (List.mem_of_getElem? (i := 31) rfl)), rfl, hnm⟩) (hw _ (List.mem_of_getElem? (i := 1) rfl)) (ty := .int) (by decide) rfl rfl (g := (mkF m 58 #[.val (.ref a0), .val (.int p1), .val (.ref a2), .val (.int p3), .val (.int p4), .val (.int p5), .val .null, .val (.ref a7), .val (.ref aB)] [(.int p5), (.ref a0)])) rfl rfl (hb hby d4_58)
  have Fw36 := f35.same W36
  have N36 := Fr.snoc X36 N31 gn_a0
  have O36 := O31.wr W36 gn_a0
  have K36 := K31.wr W36 (Or.inl (List.mem_of_getElem? (i := 0) rfl))
  have G36 : own_Go p.tables e below (s₁.setTop (entryFrame m #[(.ref a0), (.int p1), (.ref a2), (.int p3), (.int p4), (.int p5), .null, (.ref a7), .null] 9)) (T36.setTop (mkF m 61 #[.val (.ref a0), .val (.int p1), .val (.ref a2), .val (.int p3), .val (.int p4), .val (.int p5), .val .null, .val (.ref a7), .val (.ref aB)] [])) := fun t k => G33 t (st36 t k)
  have G37 : own_Go p.tables e below (s₁.setTop (entryFrame m #[(.ref a0), (.int p1), (.ref a2), (.int p3), (.int p4), (.int p5), .null, (.ref a7), .null] 9)) (T36.setTop (mkF m 62 #[.val (.ref a0), .val (.int p1), .val (.ref a2), .val (.int p3), .val (.int p4), .val (.int p5), .val .null, .val (.ref a7), .val (.ref aB)] [(.ref a0)])) := fun t k => G36 t (XS.aloadN X36.here hx rfl (hb hby d4_61) rfl rfl k)
  have G38 : own_Go p.tables e below (s₁.setTop (entryFrame m #[(.ref a0), (.int p1), (.ref a2), (.int p3), (.int p4), (.int p5), .null, (.ref a7), .null] 9)) (T36.setTop (mkF m 64 #[.val (.ref a0), .val (.int p1), .val (.ref a2), .val (.int p3), .val (.int p4), .val (.int p5), .val .null, .val (.ref a7), .val (.ref aB)] [.null, (.ref a0)])) := fun t k => G37 t (XS.aload X36.here hx rfl (hb hby d4_62) rfl rfl k)
  have f39 : Exa Z h36 a0 "com/example/earnest_broker/earnestbroker/remoting/RemotingCommand" := (f34.wr W36)
  have f40 : Fld Z h36 a0 "com/example/earnest_broker/earnestbroker/remoting/RemotingCommand" "remark" "Ljava/lang/String;" .null := ((((((F_remark.keep Kq2 nin0).other W16 (Or.inr (slot_ne (Or.inr (hw _ (List.mem_of_getElem? (i := 33) rfl))) (Or.inr (hw _ (List.mem_of_getElem? (i := 23) rfl))) (by decide) (t := (.object "java/lang/String")) (t' := .int) (by decide) (by decide)))).other W21 (Or.inr (slot_ne (Or.inr (hw _ (List.mem_of_getElem? (i := 33) rfl))) (Or.inr (hw _ (List.mem_of_getElem? (i := 25) rfl))) (by decide) (t := (.object "java/lang/String")) (t' := (.object "java/lang/String")) (by decide) (by decide)))).other W26 (Or.inr (slot_ne (Or.inr (hw _ (List.mem_of_getElem? (i := 33) rfl))) (Or.inr (hw _ (List.mem_of_getElem? (i := 27) rfl))) (by decide) (t := (.object "java/lang/String")) (t' := .int) (by decide) (by decide)))).other W31 (Or.inr (slot_ne (Or.inr (hw _ (List.mem_of_getElem? (i := 33) rfl))) (Or.inr (hw _ (List.mem_of_getElem? (i := 29) rfl))) (by decide) (t := (.object "java/lang/String")) (t' := .int) (by decide) (by decide)))).other W36 (Or.inr (slot_ne (Or.inr (hw _ (List.mem_of_getElem? (i := 33) rfl))) (Or.inr (hw _ (List.mem_of_getElem? (i := 31) rfl))) (by decide) (t := (.object "java/lang/String")) (t' := .int) (by decide) (by decide))))
  obtain ⟨T41, h41, X41, e41, W41, st41⟩ := putF X36 hx hZ hown (host := "") (Or.inl (hw _ (List.mem_of_getElem? (i := 32) rfl))) Via.refl e36 f40 f39 (Or.inr ⟨(hw _ (List.mem_of_getElem? (i := 33) rfl)), rfl, hnm⟩) (hw _ (List.mem_of_getElem? (i := 1) rfl)) (ty := (.object "java/lang/String")) (by decide) rfl rfl (g := (mkF m 64 #[.val (.ref a0), .val (.int p1), .val (.ref a2), .val (.int p3), .val (.int p4), .val (.int p5), .val .null, .val (.ref a7), .val (.ref aB)] [.null, (.ref a0)])) rfl rfl (hb hby d4_64)
  have Fw41 := f40.same W41
  have N41 := Fr.snoc X41 N36 gn_a0
  have O41 := O36.wr W41 gn_a0
  have K41 := K36.wr W41 (Or.inl (List.mem_of_getElem? (i := 0) rfl))
  have G41 : own_Go p.tables e below (s₁.setTop (entryFrame m #[(.ref a0), (.int p1), (.ref a2), (.int p3), (.int p4), (.int p5), .null, (.ref a7), .null] 9)) (T41.setTop (mkF m 67 #[.val (.ref a0), .val (.int p1), .val (.ref a2), .val (.int p3), .val (.int p4), .val (.int p5), .val .null, .val (.ref a7), .val (.ref aB)] [])) := fun t k => G38 t (st41 t k)
  have G42 : own_Go p.tables e below (s₁.setTop (entryFrame m #[(.ref a0), (.int p1), (.ref a2), (.int p3), (.int p4), (.int p5), .null, (.ref a7), .null] 9)) (T41.setTop (mkF m 68 #[.val (.ref a0), .val (.int p1), .val (.ref a2), .val (.int p3), .val (.int p4), .val (.int p5), .val .null, .val (.ref a7), .val (.ref aB)] [(.ref a0)])) := fun t k => G41 t (XS.aloadN X41.here hx rfl (hb hby d4_67) rfl rfl k)
  have G43 : own_Go p.tables e below (s₁.setTop (entryFrame m #[(.ref a0), (.int p1), (.ref a2), (.int p3), (.int p4), (.int p5), .null, (.ref a7), .null] 9)) (T41.setTop (mkF m 70 #[.val (.ref a0), .val (.int p1), .val (.ref a2), .val (.int p3), .val (.int p4), .val (.int p5), .val .null, .val (.ref a7), .val (.ref aB)] [(.ref a7), (.ref a0)])) := fun t k => G42 t (XS.aload X41.here hx rfl (hb hby d4_68) rfl rfl k)
  have f44 : Exa Z h41 a0 "com/example/earnest_broker/earnestbroker/remoting/RemotingCommand" := (f39.wr W41)
  have f45 : Fld Z h41 a0 "com/example/earnest_broker/earnestbroker/remoting/RemotingCommand" "extFields" "Ljava/util/Map;" .null := (((((((F_extFields.keep Kq2 nin0).other W16 (Or.inr (slot_ne (Or.inr (hw _ (List.mem_of_getElem? (i := 35) rfl))) (Or.inr (hw _ (List.mem_of_getElem? (i := 23) rfl))) (by decide) (t := (.object "java/util/Map")) (t' := .int) (by decide) (by decide)))).other W21 (Or.inr (slot_ne (Or.inr (hw _ (List.mem_of_getElem? (i := 35) rfl))) (Or.inr (hw _ (List.mem_of_getElem? (i := 25) rfl))) (by decide) (t := (.object "java/util/Map")) (t' := (.object "java/lang/String")) (by decide) (by decide)))).other W26 (Or.inr (slot_ne (Or.inr (hw _ (List.mem_of_getElem? (i := 35) rfl))) (Or.inr (hw _ (List.mem_of_getElem? (i := 27) rfl))) (by decide) (t := (.object "java/util/Map")) (t' := .int) (by decide) (by decide)))).other W31 (Or.inr (slot_ne (Or.inr (hw _ (List.mem_of_getElem? (i := 35) rfl))) (Or.inr (hw _ (List.mem_of_getElem? (i := 29) rfl))) (by decide) (t := (.object "java/util/Map")) (t' := .int) (by decide) (by decide)))).other W36 (Or.inr (slot_ne (Or.inr (hw _ (List.mem_of_getElem? (i := 35) rfl))) (Or.inr (hw _ (List.mem_of_getElem? (i := 31) rfl))) (by decide) (t := (.object "java/util/Map")) (t' := .int) (by decide) (by decide)))).other W41 (Or.inr (slot_ne (Or.inr (hw _ (List.mem_of_getElem? (i := 35) rfl))) (Or.inr (hw _ (List.mem_of_getElem? (i := 33) rfl))) (by decide) (t := (.object "java/util/Map")) (t' := (.object "java/lang/String")) (by decide) (by decide))))
  obtain ⟨T46, h46, X46, e46, W46, st46⟩ := putF X41 hx hZ hown (host := "") (Or.inl (hw _ (List.mem_of_getElem? (i := 34) rfl))) Via.refl e41 f45 f44 (Or.inr ⟨(hw _ (List.mem_of_getElem? (i := 35) rfl)), rfl, hnm⟩) (hw _ (List.mem_of_getElem? (i := 1) rfl)) (ty := (.object "java/util/Map")) (by decide) rfl rfl (g := (mkF m 70 #[.val (.ref a0), .val (.int p1), .val (.ref a2), .val (.int p3), .val (.int p4), .val (.int p5), .val .null, .val (.ref a7), .val (.ref aB)] [(.ref a7), (.ref a0)])) rfl rfl (hb hby d4_70)
  have Fw46 := f45.same W46
  have N46 := Fr.snoc X46 N41 gn_a0
  have O46 := O41.wr W46 gn_a0
  have K46 := K41.wr W46 (Or.inl (List.mem_of_getElem? (i := 0) rfl))
  have G46 : own_Go p.tables e below (s₁.setTop (entryFrame m #[(.ref a0), (.int p1), (.ref a2), (.int p3), (.int p4), (.int p5), .null, (.ref a7), .null] 9)) (T46.setTop (mkF m 73 #[.val (.ref a0), .val (.int p1), .val (.ref a2), .val (.int p3), .val (.int p4), .val (.int p5), .val .null, .val (.ref a7), .val (.ref aB)] [])) := fun t k => G43 t (st46 t k)
  have G47 : own_Go p.tables e below (s₁.setTop (entryFrame m #[(.ref a0), (.int p1), (.ref a2), (.int p3), (.int p4), (.int p5), .null, (.ref a7), .null] 9)) (T46.setTop (mkF m 74 #[.val (.ref a0), .val (.int p1), .val (.ref a2), .val (.int p3), .val (.int p4), .val (.int p5), .val .null, .val (.ref a7), .val (.ref aB)] [(.ref a0)])) := fun t k => G46 t (XS.aloadN X46.here hx rfl (hb hby d4_73) rfl rfl k)
  have G48 : own_Go p.tables e below (s₁.setTop (entryFrame m #[(.ref a0), (.int p1), (.ref a2), (.int p3), (.int p4), (.int p5), .null, (.ref a7), .null] 9)) (T46.setTop (mkF m 76 #[.val (.ref a0), .val (.int p1), .val (.ref a2), .val (.int p3), .val (.int p4), .val (.int p5), .val .null, .val (.ref a7), .val (.ref aB)] [(.ref aB), (.ref a0)])) := fun t k => G47 t (XS.aload X46.here hx rfl (hb hby d4_74) rfl rfl k)
  have f49 : Exa Z h46 a0 "com/example/earnest_broker/earnestbroker/remoting/RemotingCommand" := (f44.wr W46)
  have f50 : Fld Z h46 a0 "com/example/earnest_broker/earnestbroker/remoting/RemotingCommand" "body" "[B" .null := ((((((((F_body.keep Kq2 nin0).other W16 (Or.inr (slot_ne (Or.inr (hw _ (List.mem_of_getElem? (i := 37) rfl))) (Or.inr (hw _ (List.mem_of_getElem? (i := 23) rfl))) (by decide) (t := (.array .byte)) (t' := .int) (by decide) (by decide)))).other W21 (Or.inr (slot_ne (Or.inr (hw _ (List.mem_of_getElem? (i := 37) rfl))) (Or.inr (hw _ (List.mem_of_getElem? (i := 25) rfl))) (by decide) (t := (.array .byte)) (t' := (.object "java/lang/String")) (by decide) (by decide)))).other W26 (Or.inr (slot_ne (Or.inr (hw _ (List.mem_of_getElem? (i := 37) rfl))) (Or.inr (hw _ (List.mem_of_getElem? (i := 27) rfl))) (by decide) (t := (.array .byte)) (t' := .int) (by decide) (by decide)))).other W31 (Or.inr (slot_ne (Or.inr (hw _ (List.mem_of_getElem? (i := 37) rfl))) (Or.inr (hw _ (List.mem_of_getElem? (i := 29) rfl))) (by decide) (t := (.array .byte)) (t' := .int) (by decide) (by decide)))).other W36 (Or.inr (slot_ne (Or.inr (hw _ (List.mem_of_getElem? (i := 37) rfl))) (Or.inr (hw _ (List.mem_of_getElem? (i := 31) rfl))) (by decide) (t := (.array .byte)) (t' := .int) (by decide) (by decide)))).other W41 (Or.inr (slot_ne (Or.inr (hw _ (List.mem_of_getElem? (i := 37) rfl))) (Or.inr (hw _ (List.mem_of_getElem? (i := 33) rfl))) (by decide) (t := (.array .byte)) (t' := (.object "java/lang/String")) (by decide) (by decide)))).other W46 (Or.inr (slot_ne (Or.inr (hw _ (List.mem_of_getElem? (i := 37) rfl))) (Or.inr (hw _ (List.mem_of_getElem? (i := 35) rfl))) (by decide) (t := (.array .byte)) (t' := (.object "java/util/Map")) (by decide) (by decide))))
  obtain ⟨T51, h51, X51, e51, W51, st51⟩ := putF X46 hx hZ hown (host := "") (Or.inl (hw _ (List.mem_of_getElem? (i := 36) rfl))) Via.refl e46 f50 f49 (Or.inr ⟨(hw _ (List.mem_of_getElem? (i := 37) rfl)), rfl, hnm⟩) (hw _ (List.mem_of_getElem? (i := 1) rfl)) (ty := (.array .byte)) (by decide) rfl rfl (g := (mkF m 76 #[.val (.ref a0), .val (.int p1), .val (.ref a2), .val (.int p3), .val (.int p4), .val (.int p5), .val .null, .val (.ref a7), .val (.ref aB)] [(.ref aB), (.ref a0)])) rfl rfl (hb hby d4_76)
  have Fw51 := f50.same W51
  have N51 := Fr.snoc X51 N46 gn_a0
  have O51 := O46.wr W51 gn_a0
  have K51 := K46.wr W51 (Or.inl (List.mem_of_getElem? (i := 0) rfl))
  have G51 : own_Go p.tables e below (s₁.setTop (entryFrame m #[(.ref a0), (.int p1), (.ref a2), (.int p3), (.int p4), (.int p5), .null, (.ref a7), .null] 9)) (T51.setTop (mkF m 79 #[.val (.ref a0), .val (.int p1), .val (.ref a2), .val (.int p3), .val (.int p4), .val (.int p5), .val .null, .val (.ref a7), .val (.ref aB)] [])) := fun t k => G48 t (st51 t k)
  obtain ⟨fs, hr, hrun, hended, hW, hsame⟩ := X51.leave (v := none) (fun _ => rfl)
  refine ⟨_, _, G51 _ ?_, hrun, hended, _, _, rfl, ?_, ⟨_, rfl⟩, hW, hsame.mono (by decide) (by decide)⟩
  · exact X51.returnOut hx Bd.returns (hb hby d4_79) hr
  · show Q4 Z a0 p1 a2 p3 p4 p5 a7 aM aB h0 _ T51.heap _
    rw [e51]
    have f53 : Exa Z h51 a0 "com/example/earnest_broker/earnestbroker/remoting/RemotingCommand" := (f49.wr W51)
    have f54 : Fld Z h51 a0 "com/example/earnest_broker/earnestbroker/remoting/RemotingCommand" "version" "I" (.int p3) := (((((Fw26.other W31 (Or.inr (slot_ne (Or.inr (hw _ (List.mem_of_getElem? (i := 27) rfl))) (Or.inr (hw _ (List.mem_of_getElem? (i := 29) rfl))) (by decide) (t := .int) (t' := .int) (by decide) (by decide)))).other W36 (Or.inr (slot_ne (Or.inr (hw _ (List.mem_of_getElem? (i := 27) rfl))) (Or.inr (hw _ (List.mem_of_getElem? (i := 31) rfl))) (by decide) (t := .int) (t' := .int) (by decide) (by decide)))).other W41 (Or.inr (slot_ne (Or.inr (hw _ (List.mem_of_getElem? (i := 27) rfl))) (Or.inr (hw _ (List.mem_of_getElem? (i := 33) rfl))) (by decide) (t := .int) (t' := (.object "java/lang/String")) (by decide) (by decide)))).other W46 (Or.inr (slot_ne (Or.inr (hw _ (List.mem_of_getElem? (i := 27) rfl))) (Or.inr (hw _ (List.mem_of_getElem? (i := 35) rfl))) (by decide) (t := .int) (t' := (.object "java/util/Map")) (by decide) (by decide)))).other W51 (Or.inr (slot_ne (Or.inr (hw _ (List.mem_of_getElem? (i := 27) rfl))) (Or.inr (hw _ (List.mem_of_getElem? (i := 37) rfl))) (by decide) (t := .int) (t' := (.array .byte)) (by decide) (by decide))))
    have f55 : Fld Z h51 a0 "com/example/earnest_broker/earnestbroker/remoting/RemotingCommand" "opaque" "I" (.int p4) := ((((Fw31.other W36 (Or.inr (slot_ne (Or.inr (hw _ (List.mem_of_getElem? (i := 29) rfl))) (Or.inr (hw _ (List.mem_of_getElem? (i := 31) rfl))) (by decide) (t := .int) (t' := .int) (by decide) (by decide)))).other W41 (Or.inr (slot_ne (Or.inr (hw _ (List.mem_of_getElem? (i := 29) rfl))) (Or.inr (hw _ (List.mem_of_getElem? (i := 33) rfl))) (by decide) (t := .int) (t' := (.object "java/lang/String")) (by decide) (by decide)))).other W46 (Or.inr (slot_ne (Or.inr (hw _ (List.mem_of_getElem? (i := 29) rfl))) (Or.inr (hw _ (List.mem_of_getElem? (i := 35) rfl))) (by decide) (t := .int) (t' := (.object "java/util/Map")) (by decide) (by decide)))).other W51 (Or.inr (slot_ne (Or.inr (hw _ (List.mem_of_getElem? (i := 29) rfl))) (Or.inr (hw _ (List.mem_of_getElem? (i := 37) rfl))) (by decide) (t := .int) (t' := (.array .byte)) (by decide) (by decide))))
    have f56 : Fld Z h51 a0 "com/example/earnest_broker/earnestbroker/remoting/RemotingCommand" "flag" "I" (.int p5) := (((Fw36.other W41 (Or.inr (slot_ne (Or.inr (hw _ (List.mem_of_getElem? (i := 31) rfl))) (Or.inr (hw _ (List.mem_of_getElem? (i := 33) rfl))) (by decide) (t := .int) (t' := (.object "java/lang/String")) (by decide) (by decide)))).other W46 (Or.inr (slot_ne (Or.inr (hw _ (List.mem_of_getElem? (i := 31) rfl))) (Or.inr (hw _ (List.mem_of_getElem? (i := 35) rfl))) (by decide) (t := .int) (t' := (.object "java/util/Map")) (by decide) (by decide)))).other W51 (Or.inr (slot_ne (Or.inr (hw _ (List.mem_of_getElem? (i := 31) rfl))) (Or.inr (hw _ (List.mem_of_getElem? (i := 37) rfl))) (by decide) (t := .int) (t' := (.array .byte)) (by decide) (by decide))))
    exact ⟨rfl, N51, K51, f53, f54, f55, f56⟩
theorem d5_0 : decode prog_17_method_3_code 0 = .ok (.aload_n 0, 1) := by decide +kernel
theorem d5_1 : decode prog_17_method_3_code 1 = .ok (.getfield 35, 3) := by decide +kernel
theorem d5_4 : decode prog_17_method_3_code 4 = .ok (.iconst 1, 1) := by decide +kernel
theorem d5_5 : decode prog_17_method_3_code 5 = .ok (.iand, 1) := by decide +kernel
theorem d5_6 : decode prog_17_method_3_code 6 = .ok (.ifCond .eq 7, 3) := by decide +kernel
theorem d5_9 : decode prog_17_method_3_code 9 = .ok (.iconst 1, 1) := by decide +kernel
theorem d5_10 : decode prog_17_method_3_code 10 = .ok (.goto 4, 3) := by decide +kernel
theorem d5_13 : decode prog_17_method_3_code 13 = .ok (.iconst 0, 1) := by decide +kernel
theorem d5_14 : decode prog_17_method_3_code 14 = .ok (.ireturn, 1) := by decide +kernel
theorem pn_5 : plainName "com/example/earnest_broker/earnestbroker/remoting/RemotingCommand" = true := by first | (simp [plainName, overriddenIn]; done) | decide +kernel
theorem ef_5 (m : MethodId) (a0 : Addr) : entryFrame m #[(.ref a0)] 1 = mkF m 0 #[.val (.ref a0)] [] := by first | (simp [entryFrame, mkF, argsToLocals, Value.category]; done) | rfl
def Q5 (Z : State) (a0 : Addr) (ff : Int32) (h0 : Heap) (v : Option Value) (h : Heap) (L : List Loc) : Prop := v = some (.int (if (ff &&& (1 : Int32)) = (0 : Int32) then (0 : Int32) else (1 : Int32))) ∧ L = [] ∧ h = h0
set_option maxRecDepth 65536 in
set_option maxHeartbeats 40000000 in
theorem rm5 (l : Launch) (Z : State) (aw : Array Value) (hw : ∀ d ∈ tables_1, d.before aw Z = true) (ws : List Jvm.Cond) (a0 : Addr) (ff : Int32) (h0 : Heap) (F_f : Fld Z h0 a0 "com/example/earnest_broker/earnestbroker/remoting/RemotingCommand" "flag" "I" (.int ff)) :
    MetFree l (⟨"com/example/earnest_broker/earnestbroker/remoting/RemotingCommand", "isResponse", "()Z"⟩ : MethodName) (head1 (Jvm.Cond.code (⟨"com/example/earnest_broker/earnestbroker/remoting/RemotingCommand", "isResponse", "()Z"⟩ : MethodName) prog_17_method_3_code 1 (some .boolean) :: ws) ({ frames := 0, cells := 0, slots := 0, locals := 0 } : Room)) (fun a U => a = #[(.ref a0)] ∧ Z.Warmed39 U.vm ∧ U.heap = h0) (fun _ _ _ _ _ => True) (fun _ U o U' => ∃ v L, o = .returned v ∧ Q5 Z a0 ff h0 v U'.heap L ∧ FrameEnd U o U' L ({ frames := 0, cells := 0, slots := 0, locals := 0 } : Room).cells ({ frames := 0, cells := 0, slots := 0, locals := 0 } : Room).slots) := by
  refine MetFree.of_bodySF (plainFor_of_name pn_5) hisR ?_
  intro p e s m args below meth c s₁ Bd hml0 hP hK
  obtain ⟨rfl, hZ, hh⟩ := hP
  have hZ0 := hZ
  have hx := Bd.exec
  have hby := Bd.bytes
  have hml : c.maxLocals = 1 := hml0
  have hown : s.vm.findClass "com/example/earnest_broker/earnestbroker/remoting/RemotingCommand" = some m.cls := findClass_of_methodNamed Bd.named
  have hnm := (name_of_methodNamed Bd.named Bd.method).1
  have X0 : Stand p l e ({ frames := 0, cells := 0, slots := 0, locals := 0 } : Room) s m #[(.ref a0)] below meth c s₁ [] 0 0 := Stand.of_body Bd
  have e0 : s₁.heap = h0 := by rw [← hh, Bd.state]; rfl
  have G0 : own_Go p.tables e below (s₁.setTop (entryFrame m #[(.ref a0)] 1)) (s₁.setTop (mkF m 0 #[.val (.ref a0)] [])) := fun t k => castTop (ef_5 m a0) k
  have G1 : own_Go p.tables e below (s₁.setTop (entryFrame m #[(.ref a0)] 1)) (s₁.setTop (mkF m 1 #[.val (.ref a0)] [(.ref a0)])) := fun t k => G0 t (XS.aloadN X0.here hx rfl (hb hby d5_0) rfl rfl k)
  obtain ⟨T2, X2, e2, st2⟩ := getF X0 hx hZ hown (host := "") (Or.inl (hw _ (List.mem_of_getElem? (i := 30) rfl))) Via.refl e0 F_f (g := (mkF m 1 #[.val (.ref a0)] [(.ref a0)])) rfl rfl (hb hby d5_1)
  have G2 : own_Go p.tables e below (s₁.setTop (entryFrame m #[(.ref a0)] 1)) (T2.setTop (mkF m 4 #[.val (.ref a0)] [(.int ff)])) := fun t k => G1 t (st2 t k)
  have G3 : own_Go p.tables e below (s₁.setTop (entryFrame m #[(.ref a0)] 1)) (T2.setTop (mkF m 5 #[.val (.ref a0)] [(.int (1 : Int32)), (.int ff)])) := fun t k => G2 t (XT.iconstV X2.here hx rfl (1 : Int32) (hb hby d5_4) (by decide) k)
  have G4 : own_Go p.tables e below (s₁.setTop (entryFrame m #[(.ref a0)] 1)) (T2.setTop (mkF m 6 #[.val (.ref a0)] [(.int (ff &&& (1 : Int32)))])) := fun t k => G3 t (XS.iand X2.here hx rfl (hb hby d5_5) rfl k)
  obtain ⟨z5_0, hz5_0, G5⟩ : ∃ (z5_0 : Int32), z5_0 = (if (ff &&& (1 : Int32)) = (0 : Int32) then (0 : Int32) else (1 : Int32)) ∧ own_Go p.tables e below (s₁.setTop (entryFrame m #[(.ref a0)] 1)) (T2.setTop (mkF m 14 #[.val (.ref a0)] [(.int z5_0)])) := by
    by_cases hc5 : (ff &&& (1 : Int32)) = (0 : Int32)
    · have G6 : own_Go p.tables e below (s₁.setTop (entryFrame m #[(.ref a0)] 1)) (T2.setTop (mkF m 13 #[.val (.ref a0)] [])) := fun t k => G4 t (XS.ifYes X2.here hx rfl (pc0 := 6) (pc' := 13) rfl (hb hby d5_6) rfl ((if0 _ _).trans (teq hc5).1) (by decide) (by decide) k)
      have G7 : own_Go p.tables e below (s₁.setTop (entryFrame m #[(.ref a0)] 1)) (T2.setTop (mkF m 14 #[.val (.ref a0)] [(.int (0 : Int32))])) := fun t k => G6 t (XT.iconstV X2.here hx rfl (0 : Int32) (hb hby d5_13) (by decide) k)
      exact ⟨_, (if_pos hc5).symm, G7⟩
    · have G8 : own_Go p.tables e below (s₁.setTop (entryFrame m #[(.ref a0)] 1)) (T2.setTop (mkF m 9 #[.val (.ref a0)] [])) := fun t k => G4 t (XS.ifNo X2.here hx rfl (hb hby d5_6) rfl ((if0 _ _).trans (feq hc5).1) k)
      have G9 : own_Go p.tables e below (s₁.setTop (entryFrame m #[(.ref a0)] 1)) (T2.setTop (mkF m 10 #[.val (.ref a0)] [(.int (1 : Int32))])) := fun t k => G8 t (XT.iconstV X2.here hx rfl (1 : Int32) (hb hby d5_9) (by decide) k)
      have G10 : own_Go p.tables e below (s₁.setTop (entryFrame m #[(.ref a0)] 1)) (T2.setTop (mkF m 14 #[.val (.ref a0)] [(.int (1 : Int32))])) := fun t k => G9 t (XS.goto X2.here hx rfl (pc0 := 10) (pc' := 14) rfl (hb hby d5_10) (by decide) (by decide) k)
      exact ⟨_, (if_neg hc5).symm, G10⟩
  obtain ⟨fs, hr, hrun, hended, hW, hsame⟩ := X2.leave (v := some (.int (nar .boolean z5_0))) (fun h => by rw [Bd.returns] at h; cases h)
  refine ⟨_, _, G5 _ ?_, hrun, hended, _, _, rfl, ?_, ⟨_, rfl⟩, hW, hsame.mono (by decide) (by decide)⟩
  · exact retN X2 hx (t := .boolean) Bd.returns (by simp) (hb hby d5_14) hr
  · show Q5 Z a0 ff h0 _ T2.heap _
    rw [e2]
    exact ⟨congrArg (fun z => some (Value.int z)) (by rw [hz5_0]; (repeat (first | exact own_nar0 | exact own_nar1 | apply own_nar_ite))), rfl, rfl⟩
theorem d6_0 : decode prog_17_method_9_code 0 = .ok (.new 3, 3) := by decide +kernel
theorem d6_3 : decode prog_17_method_9_code 3 = .ok (.dup, 1) := by decide +kernel
theorem d6_4 : decode prog_17_method_9_code 4 = .ok (.iload_n 1, 1) := by decide +kernel
theorem d6_5 : decode prog_17_method_9_code 5 = .ok (.ldc 48, 2) := by decide +kernel
theorem d6_7 : decode prog_17_method_9_code 7 = .ok (.aload_n 0, 1) := by decide +kernel
theorem d6_8 : decode prog_17_method_9_code 8 = .ok (.getfield 29, 3) := by decide +kernel
theorem d6_11 : decode prog_17_method_9_code 11 = .ok (.aload_n 0, 1) := by decide +kernel
theorem d6_12 : decode prog_17_method_9_code 12 = .ok (.getfield 32, 3) := by decide +kernel
theorem d6_15 : decode prog_17_method_9_code 15 = .ok (.iconst 1, 1) := by decide +kernel
theorem d6_16 : decode prog_17_method_9_code 16 = .ok (.aload_n 2, 1) := by decide +kernel
theorem d6_17 : decode prog_17_method_9_code 17 = .ok (.aload_n 3, 1) := by decide +kernel
theorem d6_18 : decode prog_17_method_9_code 18 = .ok (.aload 4, 2) := by decide +kernel
theorem d6_20 : decode prog_17_method_9_code 20 = .ok (.invokespecial 60, 3) := by decide +kernel
theorem d6_23 : decode prog_17_method_9_code 23 = .ok (.areturn, 1) := by decide +kernel
theorem pn_6 : plainName "com/example/earnest_broker/earnestbroker/remoting/RemotingCommand" = true := by first | (simp [plainName, overriddenIn]; done) | decide +kernel
theorem pd_6_2 : parseMethodDescriptor "(ILjava/lang/String;IIILjava/lang/String;Ljava/util/Map;[B)V" = some ⟨[.int, (.object "java/lang/String"), .int, .int, .int, (.object "java/lang/String"), (.object "java/util/Map"), (.array .byte)], none⟩ := by decide +kernel
theorem ef_6 (m : MethodId) (a0 : Addr) (p1 : Int32) (a3 : Addr) : entryFrame m #[(.ref a0), (.int p1), .null, (.ref a3), .null] 5 = mkF m 0 #[.val (.ref a0), .val (.int p1), .val .null, .val (.ref a3), .val .null] [] := by first | (simp [entryFrame, mkF, argsToLocals, Value.category]; done) | rfl
def Q6 (Z : State) (a0 : Addr) (p1 : Int32) (a3 : Addr) (aM aB : Addr) (xv xo : Int32) (h0 : Heap) (v : Option Value) (h : Heap) (L : List Loc) : Prop := ∃ b : Addr, v = some (.ref b) ∧ Fr Z.heap.size L ∧ Keep h0 h [] ∧ Z.heap.size ≤ b ∧ h0.size ≤ b ∧ (Exa Z h b "com/example/earnest_broker/earnestbroker/remoting/RemotingCommand") ∧ (Fld Z h b "com/example/earnest_broker/earnestbroker/remoting/RemotingCommand" "flag" "I" (.int (1 : Int32)))
set_option maxRecDepth 65536 in
set_option maxHeartbeats 40000000 in
theorem rm6 (l : Launch) (Z : State) (aw : Array Value) (hw : ∀ d ∈ tables_1, d.before aw Z = true) (ws : List Jvm.Cond) (a0 : Addr) (p1 : Int32) (a3 : Addr) (aM aB : Addr) (xv xo : Int32) (h0 : Heap) (O0 : Old Z Z.heap.size h0)  (F_v : Fld Z h0 a0 "com/example/earnest_broker/earnestbroker/remoting/RemotingCommand" "version" "I" (.int xv)) (F_o : Fld Z h0 a0 "com/example/earnest_broker/earnestbroker/remoting/RemotingCommand" "opaque" "I" (.int xo)) (S_M : Sta Z Z.heap "java/util/ImmutableCollections" "EMPTY_MAP" "Ljava/util/ImmutableCollections$MapN;" (.ref aM)) (S_B : Sta Z Z.heap "com/example/earnest_broker/earnestbroker/remoting/RemotingCommand" "NO_BODY" "[B" (.ref aB)) :
    MetFree l (⟨"com/example/earnest_broker/earnestbroker/remoting/RemotingCommand", "reply", "(ILjava/lang/String;Ljava/util/Map;[B)Lcom/example/earnest_broker/earnestbroker/remoting/RemotingCommand;"⟩ : MethodName) (head1 (Jvm.Cond.code (⟨"com/example/earnest_broker/earnestbroker/remoting/RemotingCommand", "reply", "(ILjava/lang/String;Ljava/util/Map;[B)Lcom/example/earnest_broker/earnestbroker/remoting/RemotingCommand;"⟩ : MethodName) prog_17_method_9_code 5 (some (.object "com/example/earnest_broker/earnestbroker/remoting/RemotingCommand")) :: ws) ({ frames := 3, cells := 3, slots := 28, locals := 45 } : Room)) (fun a U => a = #[(.ref a0), (.int p1), .null, (.ref a3), .null] ∧ Z.Warmed39 U.vm ∧ U.heap = h0) (fun _ _ _ _ _ => True) (fun _ U o U' => ∃ v L, o = .returned v ∧ Q6 Z a0 p1 a3 aM aB xv xo h0 v U'.heap L ∧ ReturnedEndW U o U' L ({ frames := 3, cells := 3, slots := 28, locals := 45 } : Room).cells ({ frames := 3, cells := 3, slots := 28, locals := 45 } : Room).slots) := by
  refine MetFree.of_bodySF (plainFor_of_name pn_6) hisR ?_
  intro p e s m args below meth c s₁ Bd hml0 hP hK
  obtain ⟨rfl, hZ, hh⟩ := hP
  have hZ0 := hZ
  have hx := Bd.exec
  have hby := Bd.bytes
  have hml : c.maxLocals = 5 := hml0
  have hown : s.vm.findClass "com/example/earnest_broker/earnestbroker/remoting/RemotingCommand" = some m.cls := findClass_of_methodNamed Bd.named
  have hnm := (name_of_methodNamed Bd.named Bd.method).1
  have X0 : Stand p l e ({ frames := 3, cells := 3, slots := 28, locals := 45 } : Room) (s.setVm s.vm) m #[(.ref a0), (.int p1), .null, (.ref a3), .null] below meth c s₁ [] 0 0 := Stand.of_body Bd
  have e0 : s₁.heap = h0 := by rw [← hh, Bd.state]; rfl
  have G0 : own_Go p.tables e below (s₁.setTop (entryFrame m #[(.ref a0), (.int p1), .null, (.ref a3), .null] 5)) (s₁.setTop (mkF m 0 #[.val (.ref a0), .val (.int p1), .val .null, .val (.ref a3), .val .null] [])) := fun t k => castTop (ef_6 m a0 p1 a3) k
  have N0 := Fr.nil Z.heap.size
  have K0 := Keep.refl h0 []
  have hS := State.WarmedH.since (State.WarmedH.refl s) 0
  have hk : 0 ≤ h0.size := Nat.zero_le _
  obtain ⟨T1, h1, X1, e1, E1, A1, D1, U1, st1⟩ := newO X0 hx hZ hown (hw _ (List.mem_of_getElem? (i := 53) rfl)) (hw _ (List.mem_of_getElem? (i := 1) rfl)) (hw _ (List.mem_of_getElem? (i := 2) rfl)) e0 (g := (mkF m 0 #[.val (.ref a0), .val (.int p1), .val .null, .val (.ref a3), .val .null] [])) rfl (hb hby d6_0) (by decide) (by decide)
  obtain ⟨b1, g1⟩ : ∃ z, z = h0.size := ⟨_, rfl⟩
  rw [← g1] at A1 D1 U1 st1
  have ne_a0_b1 : a0 ≠ b1 := Nat.ne_of_lt (Nat.lt_of_lt_of_le F_v.lt (Nat.le_of_eq g1.symm))
  have gn_b1 : Z.heap.size ≤ b1 := Nat.le_trans O0.2.1 (Nat.le_of_eq g1.symm)
  have sz_b1 : h0.size ≤ b1 := Nat.le_trans K0.1 (Nat.le_of_eq g1.symm)
  have O1 := O0.ext E1
  have K1 := K0.ext E1
  have hk := Nat.le_trans hk E1.1
  have F1_code : Fld Z h1 b1 "com/example/earnest_broker/earnestbroker/remoting/RemotingCommand" "code" "I" (.int (0 : Int32)) := D1 (Or.inr (hw _ (List.mem_of_getElem? (i := 23) rfl))) (ty := .int) (by decide)
  have F1_language : Fld Z h1 b1 "com/example/earnest_broker/earnestbroker/remoting/RemotingCommand" "language" "Ljava/lang/String;" .null := D1 (Or.inr (hw _ (List.mem_of_getElem? (i := 25) rfl))) (ty := (.object "java/lang/String")) (by decide)
  have F1_version : Fld Z h1 b1 "com/example/earnest_broker/earnestbroker/remoting/RemotingCommand" "version" "I" (.int (0 : Int32)) := D1 (Or.inr (hw _ (List.mem_of_getElem? (i := 27) rfl))) (ty := .int) (by decide)
  have F1_opaque : Fld Z h1 b1 "com/example/earnest_broker/earnestbroker/remoting/RemotingCommand" "opaque" "I" (.int (0 : Int32)) := D1 (Or.inr (hw _ (List.mem_of_getElem? (i := 29) rfl))) (ty := .int) (by decide)
  have F1_flag : Fld Z h1 b1 "com/example/earnest_broker/earnestbroker/remoting/RemotingCommand" "flag" "I" (.int (0 : Int32)) := D1 (Or.inr (hw _ (List.mem_of_getElem? (i := 31) rfl))) (ty := .int) (by decide)
  have F1_remark : Fld Z h1 b1 "com/example/earnest_broker/earnestbroker/remoting/RemotingCommand" "remark" "Ljava/lang/String;" .null := D1 (Or.inr (hw _ (List.mem_of_getElem? (i := 33) rfl))) (ty := (.object "java/lang/String")) (by decide)
  have F1_extFields : Fld Z h1 b1 "com/example/earnest_broker/earnestbroker/remoting/RemotingCommand" "extFields" "Ljava/util/Map;" .null := D1 (Or.inr (hw _ (List.mem_of_getElem? (i := 35) rfl))) (ty := (.object "java/util/Map")) (by decide)
  have F1_body : Fld Z h1 b1 "com/example/earnest_broker/earnestbroker/remoting/RemotingCommand" "body" "[B" .null := D1 (Or.inr (hw _ (List.mem_of_getElem? (i := 37) rfl))) (ty := (.array .byte)) (by decide)
  have G1 : own_Go p.tables e below (s₁.setTop (entryFrame m #[(.ref a0), (.int p1), .null, (.ref a3), .null] 5)) (T1.setTop (mkF m 3 #[.val (.ref a0), .val (.int p1), .val .null, .val (.ref a3), .val .null] [(.ref b1)])) := fun t k => G0 t (st1 t k)
  have G2 : own_Go p.tables e below (s₁.setTop (entryFrame m #[(.ref a0), (.int p1), .null, (.ref a3), .null] 5)) (T1.setTop (mkF m 4 #[.val (.ref a0), .val (.int p1), .val .null, .val (.ref a3), .val .null] [(.ref b1), (.ref b1)])) := fun t k => G1 t (XS.dup X1.here hx rfl (hb hby d6_3) rfl rfl k)
  have G3 : own_Go p.tables e below (s₁.setTop (entryFrame m #[(.ref a0), (.int p1), .null, (.ref a3), .null] 5)) (T1.setTop (mkF m 5 #[.val (.ref a0), .val (.int p1), .val .null, .val (.ref a3), .val .null] [(.int p1), (.ref b1), (.ref b1)])) := fun t k => G2 t (XS.iloadN X1.here hx rfl (hb hby d6_4) rfl k)
  obtain ⟨u4, T4, h4, k4, X4, e4, E4, hS, hk4, hZ, hown, st4⟩ := ldcS X1 hx hZ hown (hw _ (List.mem_of_getElem? (i := 54) rfl)) (own_wS hw) e1 hS hk (g := (mkF m 5 #[.val (.ref a0), .val (.int p1), .val .null, .val (.ref a3), .val .null] [(.int p1), (.ref b1), (.ref b1)])) rfl (hb hby d6_5) (n := 16) (by decide) (by decide) (by decide) (by decide)
  have O4 := O1.ext E4
  have K4 := K1.ext E4
  have hk := hk4
  have G4 : own_Go p.tables e below (s₁.setTop (entryFrame m #[(.ref a0), (.int p1), .null, (.ref a3), .null] 5)) (T4.setTop (mkF m 7 #[.val (.ref a0), .val (.int p1), .val .null, .val (.ref a3), .val .null] [(.ref u4), (.int p1), (.ref b1), (.ref b1)])) := fun t k => G3 t (st4 t k)
  have G5 : own_Go p.tables e below (s₁.setTop (entryFrame m #[(.ref a0), (.int p1), .null, (.ref a3), .null] 5)) (T4.setTop (mkF m 8 #[.val (.ref a0), .val (.int p1), .val .null, .val (.ref a3), .val .null] [(.ref a0), (.ref u4), (.int p1), (.ref b1), (.ref b1)])) := fun t k => G4 t (XS.aloadN X4.here hx rfl (hb hby d6_7) rfl rfl k)
  have f6 : Fld Z h4 a0 "com/example/earnest_broker/earnestbroker/remoting/RemotingCommand" "version" "I" (.int xv) := ((F_v.ext E1).ext E4)
  obtain ⟨T7, X7, e7, st7⟩ := getF X4 hx hZ hown (host := "") (Or.inl (hw _ (List.mem_of_getElem? (i := 26) rfl))) Via.refl e4 f6 (g := (mkF m 8 #[.val (.ref a0), .val (.int p1), .val .null, .val (.ref a3), .val .null] [(.ref a0), (.ref u4), (.int p1), (.ref b1), (.ref b1)])) rfl rfl (hb hby d6_8)
  have G7 : own_Go p.tables e below (s₁.setTop (entryFrame m #[(.ref a0), (.int p1), .null, (.ref a3), .null] 5)) (T7.setTop (mkF m 11 #[.val (.ref a0), .val (.int p1), .val .null, .val (.ref a3), .val .null] [(.int xv), (.ref u4), (.int p1), (.ref b1), (.ref b1)])) := fun t k => G5 t (st7 t k)
  have G8 : own_Go p.tables e below (s₁.setTop (entryFrame m #[(.ref a0), (.int p1), .null, (.ref a3), .null] 5)) (T7.setTop (mkF m 12 #[.val (.ref a0), .val (.int p1), .val .null, .val (.ref a3), .val .null] [(.ref a0), (.int xv), (.ref u4), (.int p1), (.ref b1), (.ref b1)])) := fun t k => G7 t (XS.aloadN X7.here hx rfl (hb hby d6_11) rfl rfl k)
  have f9 : Fld Z h4 a0 "com/example/earnest_broker/earnestbroker/remoting/RemotingCommand" "opaque" "I" (.int xo) := ((F_o.ext E1).ext E4)
  obtain ⟨T10, X10, e10, st10⟩ := getF X7 hx hZ hown (host := "") (Or.inl (hw _ (List.mem_of_getElem? (i := 28) rfl))) Via.refl e7 f9 (g := (mkF m 12 #[.val (.ref a0), .val (.int p1), .val .null, .val (.ref a3), .val .null] [(.ref a0), (.int xv), (.ref u4), (.int p1), (.ref b1), (.ref b1)])) rfl rfl (hb hby d6_12)
  have G10 : own_Go p.tables e below (s₁.setTop (entryFrame m #[(.ref a0), (.int p1), .null, (.ref a3), .null] 5)) (T10.setTop (mkF m 15 #[.val (.ref a0), .val (.int p1), .val .null, .val (.ref a3), .val .null] [(.int xo), (.int xv), (.ref u4), (.int p1), (.ref b1), (.ref b1)])) := fun t k => G8 t (st10 t k)
  have G11 : own_Go p.tables e below (s₁.setTop (entryFrame m #[(.ref a0), (.int p1), .null, (.ref a3), .null] 5)) (T10.setTop (mkF m 16 #[.val (.ref a0), .val (.int p1), .val .null, .val (.ref a3), .val .null] [(.int (1 : Int32)), (.int xo), (.int xv), (.ref u4), (.int p1), (.ref b1), (.ref b1)])) := fun t k => G10 t (XT.iconstV X10.here hx rfl (1 : Int32) (hb hby d6_15) (by decide) k)
  have G12 : own_Go p.tables e below (s₁.setTop (entryFrame m #[(.ref a0), (.int p1), .null, (.ref a3), .null] 5)) (T10.setTop (mkF m 17 #[.val (.ref a0), .val (.int p1), .val .null, .val (.ref a3), .val .null] [.null, (.int (1 : Int32)), (.int xo), (.int xv), (.ref u4), (.int p1), (.ref b1), (.ref b1)])) := fun t k => G11 t (XS.aloadN X10.here hx rfl (hb hby d6_16) rfl rfl k)
  have G13 : own_Go p.tables e below (s₁.setTop (entryFrame m #[(.ref a0), (.int p1), .null, (.ref a3), .null] 5)) (T10.setTop (mkF m 18 #[.val (.ref a0), .val (.int p1), .val .null, .val (.ref a3), .val .null] [(.ref a3), .null, (.int (1 : Int32)), (.int xo), (.int xv), (.ref u4), (.int p1), (.ref b1), (.ref b1)])) := fun t k => G12 t (XS.aloadN X10.here hx rfl (hb hby d6_17) rfl rfl k)
  have G14 : own_Go p.tables e below (s₁.setTop (entryFrame m #[(.ref a0), (.int p1), .null, (.ref a3), .null] 5)) (T10.setTop (mkF m 20 #[.val (.ref a0), .val (.int p1), .val .null, .val (.ref a3), .val .null] [.null, (.ref a3), .null, (.int (1 : Int32)), (.int xo), (.int xv), (.ref u4), (.int p1), (.ref b1), (.ref b1)])) := fun t k => G13 t (XS.aload X10.here hx rfl (hb hby d6_18) rfl rfl k)
  have f15 : Exa Z h4 b1 "com/example/earnest_broker/earnestbroker/remoting/RemotingCommand" := (A1.ext E4)
  have f16 : Fld Z h4 b1 "com/example/earnest_broker/earnestbroker/remoting/RemotingCommand" "code" "I" (.int (0 : Int32)) := (F1_code.ext E4)
  have f17 : Fld Z h4 b1 "com/example/earnest_broker/earnestbroker/remoting/RemotingCommand" "language" "Ljava/lang/String;" .null := (F1_language.ext E4)
  have f18 : Fld Z h4 b1 "com/example/earnest_broker/earnestbroker/remoting/RemotingCommand" "version" "I" (.int (0 : Int32)) := (F1_version.ext E4)
  have f19 : Fld Z h4 b1 "com/example/earnest_broker/earnestbroker/remoting/RemotingCommand" "opaque" "I" (.int (0 : Int32)) := (F1_opaque.ext E4)
  have f20 : Fld Z h4 b1 "com/example/earnest_broker/earnestbroker/remoting/RemotingCommand" "flag" "I" (.int (0 : Int32)) := (F1_flag.ext E4)
  have f21 : Fld Z h4 b1 "com/example/earnest_broker/earnestbroker/remoting/RemotingCommand" "remark" "Ljava/lang/String;" .null := (F1_remark.ext E4)
  have f22 : Fld Z h4 b1 "com/example/earnest_broker/earnestbroker/remoting/RemotingCommand" "extFields" "Ljava/util/Map;" .null := (F1_extFields.ext E4)
  have f23 : Fld Z h4 b1 "com/example/earnest_broker/earnestbroker/remoting/RemotingCommand" "body" "[B" .null := (F1_body.ext E4)
  obtain ⟨vv24, _, ⟨T24, L24, k24, n24⟩, -, X24, ⟨Lc24, hQ24, l24, y24, z24⟩, st24⟩ := X10.specialBack hx (y := (⟨"com/example/earnest_broker/earnestbroker/remoting/RemotingCommand", "<init>", "(ILjava/lang/String;IIILjava/lang/String;Ljava/util/Map;[B)V"⟩ : MethodName)) rfl hown (mvT hZ (hw _ (List.mem_of_getElem? (i := 62) rfl))) (mvT hZ (hw _ (List.mem_of_getElem? (i := 4) rfl))) (mvT hZ (hw _ (List.mem_of_getElem? (i := 5) rfl))) (by decide) (backOf (W := 1) (rm4 l Z aw hw [] b1 p1 u4 xv xo (1 : Int32) a3 aM aB h4 O4 gn_b1 f15 f16 f17 f18 f19 f20 f21 f22 f23 S_M S_B) hZ (hw _ (List.mem_of_getElem? (i := 5) rfl)) (hw _ (List.mem_of_getElem? (i := 2) rfl)) (by decide) (by decide)) (g := (mkF m 20 #[.val (.ref a0), .val (.int p1), .val .null, .val (.ref a3), .val .null] [.null, (.ref a3), .null, (.int (1 : Int32)), (.int xo), (.int xv), (.ref u4), (.int p1), (.ref b1), (.ref b1)])) rfl (by rw [hml]; rfl) (Steps.refl _) (a := b1) (argsL := [(.int p1), (.ref u4), (.int xv), (.int xo), (.int (1 : Int32)), .null, (.ref a3), .null]) (rest := [(.ref b1)]) (lenOf pd_6_2 rfl) rfl (by show 2 * 0 + _ ≤ _; exact Nat.le_of_eq rfl) (hb hby d6_20) (fun _ _ => ⟨rfl, e10, (by decide : 3 + 0 ≤ _), (by decide : 28 + 0 ≤ _)⟩)
  dsimp only [Pt.U, Pt.locs, Pt.cells, Pt.slots] at X24 l24 y24 z24 st24 hQ24
  subst l24 y24 z24
  obtain ⟨rfl, Nq24, Kq24, g24_0, g24_1, g24_2, g24_3⟩ := hQ24
  have N24 := Fr.app N0 Nq24
  have O24 := O4.keep Kq24 (allS gn_b1 all0)
  have K24 := K4.trans Kq24 (allS (Or.inr sz_b1) all0)
  have hk := Nat.le_trans hk Kq24.1
  have G24 : own_Go p.tables e below (s₁.setTop (entryFrame m #[(.ref a0), (.int p1), .null, (.ref a3), .null] 5)) (T24.setTop (mkF m 23 #[.val (.ref a0), .val (.int p1), .val .null, .val (.ref a3), .val .null] [(.ref b1)])) := fun t k => G14 t (st24.trans k)
  obtain ⟨fs, hr, hrun, hended, hW⟩ := X24.leaveW hS hk (v := some (.ref b1)) (fun h => by rw [Bd.returns] at h; cases h)
  refine ⟨_, _, G24 _ ?_, hrun, hended, _, _, rfl, ?_, ⟨_, rfl⟩, hW.2.1, hW.2.2.1, hW.2.2.2.mono (by decide) (by decide)⟩
  · exact own_retA X24 hx Bd.returns rfl rfl (hb hby d6_23) hr
  · show Q6 Z a0 p1 a3 aM aB xv xo h0 _ T24.heap _
    exact ⟨_, rfl, N24, K24, gn_b1, sz_b1, g24_0, g24_3⟩
theorem d7_0 : decode prog_17_method_8_code 0 = .ok (.aload_n 0, 1) := by decide +kernel
theorem d7_1 : decode prog_17_method_8_code 1 = .ok (.iload_n 1, 1) := by decide +kernel
theorem d7_2 : decode prog_17_method_8_code 2 = .ok (.aload_n 2, 1) := by decide +kernel
theorem d7_3 : decode prog_17_method_8_code 3 = .ok (.invokestatic 11, 3) := by decide +kernel
theorem d7_6 : decode prog_17_method_8_code 6 = .ok (.aload_n 3, 1) := by decide +kernel
theorem d7_7 : decode prog_17_method_8_code 7 = .ok (.invokevirtual 96, 3) := by decide +kernel
theorem d7_10 : decode prog_17_method_8_code 10 = .ok (.areturn, 1) := by decide +kernel
theorem pn_7 : plainName "com/example/earnest_broker/earnestbroker/remoting/RemotingCommand" = true := by first | (simp [plainName, overriddenIn]; done) | decide +kernel
theorem pd_7_1 : parseMethodDescriptor "()Ljava/util/Map;" = some ⟨[], some (.object "java/util/Map")⟩ := by decide +kernel
theorem pd_7_3 : parseMethodDescriptor "(ILjava/lang/String;Ljava/util/Map;[B)Lcom/example/earnest_broker/earnestbroker/remoting/RemotingCommand;" = some ⟨[.int, (.object "java/lang/String"), (.object "java/util/Map"), (.array .byte)], some (.object "com/example/earnest_broker/earnestbroker/remoting/RemotingCommand")⟩ := by decide +kernel
theorem ef_7 (m : MethodId) (a0 : Addr) (p1 : Int32) : entryFrame m #[(.ref a0), (.int p1), .null, .null] 4 = mkF m 0 #[.val (.ref a0), .val (.int p1), .val .null, .val .null] [] := by first | (simp [entryFrame, mkF, argsToLocals, Value.category]; done) | rfl
def Q7 (Z : State) (a0 : Addr) (p1 : Int32) (aM aB : Addr) (xv xo : Int32) (h0 : Heap) (v : Option Value) (h : Heap) (L : List Loc) : Prop := ∃ b : Addr, v = some (.ref b) ∧ Fr Z.heap.size L ∧ Keep h0 h [] ∧ Z.heap.size ≤ b ∧ h0.size ≤ b ∧ (Exa Z h b "com/example/earnest_broker/earnestbroker/remoting/RemotingCommand") ∧ (Fld Z h b "com/example/earnest_broker/earnestbroker/remoting/RemotingCommand" "flag" "I" (.int (1 : Int32)))
set_option maxRecDepth 65536 in
set_option maxHeartbeats 40000000 in
theorem rm7 (l : Launch) (Z : State) (aw : Array Value) (hw : ∀ d ∈ tables_1, d.before aw Z = true) (ws : List Jvm.Cond) (a0 : Addr) (p1 : Int32) (aM aB : Addr) (xv xo : Int32) (h0 : Heap) (O0 : Old Z Z.heap.size h0)  (E_a0 : Exa Z h0 a0 "com/example/earnest_broker/earnestbroker/remoting/RemotingCommand") (F_v : Fld Z h0 a0 "com/example/earnest_broker/earnestbroker/remoting/RemotingCommand" "version" "I" (.int xv)) (F_o : Fld Z h0 a0 "com/example/earnest_broker/earnestbroker/remoting/RemotingCommand" "opaque" "I" (.int xo)) (S_M : Sta Z Z.heap "java/util/ImmutableCollections" "EMPTY_MAP" "Ljava/util/ImmutableCollections$MapN;" (.ref aM)) (S_B : Sta Z Z.heap "com/example/earnest_broker/earnestbroker/remoting/RemotingCommand" "NO_BODY" "[B" (.ref aB)) :
    MetFree l (⟨"com/example/earnest_broker/earnestbroker/remoting/RemotingCommand", "reply", "(ILjava/lang/String;[B)Lcom/example/earnest_broker/earnestbroker/remoting/RemotingCommand;"⟩ : MethodName) (head1 (Jvm.Cond.code (⟨"com/example/earnest_broker/earnestbroker/remoting/RemotingCommand", "reply", "(ILjava/lang/String;[B)Lcom/example/earnest_broker/earnestbroker/remoting/RemotingCommand;"⟩ : MethodName) prog_17_method_8_code 4 (some (.object "com/example/earnest_broker/earnestbroker/remoting/RemotingCommand")) :: ws) ({ frames := 4, cells := 3, slots := 28, locals := 61 } : Room)) (fun a U => a = #[(.ref a0), (.int p1), .null, .null] ∧ Z.Warmed39 U.vm ∧ U.heap = h0) (fun _ _ _ _ _ => True) (fun _ U o U' => ∃ v L, o = .returned v ∧ Q7 Z a0 p1 aM aB xv xo h0 v U'.heap L ∧ ReturnedEndW U o U' L ({ frames := 4, cells := 3, slots := 28, locals := 61 } : Room).cells ({ frames := 4, cells := 3, slots := 28, locals := 61 } : Room).slots) := by
  refine MetFree.of_bodySF (plainFor_of_name pn_7) hisR ?_
  intro p e s m args below meth c s₁ Bd hml0 hP hK
  obtain ⟨rfl, hZ, hh⟩ := hP
  have hZ0 := hZ
  have hx := Bd.exec
  have hby := Bd.bytes
  have hml : c.maxLocals = 4 := hml0
  have hown : s.vm.findClass "com/example/earnest_broker/earnestbroker/remoting/RemotingCommand" = some m.cls := findClass_of_methodNamed Bd.named
  have hnm := (name_of_methodNamed Bd.named Bd.method).1
  have X0 : Stand p l e ({ frames := 4, cells := 3, slots := 28, locals := 61 } : Room) (s.setVm s.vm) m #[(.ref a0), (.int p1), .null, .null] below meth c s₁ [] 0 0 := Stand.of_body Bd
  have e0 : s₁.heap = h0 := by rw [← hh, Bd.state]; rfl
  have G0 : own_Go p.tables e below (s₁.setTop (entryFrame m #[(.ref a0), (.int p1), .null, .null] 4)) (s₁.setTop (mkF m 0 #[.val (.ref a0), .val (.int p1), .val .null, .val .null] [])) := fun t k => castTop (ef_7 m a0 p1) k
  have N0 := Fr.nil Z.heap.size
  have K0 := Keep.refl h0 []
  have hS := State.WarmedH.since (State.WarmedH.refl s) 0
  have hk : 0 ≤ h0.size := Nat.zero_le _
  have G1 : own_Go p.tables e below (s₁.setTop (entryFrame m #[(.ref a0), (.int p1), .null, .null] 4)) (s₁.setTop (mkF m 1 #[.val (.ref a0), .val (.int p1), .val .null, .val .null] [(.ref a0)])) := fun t k => G0 t (XS.aloadN X0.here hx rfl (hb hby d7_0) rfl rfl k)
  have G2 : own_Go p.tables e below (s₁.setTop (entryFrame m #[(.ref a0), (.int p1), .null, .null] 4)) (s₁.setTop (mkF m 2 #[.val (.ref a0), .val (.int p1), .val .null, .val .null] [(.int p1), (.ref a0)])) := fun t k => G1 t (XS.iloadN X0.here hx rfl (hb hby d7_1) rfl k)
  have G3 : own_Go p.tables e below (s₁.setTop (entryFrame m #[(.ref a0), (.int p1), .null, .null] 4)) (s₁.setTop (mkF m 3 #[.val (.ref a0), .val (.int p1), .val .null, .val .null] [.null, (.int p1), (.ref a0)])) := fun t k => G2 t (XS.aloadN X0.here hx rfl (hb hby d7_2) rfl rfl k)
  obtain ⟨vv4, _, ⟨T4, L4, k4, n4⟩, -, X4, ⟨Lc4, hQ4, l4, y4, z4⟩, st4⟩ := Jvm.LawKit.callS X0 hx (y := (⟨"java/util/Map", "of", "()Ljava/util/Map;"⟩ : MethodName)) hown (mvT hZ (hw _ (List.mem_of_getElem? (i := 14) rfl))) (mvT hZ (hw _ (List.mem_of_getElem? (i := 15) rfl))) (mvT hZ (hw _ (List.mem_of_getElem? (i := 16) rfl))) (mvT hZ (hw _ (List.mem_of_getElem? (i := 17) rfl))) (by decide) (backOf (W := 3) (rm2 l Z aw hw []  aM h0 (S_M.ext O0.2)) hZ (hw _ (List.mem_of_getElem? (i := 17) rfl)) (hw _ (List.mem_of_getElem? (i := 16) rfl)) (by decide) (by decide)) (g := (mkF m 3 #[.val (.ref a0), .val (.int p1), .val .null, .val .null] [.null, (.int p1), (.ref a0)])) rfl (by rw [hml]; rfl) (argsL := []) (rest := [.null, (.int p1), (.ref a0)]) (lenOf pd_7_1 rfl) rfl (by show 2 * 0 + _ ≤ _; exact Nat.le_of_eq rfl) (hb hby d7_3) (fun _ _ => ⟨rfl, e0, (by decide : 0 + 0 ≤ _), (by decide : 0 + 0 ≤ _)⟩)
  dsimp only [Pt.U, Pt.locs, Pt.cells, Pt.slots] at X4 l4 y4 z4 st4 hQ4
  subst l4 y4 z4
  obtain ⟨rfl, rfl, e4⟩ := hQ4
  try rw [List.append_nil] at X4
  have G4 : own_Go p.tables e below (s₁.setTop (entryFrame m #[(.ref a0), (.int p1), .null, .null] 4)) (T4.setTop (mkF m 6 #[.val (.ref a0), .val (.int p1), .val .null, .val .null] [(.ref aM), .null, (.int p1), (.ref a0)])) := fun t k => G3 t (st4 t k)
  have G5 : own_Go p.tables e below (s₁.setTop (entryFrame m #[(.ref a0), (.int p1), .null, .null] 4)) (T4.setTop (mkF m 7 #[.val (.ref a0), .val (.int p1), .val .null, .val .null] [.null, (.ref aM), .null, (.int p1), (.ref a0)])) := fun t k => G4 t (XS.aloadN X4.here hx rfl (hb hby d7_6) rfl rfl k)
  obtain ⟨cq6, kq6, q6a, q6b, q6c⟩ := isOf hZ e4 E_a0
  obtain ⟨vv6, _, ⟨T6, L6, k6, n6⟩, -, X6, hSq6, hgr6, ⟨Lc6, hQ6, l6, y6, z6⟩, st6⟩ := X4.virtualBackS hx (y := (⟨"com/example/earnest_broker/earnestbroker/remoting/RemotingCommand", "reply", "(ILjava/lang/String;Ljava/util/Map;[B)Lcom/example/earnest_broker/earnestbroker/remoting/RemotingCommand;"⟩ : MethodName)) (z := (⟨"com/example/earnest_broker/earnestbroker/remoting/RemotingCommand", "reply", "(ILjava/lang/String;Ljava/util/Map;[B)Lcom/example/earnest_broker/earnestbroker/remoting/RemotingCommand;"⟩ : MethodName)) hown (mvT hZ (hw _ (List.mem_of_getElem? (i := 48) rfl))) (mvT hZ (hw _ (List.mem_of_getElem? (i := 49) rfl))) (notFace_of_selects (args := #[]) (mvT hZ (hw _ (List.mem_of_getElem? (i := 51) rfl)))) (mvT hZ (hw _ (List.mem_of_getElem? (i := 51) rfl))) (mvT hZ (hw _ (List.mem_of_getElem? (i := 50) rfl))) (by decide) (backOfS (W := 0) (rm6 l Z aw hw [] a0 p1 aM aM aB xv xo h0 O0  F_v F_o S_M S_B) hZ (hw _ (List.mem_of_getElem? (i := 52) rfl)) (hw _ (List.mem_of_getElem? (i := 2) rfl)) (by decide) (by decide)) q6a q6c (g := (mkF m 7 #[.val (.ref a0), .val (.int p1), .val .null, .val .null] [.null, (.ref aM), .null, (.int p1), (.ref a0)])) rfl (by rw [hml]; rfl) (Steps.refl _) (argsL := [(.int p1), .null, (.ref aM), .null]) (rest := []) (lenOf pd_7_3 rfl) rfl (by show 2 * 0 + _ ≤ _; exact Nat.le_of_eq rfl) (hb hby d7_7) (fun _ _ => ⟨rfl, e4, (by decide : 0 + 3 ≤ _), (by decide : 0 + 28 ≤ _)⟩)
  dsimp only [Pt.U, Pt.locs, Pt.cells, Pt.slots] at X6 l6 y6 z6 st6 hQ6 hSq6 hgr6
  subst l6 y6 z6
  have hS := foldS hS (by rw [e4]; exact hk) hSq6 hgr6
  have hZ : Z.Warmed39 (s.setVm T6.vm).vm := State.Warmed39.trans (t := (s.setVm s.vm)) hZ hSq6.1
  have hown : (s.setVm T6.vm).vm.findClass "com/example/earnest_broker/earnestbroker/remoting/RemotingCommand" = some m.cls := by rw [show (s.setVm T6.vm).vm = T6.vm from rfl, hSq6.1.alike.findClass]; exact hown
  obtain ⟨r6, rfl, Nq6, Kq6, gn_r6, szq_r6, ra6_0, ra6_1⟩ := hQ6
  have ne_a0_r6 : a0 ≠ r6 := Nat.ne_of_lt (Nat.lt_of_lt_of_le E_a0.lt szq_r6)
  have sz_r6 : h0.size ≤ r6 := Nat.le_trans K0.1 szq_r6
  have N6 := Fr.app N0 Nq6
  have O6 := O0.keep Kq6 all0
  have K6 := K0.trans Kq6 all0
  have X6 : Stand p l e ({ frames := 4, cells := 3, slots := 28, locals := 61 } : Room) (s.setVm T6.vm) m #[(.ref a0), (.int p1), .null, .null] below meth c T6 _ _ _ := X6
  have hk := Nat.le_refl T6.heap.size
  have G6 : own_Go p.tables e below (s₁.setTop (entryFrame m #[(.ref a0), (.int p1), .null, .null] 4)) (T6.setTop (mkF m 10 #[.val (.ref a0), .val (.int p1), .val .null, .val .null] [(.ref r6)])) := fun t k => G5 t (st6.trans k)
  obtain ⟨fs, hr, hrun, hended, hW⟩ := X6.leaveW hS hk (v := some (.ref r6)) (fun h => by rw [Bd.returns] at h; cases h)
  refine ⟨_, _, G6 _ ?_, hrun, hended, _, _, rfl, ?_, ⟨_, rfl⟩, hW.2.1, hW.2.2.1, hW.2.2.2.mono (by decide) (by decide)⟩
  · exact own_retA X6 hx Bd.returns rfl rfl (hb hby d7_10) hr
  · show Q7 Z a0 p1 aM aB xv xo h0 _ T6.heap _
    exact ⟨_, rfl, N6, K6, gn_r6, sz_r6, ra6_0, ra6_1⟩
theorem pn_0 : plainName "com/example/earnest_broker/earnestbroker/remoting/RemotingCommandIsResponsePinLaw" = true := by first | (simp [plainName, overriddenIn]; done) | decide +kernel
theorem pd_0_2 : parseMethodDescriptor "(ILjava/lang/String;IIILjava/lang/String;Ljava/util/Map;[B)V" = some ⟨[.int, (.object "java/lang/String"), .int, .int, .int, (.object "java/lang/String"), (.object "java/util/Map"), (.array .byte)], none⟩ := by decide +kernel
theorem pd_0_4 : parseMethodDescriptor "()Z" = some ⟨[], some .boolean⟩ := by decide +kernel
theorem pd_0_5 : parseMethodDescriptor "(ILjava/lang/String;[B)Lcom/example/earnest_broker/earnestbroker/remoting/RemotingCommand;" = some ⟨[.int, (.object "java/lang/String"), (.array .byte)], some (.object "com/example/earnest_broker/earnestbroker/remoting/RemotingCommand")⟩ := by decide +kernel
theorem ef_0 (m : MethodId) (p0 : Int32) (p1 : Int32) (p2 : Int32) (p3 : Int32) (p4 : Int32) : entryFrame m #[(.int p0), (.int p1), (.int p2), (.int p3), (.int p4)] maxLocals = mkF m 0 #[.val (.int p0), .val (.int p1), .val (.int p2), .val (.int p3), .val (.int p4), .unset, .unset, .unset, .unset, .unset, .unset, .unset, .unset, .unset] [] := by first | (simp [entryFrame, mkF, argsToLocals, Value.category, maxLocals]; done) | rfl
def Q0 (Z : State) (p0 : Int32) (p1 : Int32) (p2 : Int32) (p3 : Int32) (p4 : Int32) (aM aB : Addr) (h0 : Heap) (v : Option Value) (h : Heap) (L : List Loc) : Prop := v = some (.int 1) ∧ Fr Z.heap.size L ∧ Keep h0 h []
set_option maxRecDepth 65536 in
set_option maxHeartbeats 40000000 in
theorem rm0 (l : Launch) (Z : State) (aw : Array Value) (hw : ∀ d ∈ tables_1, d.before aw Z = true) (ws : List Jvm.Cond) (p0 : Int32) (p1 : Int32) (p2 : Int32) (p3 : Int32) (p4 : Int32) (aM aB : Addr) (h0 : Heap) (O0 : Old Z Z.heap.size h0)  (S_M : Sta Z Z.heap "java/util/ImmutableCollections" "EMPTY_MAP" "Ljava/util/ImmutableCollections$MapN;" (.ref aM)) (S_B : Sta Z Z.heap "com/example/earnest_broker/earnestbroker/remoting/RemotingCommand" "NO_BODY" "[B" (.ref aB)) :
    MetFree l x (head1 (Jvm.Cond.code x code maxLocals ret :: ws) room_1) (fun a U => a = #[(.int p0), (.int p1), (.int p2), (.int p3), (.int p4)] ∧ Z.Warmed39 U.vm ∧ U.heap = h0) (fun _ _ _ _ _ => True) (fun _ U o U' => ∃ v L, o = .returned v ∧ Q0 Z p0 p1 p2 p3 p4 aM aB h0 v U'.heap L ∧ ReturnedEndW U o U' L room_1.cells room_1.slots) := by
  refine MetFree.of_bodySF (plainFor_of_name pn_0) hisR ?_
  intro p e s m args below meth c s₁ Bd hml0 hP hK
  obtain ⟨rfl, hZ, hh⟩ := hP
  have hZ0 := hZ
  have hx := Bd.exec
  have hby := Bd.bytes
  have hml : c.maxLocals = 14 := hml0
  have hown : s.vm.findClass "com/example/earnest_broker/earnestbroker/remoting/RemotingCommandIsResponsePinLaw" = some m.cls := findClass_of_methodNamed Bd.named
  have hnm := (name_of_methodNamed Bd.named Bd.method).1
  have X0 : Stand p l e room_1 (s.setVm s.vm) m #[(.int p0), (.int p1), (.int p2), (.int p3), (.int p4)] below meth c s₁ [] 0 0 := Stand.of_body Bd
  have e0 : s₁.heap = h0 := by rw [← hh, Bd.state]; rfl
  have G0 : own_Go p.tables e below (s₁.setTop (entryFrame m #[(.int p0), (.int p1), (.int p2), (.int p3), (.int p4)] maxLocals)) (s₁.setTop (mkF m 0 #[.val (.int p0), .val (.int p1), .val (.int p2), .val (.int p3), .val (.int p4), .unset, .unset, .unset, .unset, .unset, .unset, .unset, .unset, .unset] [])) := fun t k => castTop (ef_0 m p0 p1 p2 p3 p4) k
  have N0 := Fr.nil Z.heap.size
  have K0 := Keep.refl h0 []
  have hS := State.WarmedH.since (State.WarmedH.refl s) 0
  have hk : 0 ≤ h0.size := Nat.zero_le _
  obtain ⟨T1, h1, X1, e1, E1, A1, D1, U1, st1⟩ := newO X0 hx hZ hown (hw _ (List.mem_of_getElem? (i := 0) rfl)) (hw _ (List.mem_of_getElem? (i := 1) rfl)) (hw _ (List.mem_of_getElem? (i := 2) rfl)) e0 (g := (mkF m 0 #[.val (.int p0), .val (.int p1), .val (.int p2), .val (.int p3), .val (.int p4), .unset, .unset, .unset, .unset, .unset, .unset, .unset, .unset, .unset] [])) rfl (hb hby at_0) (by decide) (by decide)
  obtain ⟨b1, g1⟩ : ∃ z, z = h0.size := ⟨_, rfl⟩
  rw [← g1] at A1 D1 U1 st1
  have gn_b1 : Z.heap.size ≤ b1 := Nat.le_trans O0.2.1 (Nat.le_of_eq g1.symm)
  have sz_b1 : h0.size ≤ b1 := Nat.le_trans K0.1 (Nat.le_of_eq g1.symm)
  have O1 := O0.ext E1
  have K1 := K0.ext E1
  have hk := Nat.le_trans hk E1.1
  have F1_code : Fld Z h1 b1 "com/example/earnest_broker/earnestbroker/remoting/RemotingCommand" "code" "I" (.int (0 : Int32)) := D1 (Or.inr (hw _ (List.mem_of_getElem? (i := 23) rfl))) (ty := .int) (by decide)
  have F1_language : Fld Z h1 b1 "com/example/earnest_broker/earnestbroker/remoting/RemotingCommand" "language" "Ljava/lang/String;" .null := D1 (Or.inr (hw _ (List.mem_of_getElem? (i := 25) rfl))) (ty := (.object "java/lang/String")) (by decide)
  have F1_version : Fld Z h1 b1 "com/example/earnest_broker/earnestbroker/remoting/RemotingCommand" "version" "I" (.int (0 : Int32)) := D1 (Or.inr (hw _ (List.mem_of_getElem? (i := 27) rfl))) (ty := .int) (by decide)
  have F1_opaque : Fld Z h1 b1 "com/example/earnest_broker/earnestbroker/remoting/RemotingCommand" "opaque" "I" (.int (0 : Int32)) := D1 (Or.inr (hw _ (List.mem_of_getElem? (i := 29) rfl))) (ty := .int) (by decide)
  have F1_flag : Fld Z h1 b1 "com/example/earnest_broker/earnestbroker/remoting/RemotingCommand" "flag" "I" (.int (0 : Int32)) := D1 (Or.inr (hw _ (List.mem_of_getElem? (i := 31) rfl))) (ty := .int) (by decide)
  have F1_remark : Fld Z h1 b1 "com/example/earnest_broker/earnestbroker/remoting/RemotingCommand" "remark" "Ljava/lang/String;" .null := D1 (Or.inr (hw _ (List.mem_of_getElem? (i := 33) rfl))) (ty := (.object "java/lang/String")) (by decide)
  have F1_extFields : Fld Z h1 b1 "com/example/earnest_broker/earnestbroker/remoting/RemotingCommand" "extFields" "Ljava/util/Map;" .null := D1 (Or.inr (hw _ (List.mem_of_getElem? (i := 35) rfl))) (ty := (.object "java/util/Map")) (by decide)
  have F1_body : Fld Z h1 b1 "com/example/earnest_broker/earnestbroker/remoting/RemotingCommand" "body" "[B" .null := D1 (Or.inr (hw _ (List.mem_of_getElem? (i := 37) rfl))) (ty := (.array .byte)) (by decide)
  have G1 : own_Go p.tables e below (s₁.setTop (entryFrame m #[(.int p0), (.int p1), (.int p2), (.int p3), (.int p4)] maxLocals)) (T1.setTop (mkF m 3 #[.val (.int p0), .val (.int p1), .val (.int p2), .val (.int p3), .val (.int p4), .unset, .unset, .unset, .unset, .unset, .unset, .unset, .unset, .unset] [(.ref b1)])) := fun t k => G0 t (st1 t k)
  have G2 : own_Go p.tables e below (s₁.setTop (entryFrame m #[(.int p0), (.int p1), (.int p2), (.int p3), (.int p4)] maxLocals)) (T1.setTop (mkF m 4 #[.val (.int p0), .val (.int p1), .val (.int p2), .val (.int p3), .val (.int p4), .unset, .unset, .unset, .unset, .unset, .unset, .unset, .unset, .unset] [(.ref b1), (.ref b1)])) := fun t k => G1 t (XS.dup X1.here hx rfl (hb hby at_3) rfl rfl k)
  have G3 : own_Go p.tables e below (s₁.setTop (entryFrame m #[(.int p0), (.int p1), (.int p2), (.int p3), (.int p4)] maxLocals)) (T1.setTop (mkF m 5 #[.val (.int p0), .val (.int p1), .val (.int p2), .val (.int p3), .val (.int p4), .unset, .unset, .unset, .unset, .unset, .unset, .unset, .unset, .unset] [(.int p0), (.ref b1), (.ref b1)])) := fun t k => G2 t (XS.iloadN X1.here hx rfl (hb hby at_4) rfl k)
  have G4 : own_Go p.tables e below (s₁.setTop (entryFrame m #[(.int p0), (.int p1), (.int p2), (.int p3), (.int p4)] maxLocals)) (T1.setTop (mkF m 6 #[.val (.int p0), .val (.int p1), .val (.int p2), .val (.int p3), .val (.int p4), .unset, .unset, .unset, .unset, .unset, .unset, .unset, .unset, .unset] [.null, (.int p0), (.ref b1), (.ref b1)])) := fun t k => G3 t (XS.aconstNull X1.here hx rfl (hb hby at_5) k)
  have G5 : own_Go p.tables e below (s₁.setTop (entryFrame m #[(.int p0), (.int p1), (.int p2), (.int p3), (.int p4)] maxLocals)) (T1.setTop (mkF m 7 #[.val (.int p0), .val (.int p1), .val (.int p2), .val (.int p3), .val (.int p4), .unset, .unset, .unset, .unset, .unset, .unset, .unset, .unset, .unset] [(.int p1), .null, (.int p0), (.ref b1), (.ref b1)])) := fun t k => G4 t (XS.iloadN X1.here hx rfl (hb hby at_6) rfl k)
  have G6 : own_Go p.tables e below (s₁.setTop (entryFrame m #[(.int p0), (.int p1), (.int p2), (.int p3), (.int p4)] maxLocals)) (T1.setTop (mkF m 8 #[.val (.int p0), .val (.int p1), .val (.int p2), .val (.int p3), .val (.int p4), .unset, .unset, .unset, .unset, .unset, .unset, .unset, .unset, .unset] [(.int p2), (.int p1), .null, (.int p0), (.ref b1), (.ref b1)])) := fun t k => G5 t (XS.iloadN X1.here hx rfl (hb hby at_7) rfl k)
  have G7 : own_Go p.tables e below (s₁.setTop (entryFrame m #[(.int p0), (.int p1), (.int p2), (.int p3), (.int p4)] maxLocals)) (T1.setTop (mkF m 9 #[.val (.int p0), .val (.int p1), .val (.int p2), .val (.int p3), .val (.int p4), .unset, .unset, .unset, .unset, .unset, .unset, .unset, .unset, .unset] [(.int p3), (.int p2), (.int p1), .null, (.int p0), (.ref b1), (.ref b1)])) := fun t k => G6 t (XS.iloadN X1.here hx rfl (hb hby at_8) rfl k)
  have G8 : own_Go p.tables e below (s₁.setTop (entryFrame m #[(.int p0), (.int p1), (.int p2), (.int p3), (.int p4)] maxLocals)) (T1.setTop (mkF m 10 #[.val (.int p0), .val (.int p1), .val (.int p2), .val (.int p3), .val (.int p4), .unset, .unset, .unset, .unset, .unset, .unset, .unset, .unset, .unset] [.null, (.int p3), (.int p2), (.int p1), .null, (.int p0), (.ref b1), (.ref b1)])) := fun t k => G7 t (XS.aconstNull X1.here hx rfl (hb hby at_9) k)
  have G9 : own_Go p.tables e below (s₁.setTop (entryFrame m #[(.int p0), (.int p1), (.int p2), (.int p3), (.int p4)] maxLocals)) (T1.setTop (mkF m 11 #[.val (.int p0), .val (.int p1), .val (.int p2), .val (.int p3), .val (.int p4), .unset, .unset, .unset, .unset, .unset, .unset, .unset, .unset, .unset] [.null, .null, (.int p3), (.int p2), (.int p1), .null, (.int p0), (.ref b1), (.ref b1)])) := fun t k => G8 t (XS.aconstNull X1.here hx rfl (hb hby at_10) k)
  have G10 : own_Go p.tables e below (s₁.setTop (entryFrame m #[(.int p0), (.int p1), (.int p2), (.int p3), (.int p4)] maxLocals)) (T1.setTop (mkF m 12 #[.val (.int p0), .val (.int p1), .val (.int p2), .val (.int p3), .val (.int p4), .unset, .unset, .unset, .unset, .unset, .unset, .unset, .unset, .unset] [.null, .null, .null, (.int p3), (.int p2), (.int p1), .null, (.int p0), (.ref b1), (.ref b1)])) := fun t k => G9 t (XS.aconstNull X1.here hx rfl (hb hby at_11) k)
  obtain ⟨vv11, _, ⟨T11, L11, k11, n11⟩, -, X11, ⟨Lc11, hQ11, l11, y11, z11⟩, st11⟩ := X1.specialBack hx (y := (⟨"com/example/earnest_broker/earnestbroker/remoting/RemotingCommand", "<init>", "(ILjava/lang/String;IIILjava/lang/String;Ljava/util/Map;[B)V"⟩ : MethodName)) rfl hown (mvT hZ (hw _ (List.mem_of_getElem? (i := 3) rfl))) (mvT hZ (hw _ (List.mem_of_getElem? (i := 4) rfl))) (mvT hZ (hw _ (List.mem_of_getElem? (i := 5) rfl))) (by decide) (backOf (W := 1) (rm3 l Z aw hw [] b1 p0 p1 p2 p3 aM aB h1 O1 gn_b1 A1 F1_code F1_language F1_version F1_opaque F1_flag F1_remark F1_extFields F1_body S_M S_B) hZ (hw _ (List.mem_of_getElem? (i := 5) rfl)) (hw _ (List.mem_of_getElem? (i := 2) rfl)) (by decide) (by decide)) (g := (mkF m 12 #[.val (.int p0), .val (.int p1), .val (.int p2), .val (.int p3), .val (.int p4), .unset, .unset, .unset, .unset, .unset, .unset, .unset, .unset, .unset] [.null, .null, .null, (.int p3), (.int p2), (.int p1), .null, (.int p0), (.ref b1), (.ref b1)])) rfl (by rw [hml]; rfl) (Steps.refl _) (a := b1) (argsL := [(.int p0), .null, (.int p1), (.int p2), (.int p3), .null, .null, .null]) (rest := [(.ref b1)]) (lenOf pd_0_2 rfl) rfl (by show 2 * 0 + _ ≤ _; exact Nat.le_of_eq rfl) (hb hby at_12) (fun _ _ => ⟨rfl, e1, (by decide : 1 + 0 ≤ _), (by decide : 8 + 0 ≤ _)⟩)
  dsimp only [Pt.U, Pt.locs, Pt.cells, Pt.slots] at X11 l11 y11 z11 st11 hQ11
  subst l11 y11 z11
  obtain ⟨rfl, Nq11, Kq11, g11_0, g11_1, g11_2, g11_3⟩ := hQ11
  have N11 := Fr.app N0 Nq11
  have O11 := O1.keep Kq11 (allS gn_b1 all0)
  have K11 := K1.trans Kq11 (allS (Or.inr sz_b1) all0)
  have hk := Nat.le_trans hk Kq11.1
  have G11 : own_Go p.tables e below (s₁.setTop (entryFrame m #[(.int p0), (.int p1), (.int p2), (.int p3), (.int p4)] maxLocals)) (T11.setTop (mkF m 15 #[.val (.int p0), .val (.int p1), .val (.int p2), .val (.int p3), .val (.int p4), .unset, .unset, .unset, .unset, .unset, .unset, .unset, .unset, .unset] [(.ref b1)])) := fun t k => G10 t (st11.trans k)
  have G12 : own_Go p.tables e below (s₁.setTop (entryFrame m #[(.int p0), (.int p1), (.int p2), (.int p3), (.int p4)] maxLocals)) (T11.setTop (mkF m 17 #[.val (.int p0), .val (.int p1), .val (.int p2), .val (.int p3), .val (.int p4), .val (.ref b1), .unset, .unset, .unset, .unset, .unset, .unset, .unset, .unset] [])) := fun t k => G11 t (XS.astore X11.here hx rfl (hb hby at_15) rfl rfl (l' := #[.val (.int p0), .val (.int p1), .val (.int p2), .val (.int p3), .val (.int p4), .val (.ref b1), .unset, .unset, .unset, .unset, .unset, .unset, .unset, .unset]) rfl k)
  obtain ⟨T13, h13, X13, e13, E13, A13, D13, U13, st13⟩ := newO X11 hx hZ hown (hw _ (List.mem_of_getElem? (i := 0) rfl)) (hw _ (List.mem_of_getElem? (i := 1) rfl)) (hw _ (List.mem_of_getElem? (i := 2) rfl)) rfl (g := (mkF m 17 #[.val (.int p0), .val (.int p1), .val (.int p2), .val (.int p3), .val (.int p4), .val (.ref b1), .unset, .unset, .unset, .unset, .unset, .unset, .unset, .unset] [])) rfl (hb hby at_17) (by decide) (by decide)
  obtain ⟨b13, g13⟩ : ∃ z, z = T11.heap.size := ⟨_, rfl⟩
  rw [← g13] at A13 D13 U13 st13
  have ne_b1_b13 : b1 ≠ b13 := Nat.ne_of_lt (Nat.lt_of_lt_of_le g11_0.lt (Nat.le_of_eq g13.symm))
  have gn_b13 : Z.heap.size ≤ b13 := Nat.le_trans O11.2.1 (Nat.le_of_eq g13.symm)
  have sz_b13 : h0.size ≤ b13 := Nat.le_trans K11.1 (Nat.le_of_eq g13.symm)
  have O13 := O11.ext E13
  have K13 := K11.ext E13
  have hk := Nat.le_trans hk E13.1
  have F13_code : Fld Z h13 b13 "com/example/earnest_broker/earnestbroker/remoting/RemotingCommand" "code" "I" (.int (0 : Int32)) := D13 (Or.inr (hw _ (List.mem_of_getElem? (i := 23) rfl))) (ty := .int) (by decide)
  have F13_language : Fld Z h13 b13 "com/example/earnest_broker/earnestbroker/remoting/RemotingCommand" "language" "Ljava/lang/String;" .null := D13 (Or.inr (hw _ (List.mem_of_getElem? (i := 25) rfl))) (ty := (.object "java/lang/String")) (by decide)
  have F13_version : Fld Z h13 b13 "com/example/earnest_broker/earnestbroker/remoting/RemotingCommand" "version" "I" (.int (0 : Int32)) := D13 (Or.inr (hw _ (List.mem_of_getElem? (i := 27) rfl))) (ty := .int) (by decide)
  have F13_opaque : Fld Z h13 b13 "com/example/earnest_broker/earnestbroker/remoting/RemotingCommand" "opaque" "I" (.int (0 : Int32)) := D13 (Or.inr (hw _ (List.mem_of_getElem? (i := 29) rfl))) (ty := .int) (by decide)
  have F13_flag : Fld Z h13 b13 "com/example/earnest_broker/earnestbroker/remoting/RemotingCommand" "flag" "I" (.int (0 : Int32)) := D13 (Or.inr (hw _ (List.mem_of_getElem? (i := 31) rfl))) (ty := .int) (by decide)
  have F13_remark : Fld Z h13 b13 "com/example/earnest_broker/earnestbroker/remoting/RemotingCommand" "remark" "Ljava/lang/String;" .null := D13 (Or.inr (hw _ (List.mem_of_getElem? (i := 33) rfl))) (ty := (.object "java/lang/String")) (by decide)
  have F13_extFields : Fld Z h13 b13 "com/example/earnest_broker/earnestbroker/remoting/RemotingCommand" "extFields" "Ljava/util/Map;" .null := D13 (Or.inr (hw _ (List.mem_of_getElem? (i := 35) rfl))) (ty := (.object "java/util/Map")) (by decide)
  have F13_body : Fld Z h13 b13 "com/example/earnest_broker/earnestbroker/remoting/RemotingCommand" "body" "[B" .null := D13 (Or.inr (hw _ (List.mem_of_getElem? (i := 37) rfl))) (ty := (.array .byte)) (by decide)
  have G13 : own_Go p.tables e below (s₁.setTop (entryFrame m #[(.int p0), (.int p1), (.int p2), (.int p3), (.int p4)] maxLocals)) (T13.setTop (mkF m 20 #[.val (.int p0), .val (.int p1), .val (.int p2), .val (.int p3), .val (.int p4), .val (.ref b1), .unset, .unset, .unset, .unset, .unset, .unset, .unset, .unset] [(.ref b13)])) := fun t k => G12 t (st13 t k)
  have G14 : own_Go p.tables e below (s₁.setTop (entryFrame m #[(.int p0), (.int p1), (.int p2), (.int p3), (.int p4)] maxLocals)) (T13.setTop (mkF m 21 #[.val (.int p0), .val (.int p1), .val (.int p2), .val (.int p3), .val (.int p4), .val (.ref b1), .unset, .unset, .unset, .unset, .unset, .unset, .unset, .unset] [(.ref b13), (.ref b13)])) := fun t k => G13 t (XS.dup X13.here hx rfl (hb hby at_20) rfl rfl k)
  have G15 : own_Go p.tables e below (s₁.setTop (entryFrame m #[(.int p0), (.int p1), (.int p2), (.int p3), (.int p4)] maxLocals)) (T13.setTop (mkF m 23 #[.val (.int p0), .val (.int p1), .val (.int p2), .val (.int p3), .val (.int p4), .val (.ref b1), .unset, .unset, .unset, .unset, .unset, .unset, .unset, .unset] [(.int p4), (.ref b13), (.ref b13)])) := fun t k => G14 t (XS.iload X13.here hx rfl (hb hby at_21) rfl k)
  have G16 : own_Go p.tables e below (s₁.setTop (entryFrame m #[(.int p0), (.int p1), (.int p2), (.int p3), (.int p4)] maxLocals)) (T13.setTop (mkF m 24 #[.val (.int p0), .val (.int p1), .val (.int p2), .val (.int p3), .val (.int p4), .val (.ref b1), .unset, .unset, .unset, .unset, .unset, .unset, .unset, .unset] [.null, (.int p4), (.ref b13), (.ref b13)])) := fun t k => G15 t (XS.aconstNull X13.here hx rfl (hb hby at_23) k)
  have G17 : own_Go p.tables e below (s₁.setTop (entryFrame m #[(.int p0), (.int p1), (.int p2), (.int p3), (.int p4)] maxLocals)) (T13.setTop (mkF m 25 #[.val (.int p0), .val (.int p1), .val (.int p2), .val (.int p3), .val (.int p4), .val (.ref b1), .unset, .unset, .unset, .unset, .unset, .unset, .unset, .unset] [(.int p2), .null, (.int p4), (.ref b13), (.ref b13)])) := fun t k => G16 t (XS.iloadN X13.here hx rfl (hb hby at_24) rfl k)
  have G18 : own_Go p.tables e below (s₁.setTop (entryFrame m #[(.int p0), (.int p1), (.int p2), (.int p3), (.int p4)] maxLocals)) (T13.setTop (mkF m 26 #[.val (.int p0), .val (.int p1), .val (.int p2), .val (.int p3), .val (.int p4), .val (.ref b1), .unset, .unset, .unset, .unset, .unset, .unset, .unset, .unset] [(.int p1), (.int p2), .null, (.int p4), (.ref b13), (.ref b13)])) := fun t k => G17 t (XS.iloadN X13.here hx rfl (hb hby at_25) rfl k)
  have G19 : own_Go p.tables e below (s₁.setTop (entryFrame m #[(.int p0), (.int p1), (.int p2), (.int p3), (.int p4)] maxLocals)) (T13.setTop (mkF m 27 #[.val (.int p0), .val (.int p1), .val (.int p2), .val (.int p3), .val (.int p4), .val (.ref b1), .unset, .unset, .unset, .unset, .unset, .unset, .unset, .unset] [(.int p3), (.int p1), (.int p2), .null, (.int p4), (.ref b13), (.ref b13)])) := fun t k => G18 t (XS.iloadN X13.here hx rfl (hb hby at_26) rfl k)
  have G20 : own_Go p.tables e below (s₁.setTop (entryFrame m #[(.int p0), (.int p1), (.int p2), (.int p3), (.int p4)] maxLocals)) (T13.setTop (mkF m 28 #[.val (.int p0), .val (.int p1), .val (.int p2), .val (.int p3), .val (.int p4), .val (.ref b1), .unset, .unset, .unset, .unset, .unset, .unset, .unset, .unset] [(.int (2 : Int32)), (.int p3), (.int p1), (.int p2), .null, (.int p4), (.ref b13), (.ref b13)])) := fun t k => G19 t (XT.iconstV X13.here hx rfl (2 : Int32) (hb hby at_27) (by decide) k)
  have G21 : own_Go p.tables e below (s₁.setTop (entryFrame m #[(.int p0), (.int p1), (.int p2), (.int p3), (.int p4)] maxLocals)) (T13.setTop (mkF m 29 #[.val (.int p0), .val (.int p1), .val (.int p2), .val (.int p3), .val (.int p4), .val (.ref b1), .unset, .unset, .unset, .unset, .unset, .unset, .unset, .unset] [(.int (p3 ^^^ (2 : Int32))), (.int p1), (.int p2), .null, (.int p4), (.ref b13), (.ref b13)])) := fun t k => G20 t (XS.ixor X13.here hx rfl (hb hby at_28) rfl k)
  have G22 : own_Go p.tables e below (s₁.setTop (entryFrame m #[(.int p0), (.int p1), (.int p2), (.int p3), (.int p4)] maxLocals)) (T13.setTop (mkF m 30 #[.val (.int p0), .val (.int p1), .val (.int p2), .val (.int p3), .val (.int p4), .val (.ref b1), .unset, .unset, .unset, .unset, .unset, .unset, .unset, .unset] [.null, (.int (p3 ^^^ (2 : Int32))), (.int p1), (.int p2), .null, (.int p4), (.ref b13), (.ref b13)])) := fun t k => G21 t (XS.aconstNull X13.here hx rfl (hb hby at_29) k)
  have G23 : own_Go p.tables e below (s₁.setTop (entryFrame m #[(.int p0), (.int p1), (.int p2), (.int p3), (.int p4)] maxLocals)) (T13.setTop (mkF m 31 #[.val (.int p0), .val (.int p1), .val (.int p2), .val (.int p3), .val (.int p4), .val (.ref b1), .unset, .unset, .unset, .unset, .unset, .unset, .unset, .unset] [.null, .null, (.int (p3 ^^^ (2 : Int32))), (.int p1), (.int p2), .null, (.int p4), (.ref b13), (.ref b13)])) := fun t k => G22 t (XS.aconstNull X13.here hx rfl (hb hby at_30) k)
  have G24 : own_Go p.tables e below (s₁.setTop (entryFrame m #[(.int p0), (.int p1), (.int p2), (.int p3), (.int p4)] maxLocals)) (T13.setTop (mkF m 32 #[.val (.int p0), .val (.int p1), .val (.int p2), .val (.int p3), .val (.int p4), .val (.ref b1), .unset, .unset, .unset, .unset, .unset, .unset, .unset, .unset] [.null, .null, .null, (.int (p3 ^^^ (2 : Int32))), (.int p1), (.int p2), .null, (.int p4), (.ref b13), (.ref b13)])) := fun t k => G23 t (XS.aconstNull X13.here hx rfl (hb hby at_31) k)
  obtain ⟨vv25, _, ⟨T25, L25, k25, n25⟩, -, X25, ⟨Lc25, hQ25, l25, y25, z25⟩, st25⟩ := X13.specialBack hx (y := (⟨"com/example/earnest_broker/earnestbroker/remoting/RemotingCommand", "<init>", "(ILjava/lang/String;IIILjava/lang/String;Ljava/util/Map;[B)V"⟩ : MethodName)) rfl hown (mvT hZ (hw _ (List.mem_of_getElem? (i := 3) rfl))) (mvT hZ (hw _ (List.mem_of_getElem? (i := 4) rfl))) (mvT hZ (hw _ (List.mem_of_getElem? (i := 5) rfl))) (by decide) (backOf (W := 1) (rm3 l Z aw hw [] b13 p4 p2 p1 (p3 ^^^ (2 : Int32)) aM aB h13 O13 gn_b13 A13 F13_code F13_language F13_version F13_opaque F13_flag F13_remark F13_extFields F13_body S_M S_B) hZ (hw _ (List.mem_of_getElem? (i := 5) rfl)) (hw _ (List.mem_of_getElem? (i := 2) rfl)) (by decide) (by decide)) (g := (mkF m 32 #[.val (.int p0), .val (.int p1), .val (.int p2), .val (.int p3), .val (.int p4), .val (.ref b1), .unset, .unset, .unset, .unset, .unset, .unset, .unset, .unset] [.null, .null, .null, (.int (p3 ^^^ (2 : Int32))), (.int p1), (.int p2), .null, (.int p4), (.ref b13), (.ref b13)])) rfl (by rw [hml]; rfl) (Steps.refl _) (a := b13) (argsL := [(.int p4), .null, (.int p2), (.int p1), (.int (p3 ^^^ (2 : Int32))), .null, .null, .null]) (rest := [(.ref b13)]) (lenOf pd_0_2 rfl) rfl (by show 2 * 0 + _ ≤ _; exact Nat.le_of_eq rfl) (hb hby at_32) (fun _ _ => ⟨rfl, e13, (by decide : 2 + 0 ≤ _), (by decide : 16 + 0 ≤ _)⟩)
  dsimp only [Pt.U, Pt.locs, Pt.cells, Pt.slots] at X25 l25 y25 z25 st25 hQ25
  subst l25 y25 z25
  obtain ⟨rfl, Nq25, Kq25, g25_0, g25_1, g25_2, g25_3⟩ := hQ25
  have N25 := Fr.app N11 Nq25
  have O25 := O13.keep Kq25 (allS gn_b13 all0)
  have K25 := K13.trans Kq25 (allS (Or.inr sz_b13) all0)
  have hk := Nat.le_trans hk Kq25.1
  have G25 : own_Go p.tables e below (s₁.setTop (entryFrame m #[(.int p0), (.int p1), (.int p2), (.int p3), (.int p4)] maxLocals)) (T25.setTop (mkF m 35 #[.val (.int p0), .val (.int p1), .val (.int p2), .val (.int p3), .val (.int p4), .val (.ref b1), .unset, .unset, .unset, .unset, .unset, .unset, .unset, .unset] [(.ref b13)])) := fun t k => G24 t (st25.trans k)
  have G26 : own_Go p.tables e below (s₁.setTop (entryFrame m #[(.int p0), (.int p1), (.int p2), (.int p3), (.int p4)] maxLocals)) (T25.setTop (mkF m 37 #[.val (.int p0), .val (.int p1), .val (.int p2), .val (.int p3), .val (.int p4), .val (.ref b1), .val (.ref b13), .unset, .unset, .unset, .unset, .unset, .unset, .unset] [])) := fun t k => G25 t (XS.astore X25.here hx rfl (hb hby at_35) rfl rfl (l' := #[.val (.int p0), .val (.int p1), .val (.int p2), .val (.int p3), .val (.int p4), .val (.ref b1), .val (.ref b13), .unset, .unset, .unset, .unset, .unset, .unset, .unset]) rfl k)
  obtain ⟨T27, h27, X27, e27, E27, A27, D27, U27, st27⟩ := newO X25 hx hZ hown (hw _ (List.mem_of_getElem? (i := 0) rfl)) (hw _ (List.mem_of_getElem? (i := 1) rfl)) (hw _ (List.mem_of_getElem? (i := 2) rfl)) rfl (g := (mkF m 37 #[.val (.int p0), .val (.int p1), .val (.int p2), .val (.int p3), .val (.int p4), .val (.ref b1), .val (.ref b13), .unset, .unset, .unset, .unset, .unset, .unset, .unset] [])) rfl (hb hby at_37) (by decide) (by decide)
  obtain ⟨b27, g27⟩ : ∃ z, z = T25.heap.size := ⟨_, rfl⟩
  rw [← g27] at A27 D27 U27 st27
  have f28 : Exa Z T25.heap b1 "com/example/earnest_broker/earnestbroker/remoting/RemotingCommand" := ((g11_0.ext E13).keep Kq25)
  have ne_b1_b27 : b1 ≠ b27 := Nat.ne_of_lt (Nat.lt_of_lt_of_le f28.lt (Nat.le_of_eq g27.symm))
  have ne_b13_b27 : b13 ≠ b27 := Nat.ne_of_lt (Nat.lt_of_lt_of_le g25_0.lt (Nat.le_of_eq g27.symm))
  have gn_b27 : Z.heap.size ≤ b27 := Nat.le_trans O25.2.1 (Nat.le_of_eq g27.symm)
  have sz_b27 : h0.size ≤ b27 := Nat.le_trans K25.1 (Nat.le_of_eq g27.symm)
  have O27 := O25.ext E27
  have K27 := K25.ext E27
  have hk := Nat.le_trans hk E27.1
  have F27_code : Fld Z h27 b27 "com/example/earnest_broker/earnestbroker/remoting/RemotingCommand" "code" "I" (.int (0 : Int32)) := D27 (Or.inr (hw _ (List.mem_of_getElem? (i := 23) rfl))) (ty := .int) (by decide)
  have F27_language : Fld Z h27 b27 "com/example/earnest_broker/earnestbroker/remoting/RemotingCommand" "language" "Ljava/lang/String;" .null := D27 (Or.inr (hw _ (List.mem_of_getElem? (i := 25) rfl))) (ty := (.object "java/lang/String")) (by decide)
  have F27_version : Fld Z h27 b27 "com/example/earnest_broker/earnestbroker/remoting/RemotingCommand" "version" "I" (.int (0 : Int32)) := D27 (Or.inr (hw _ (List.mem_of_getElem? (i := 27) rfl))) (ty := .int) (by decide)
  have F27_opaque : Fld Z h27 b27 "com/example/earnest_broker/earnestbroker/remoting/RemotingCommand" "opaque" "I" (.int (0 : Int32)) := D27 (Or.inr (hw _ (List.mem_of_getElem? (i := 29) rfl))) (ty := .int) (by decide)
  have F27_flag : Fld Z h27 b27 "com/example/earnest_broker/earnestbroker/remoting/RemotingCommand" "flag" "I" (.int (0 : Int32)) := D27 (Or.inr (hw _ (List.mem_of_getElem? (i := 31) rfl))) (ty := .int) (by decide)
  have F27_remark : Fld Z h27 b27 "com/example/earnest_broker/earnestbroker/remoting/RemotingCommand" "remark" "Ljava/lang/String;" .null := D27 (Or.inr (hw _ (List.mem_of_getElem? (i := 33) rfl))) (ty := (.object "java/lang/String")) (by decide)
  have F27_extFields : Fld Z h27 b27 "com/example/earnest_broker/earnestbroker/remoting/RemotingCommand" "extFields" "Ljava/util/Map;" .null := D27 (Or.inr (hw _ (List.mem_of_getElem? (i := 35) rfl))) (ty := (.object "java/util/Map")) (by decide)
  have F27_body : Fld Z h27 b27 "com/example/earnest_broker/earnestbroker/remoting/RemotingCommand" "body" "[B" .null := D27 (Or.inr (hw _ (List.mem_of_getElem? (i := 37) rfl))) (ty := (.array .byte)) (by decide)
  have G27 : own_Go p.tables e below (s₁.setTop (entryFrame m #[(.int p0), (.int p1), (.int p2), (.int p3), (.int p4)] maxLocals)) (T27.setTop (mkF m 40 #[.val (.int p0), .val (.int p1), .val (.int p2), .val (.int p3), .val (.int p4), .val (.ref b1), .val (.ref b13), .unset, .unset, .unset, .unset, .unset, .unset, .unset] [(.ref b27)])) := fun t k => G26 t (st27 t k)
  have G29 : own_Go p.tables e below (s₁.setTop (entryFrame m #[(.int p0), (.int p1), (.int p2), (.int p3), (.int p4)] maxLocals)) (T27.setTop (mkF m 41 #[.val (.int p0), .val (.int p1), .val (.int p2), .val (.int p3), .val (.int p4), .val (.ref b1), .val (.ref b13), .unset, .unset, .unset, .unset, .unset, .unset, .unset] [(.ref b27), (.ref b27)])) := fun t k => G27 t (XS.dup X27.here hx rfl (hb hby at_40) rfl rfl k)
  have G30 : own_Go p.tables e below (s₁.setTop (entryFrame m #[(.int p0), (.int p1), (.int p2), (.int p3), (.int p4)] maxLocals)) (T27.setTop (mkF m 42 #[.val (.int p0), .val (.int p1), .val (.int p2), .val (.int p3), .val (.int p4), .val (.ref b1), .val (.ref b13), .unset, .unset, .unset, .unset, .unset, .unset, .unset] [(.int p0), (.ref b27), (.ref b27)])) := fun t k => G29 t (XS.iloadN X27.here hx rfl (hb hby at_41) rfl k)
  have G31 : own_Go p.tables e below (s₁.setTop (entryFrame m #[(.int p0), (.int p1), (.int p2), (.int p3), (.int p4)] maxLocals)) (T27.setTop (mkF m 43 #[.val (.int p0), .val (.int p1), .val (.int p2), .val (.int p3), .val (.int p4), .val (.ref b1), .val (.ref b13), .unset, .unset, .unset, .unset, .unset, .unset, .unset] [.null, (.int p0), (.ref b27), (.ref b27)])) := fun t k => G30 t (XS.aconstNull X27.here hx rfl (hb hby at_42) k)
  have G32 : own_Go p.tables e below (s₁.setTop (entryFrame m #[(.int p0), (.int p1), (.int p2), (.int p3), (.int p4)] maxLocals)) (T27.setTop (mkF m 44 #[.val (.int p0), .val (.int p1), .val (.int p2), .val (.int p3), .val (.int p4), .val (.ref b1), .val (.ref b13), .unset, .unset, .unset, .unset, .unset, .unset, .unset] [(.int p1), .null, (.int p0), (.ref b27), (.ref b27)])) := fun t k => G31 t (XS.iloadN X27.here hx rfl (hb hby at_43) rfl k)
  have G33 : own_Go p.tables e below (s₁.setTop (entryFrame m #[(.int p0), (.int p1), (.int p2), (.int p3), (.int p4)] maxLocals)) (T27.setTop (mkF m 45 #[.val (.int p0), .val (.int p1), .val (.int p2), .val (.int p3), .val (.int p4), .val (.ref b1), .val (.ref b13), .unset, .unset, .unset, .unset, .unset, .unset, .unset] [(.int p2), (.int p1), .null, (.int p0), (.ref b27), (.ref b27)])) := fun t k => G32 t (XS.iloadN X27.here hx rfl (hb hby at_44) rfl k)
  have G34 : own_Go p.tables e below (s₁.setTop (entryFrame m #[(.int p0), (.int p1), (.int p2), (.int p3), (.int p4)] maxLocals)) (T27.setTop (mkF m 46 #[.val (.int p0), .val (.int p1), .val (.int p2), .val (.int p3), .val (.int p4), .val (.ref b1), .val (.ref b13), .unset, .unset, .unset, .unset, .unset, .unset, .unset] [(.int p3), (.int p2), (.int p1), .null, (.int p0), (.ref b27), (.ref b27)])) := fun t k => G33 t (XS.iloadN X27.here hx rfl (hb hby at_45) rfl k)
  have G35 : own_Go p.tables e below (s₁.setTop (entryFrame m #[(.int p0), (.int p1), (.int p2), (.int p3), (.int p4)] maxLocals)) (T27.setTop (mkF m 47 #[.val (.int p0), .val (.int p1), .val (.int p2), .val (.int p3), .val (.int p4), .val (.ref b1), .val (.ref b13), .unset, .unset, .unset, .unset, .unset, .unset, .unset] [(.int (1 : Int32)), (.int p3), (.int p2), (.int p1), .null, (.int p0), (.ref b27), (.ref b27)])) := fun t k => G34 t (XT.iconstV X27.here hx rfl (1 : Int32) (hb hby at_46) (by decide) k)
  have G36 : own_Go p.tables e below (s₁.setTop (entryFrame m #[(.int p0), (.int p1), (.int p2), (.int p3), (.int p4)] maxLocals)) (T27.setTop (mkF m 48 #[.val (.int p0), .val (.int p1), .val (.int p2), .val (.int p3), .val (.int p4), .val (.ref b1), .val (.ref b13), .unset, .unset, .unset, .unset, .unset, .unset, .unset] [(.int (p3 ^^^ (1 : Int32))), (.int p2), (.int p1), .null, (.int p0), (.ref b27), (.ref b27)])) := fun t k => G35 t (XS.ixor X27.here hx rfl (hb hby at_47) rfl k)
  have G37 : own_Go p.tables e below (s₁.setTop (entryFrame m #[(.int p0), (.int p1), (.int p2), (.int p3), (.int p4)] maxLocals)) (T27.setTop (mkF m 49 #[.val (.int p0), .val (.int p1), .val (.int p2), .val (.int p3), .val (.int p4), .val (.ref b1), .val (.ref b13), .unset, .unset, .unset, .unset, .unset, .unset, .unset] [.null, (.int (p3 ^^^ (1 : Int32))), (.int p2), (.int p1), .null, (.int p0), (.ref b27), (.ref b27)])) := fun t k => G36 t (XS.aconstNull X27.here hx rfl (hb hby at_48) k)
  have G38 : own_Go p.tables e below (s₁.setTop (entryFrame m #[(.int p0), (.int p1), (.int p2), (.int p3), (.int p4)] maxLocals)) (T27.setTop (mkF m 50 #[.val (.int p0), .val (.int p1), .val (.int p2), .val (.int p3), .val (.int p4), .val (.ref b1), .val (.ref b13), .unset, .unset, .unset, .unset, .unset, .unset, .unset] [.null, .null, (.int (p3 ^^^ (1 : Int32))), (.int p2), (.int p1), .null, (.int p0), (.ref b27), (.ref b27)])) := fun t k => G37 t (XS.aconstNull X27.here hx rfl (hb hby at_49) k)
  have G39 : own_Go p.tables e below (s₁.setTop (entryFrame m #[(.int p0), (.int p1), (.int p2), (.int p3), (.int p4)] maxLocals)) (T27.setTop (mkF m 51 #[.val (.int p0), .val (.int p1), .val (.int p2), .val (.int p3), .val (.int p4), .val (.ref b1), .val (.ref b13), .unset, .unset, .unset, .unset, .unset, .unset, .unset] [.null, .null, .null, (.int (p3 ^^^ (1 : Int32))), (.int p2), (.int p1), .null, (.int p0), (.ref b27), (.ref b27)])) := fun t k => G38 t (XS.aconstNull X27.here hx rfl (hb hby at_50) k)
  obtain ⟨vv40, _, ⟨T40, L40, k40, n40⟩, -, X40, ⟨Lc40, hQ40, l40, y40, z40⟩, st40⟩ := X27.specialBack hx (y := (⟨"com/example/earnest_broker/earnestbroker/remoting/RemotingCommand", "<init>", "(ILjava/lang/String;IIILjava/lang/String;Ljava/util/Map;[B)V"⟩ : MethodName)) rfl hown (mvT hZ (hw _ (List.mem_of_getElem? (i := 3) rfl))) (mvT hZ (hw _ (List.mem_of_getElem? (i := 4) rfl))) (mvT hZ (hw _ (List.mem_of_getElem? (i := 5) rfl))) (by decide) (backOf (W := 1) (rm3 l Z aw hw [] b27 p0 p1 p2 (p3 ^^^ (1 : Int32)) aM aB h27 O27 gn_b27 A27 F27_code F27_language F27_version F27_opaque F27_flag F27_remark F27_extFields F27_body S_M S_B) hZ (hw _ (List.mem_of_getElem? (i := 5) rfl)) (hw _ (List.mem_of_getElem? (i := 2) rfl)) (by decide) (by decide)) (g := (mkF m 51 #[.val (.int p0), .val (.int p1), .val (.int p2), .val (.int p3), .val (.int p4), .val (.ref b1), .val (.ref b13), .unset, .unset, .unset, .unset, .unset, .unset, .unset] [.null, .null, .null, (.int (p3 ^^^ (1 : Int32))), (.int p2), (.int p1), .null, (.int p0), (.ref b27), (.ref b27)])) rfl (by rw [hml]; rfl) (Steps.refl _) (a := b27) (argsL := [(.int p0), .null, (.int p1), (.int p2), (.int (p3 ^^^ (1 : Int32))), .null, .null, .null]) (rest := [(.ref b27)]) (lenOf pd_0_2 rfl) rfl (by show 2 * 0 + _ ≤ _; exact Nat.le_of_eq rfl) (hb hby at_51) (fun _ _ => ⟨rfl, e27, (by decide : 3 + 0 ≤ _), (by decide : 24 + 0 ≤ _)⟩)
  dsimp only [Pt.U, Pt.locs, Pt.cells, Pt.slots] at X40 l40 y40 z40 st40 hQ40
  subst l40 y40 z40
  obtain ⟨rfl, Nq40, Kq40, g40_0, g40_1, g40_2, g40_3⟩ := hQ40
  have N40 := Fr.app N25 Nq40
  have O40 := O27.keep Kq40 (allS gn_b27 all0)
  have K40 := K27.trans Kq40 (allS (Or.inr sz_b27) all0)
  have hk := Nat.le_trans hk Kq40.1
  have G40 : own_Go p.tables e below (s₁.setTop (entryFrame m #[(.int p0), (.int p1), (.int p2), (.int p3), (.int p4)] maxLocals)) (T40.setTop (mkF m 54 #[.val (.int p0), .val (.int p1), .val (.int p2), .val (.int p3), .val (.int p4), .val (.ref b1), .val (.ref b13), .unset, .unset, .unset, .unset, .unset, .unset, .unset] [(.ref b27)])) := fun t k => G39 t (st40.trans k)
  have G41 : own_Go p.tables e below (s₁.setTop (entryFrame m #[(.int p0), (.int p1), (.int p2), (.int p3), (.int p4)] maxLocals)) (T40.setTop (mkF m 56 #[.val (.int p0), .val (.int p1), .val (.int p2), .val (.int p3), .val (.int p4), .val (.ref b1), .val (.ref b13), .val (.ref b27), .unset, .unset, .unset, .unset, .unset, .unset] [])) := fun t k => G40 t (XS.astore X40.here hx rfl (hb hby at_54) rfl rfl (l' := #[.val (.int p0), .val (.int p1), .val (.int p2), .val (.int p3), .val (.int p4), .val (.ref b1), .val (.ref b13), .val (.ref b27), .unset, .unset, .unset, .unset, .unset, .unset]) rfl k)
  have G42 : own_Go p.tables e below (s₁.setTop (entryFrame m #[(.int p0), (.int p1), (.int p2), (.int p3), (.int p4)] maxLocals)) (T40.setTop (mkF m 57 #[.val (.int p0), .val (.int p1), .val (.int p2), .val (.int p3), .val (.int p4), .val (.ref b1), .val (.ref b13), .val (.ref b27), .unset, .unset, .unset, .unset, .unset, .unset] [(.int p3)])) := fun t k => G41 t (XS.iloadN X40.here hx rfl (hb hby at_56) rfl k)
  have G43 : own_Go p.tables e below (s₁.setTop (entryFrame m #[(.int p0), (.int p1), (.int p2), (.int p3), (.int p4)] maxLocals)) (T40.setTop (mkF m 58 #[.val (.int p0), .val (.int p1), .val (.int p2), .val (.int p3), .val (.int p4), .val (.ref b1), .val (.ref b13), .val (.ref b27), .unset, .unset, .unset, .unset, .unset, .unset] [(.int (2 : Int32)), (.int p3)])) := fun t k => G42 t (XT.iconstV X40.here hx rfl (2 : Int32) (hb hby at_57) (by decide) k)
  have G44 : own_Go p.tables e below (s₁.setTop (entryFrame m #[(.int p0), (.int p1), (.int p2), (.int p3), (.int p4)] maxLocals)) (T40.setTop (mkF m 59 #[.val (.int p0), .val (.int p1), .val (.int p2), .val (.int p3), .val (.int p4), .val (.ref b1), .val (.ref b13), .val (.ref b27), .unset, .unset, .unset, .unset, .unset, .unset] [(.int (p3 % (2 : Int32)))])) := fun t k => G43 t (iremM X40 hx rfl (hb hby at_58) rfl (by decide) k)
  obtain ⟨z45_0, hz45_0, G45⟩ : ∃ (z45_0 : Int32), z45_0 = (if (p3 % (2 : Int32)) = (0 : Int32) then (0 : Int32) else (1 : Int32)) ∧ own_Go p.tables e below (s₁.setTop (entryFrame m #[(.int p0), (.int p1), (.int p2), (.int p3), (.int p4)] maxLocals)) (T40.setTop (mkF m 67 #[.val (.int p0), .val (.int p1), .val (.int p2), .val (.int p3), .val (.int p4), .val (.ref b1), .val (.ref b13), .val (.ref b27), .unset, .unset, .unset, .unset, .unset, .unset] [(.int z45_0)])) := by
    by_cases hc45 : (p3 % (2 : Int32)) = (0 : Int32)
    · have G46 : own_Go p.tables e below (s₁.setTop (entryFrame m #[(.int p0), (.int p1), (.int p2), (.int p3), (.int p4)] maxLocals)) (T40.setTop (mkF m 66 #[.val (.int p0), .val (.int p1), .val (.int p2), .val (.int p3), .val (.int p4), .val (.ref b1), .val (.ref b13), .val (.ref b27), .unset, .unset, .unset, .unset, .unset, .unset] [])) := fun t k => G44 t (XS.ifYes X40.here hx rfl (pc0 := 59) (pc' := 66) rfl (hb hby at_59) rfl ((if0 _ _).trans (teq hc45).1) (by decide) (by decide) k)
      have G47 : own_Go p.tables e below (s₁.setTop (entryFrame m #[(.int p0), (.int p1), (.int p2), (.int p3), (.int p4)] maxLocals)) (T40.setTop (mkF m 67 #[.val (.int p0), .val (.int p1), .val (.int p2), .val (.int p3), .val (.int p4), .val (.ref b1), .val (.ref b13), .val (.ref b27), .unset, .unset, .unset, .unset, .unset, .unset] [(.int (0 : Int32))])) := fun t k => G46 t (XT.iconstV X40.here hx rfl (0 : Int32) (hb hby at_66) (by decide) k)
      exact ⟨_, (if_pos hc45).symm, G47⟩
    · have G48 : own_Go p.tables e below (s₁.setTop (entryFrame m #[(.int p0), (.int p1), (.int p2), (.int p3), (.int p4)] maxLocals)) (T40.setTop (mkF m 62 #[.val (.int p0), .val (.int p1), .val (.int p2), .val (.int p3), .val (.int p4), .val (.ref b1), .val (.ref b13), .val (.ref b27), .unset, .unset, .unset, .unset, .unset, .unset] [])) := fun t k => G44 t (XS.ifNo X40.here hx rfl (hb hby at_59) rfl ((if0 _ _).trans (feq hc45).1) k)
      have G49 : own_Go p.tables e below (s₁.setTop (entryFrame m #[(.int p0), (.int p1), (.int p2), (.int p3), (.int p4)] maxLocals)) (T40.setTop (mkF m 63 #[.val (.int p0), .val (.int p1), .val (.int p2), .val (.int p3), .val (.int p4), .val (.ref b1), .val (.ref b13), .val (.ref b27), .unset, .unset, .unset, .unset, .unset, .unset] [(.int (1 : Int32))])) := fun t k => G48 t (XT.iconstV X40.here hx rfl (1 : Int32) (hb hby at_62) (by decide) k)
      have G50 : own_Go p.tables e below (s₁.setTop (entryFrame m #[(.int p0), (.int p1), (.int p2), (.int p3), (.int p4)] maxLocals)) (T40.setTop (mkF m 67 #[.val (.int p0), .val (.int p1), .val (.int p2), .val (.int p3), .val (.int p4), .val (.ref b1), .val (.ref b13), .val (.ref b27), .unset, .unset, .unset, .unset, .unset, .unset] [(.int (1 : Int32))])) := fun t k => G49 t (XS.goto X40.here hx rfl (pc0 := 63) (pc' := 67) rfl (hb hby at_63) (by decide) (by decide) k)
      exact ⟨_, (if_neg hc45).symm, G50⟩
  have G51 : own_Go p.tables e below (s₁.setTop (entryFrame m #[(.int p0), (.int p1), (.int p2), (.int p3), (.int p4)] maxLocals)) (T40.setTop (mkF m 69 #[.val (.int p0), .val (.int p1), .val (.int p2), .val (.int p3), .val (.int p4), .val (.ref b1), .val (.ref b13), .val (.ref b27), .val (.int z45_0), .unset, .unset, .unset, .unset, .unset] [])) := fun t k => G45 t (XS.istore X40.here hx rfl (hb hby at_67) rfl (l' := #[.val (.int p0), .val (.int p1), .val (.int p2), .val (.int p3), .val (.int p4), .val (.ref b1), .val (.ref b13), .val (.ref b27), .val (.int z45_0), .unset, .unset, .unset, .unset, .unset]) rfl k)
  have G52 : own_Go p.tables e below (s₁.setTop (entryFrame m #[(.int p0), (.int p1), (.int p2), (.int p3), (.int p4)] maxLocals)) (T40.setTop (mkF m 71 #[.val (.int p0), .val (.int p1), .val (.int p2), .val (.int p3), .val (.int p4), .val (.ref b1), .val (.ref b13), .val (.ref b27), .val (.int z45_0), .unset, .unset, .unset, .unset, .unset] [(.ref b1)])) := fun t k => G51 t (XS.aload X40.here hx rfl (hb hby at_69) rfl rfl k)
  have f53 : Exa Z T40.heap b1 "com/example/earnest_broker/earnestbroker/remoting/RemotingCommand" := ((f28.ext E27).keep Kq40)
  have f54 : Fld Z T40.heap b1 "com/example/earnest_broker/earnestbroker/remoting/RemotingCommand" "flag" "I" (.int p3) := ((((g11_3.ext E13).keep Kq25 (ninS ne_b1_b13 nin0)).ext E27).keep Kq40 (ninS ne_b1_b27 nin0))
  obtain ⟨cq55, kq55, q55a, q55b, q55c⟩ := isOf hZ rfl f53
  obtain ⟨vv55, _, ⟨T55, L55, k55, n55⟩, -, X55, ⟨Lc55, hQ55, l55, y55, z55⟩, st55⟩ := X40.virtualBack hx (y := (⟨"com/example/earnest_broker/earnestbroker/remoting/RemotingCommand", "isResponse", "()Z"⟩ : MethodName)) (z := (⟨"com/example/earnest_broker/earnestbroker/remoting/RemotingCommand", "isResponse", "()Z"⟩ : MethodName)) hown (mvT hZ (hw _ (List.mem_of_getElem? (i := 38) rfl))) (mvT hZ (hw _ (List.mem_of_getElem? (i := 39) rfl))) (notFace_of_selects (args := #[]) (mvT hZ (hw _ (List.mem_of_getElem? (i := 41) rfl)))) (mvT hZ (hw _ (List.mem_of_getElem? (i := 41) rfl))) (mvT hZ (hw _ (List.mem_of_getElem? (i := 40) rfl))) (by decide) (backOf (W := 0) (rm5 l Z aw hw [] b1 p3 T40.heap f54) hZ (hw _ (List.mem_of_getElem? (i := 42) rfl)) (hw _ (List.mem_of_getElem? (i := 2) rfl)) (by decide) (by decide)) q55a q55c (g := (mkF m 71 #[.val (.int p0), .val (.int p1), .val (.int p2), .val (.int p3), .val (.int p4), .val (.ref b1), .val (.ref b13), .val (.ref b27), .val (.int z45_0), .unset, .unset, .unset, .unset, .unset] [(.ref b1)])) rfl (by rw [hml]; rfl) (Steps.refl _) (argsL := []) (rest := []) (lenOf pd_0_4 rfl) rfl (by show 2 * 0 + _ ≤ _; exact Nat.le_of_eq rfl) (hb hby at_71) (fun _ _ => ⟨rfl, rfl, (by decide : 3 + 0 ≤ _), (by decide : 24 + 0 ≤ _)⟩)
  dsimp only [Pt.U, Pt.locs, Pt.cells, Pt.slots] at X55 l55 y55 z55 st55 hQ55
  subst l55 y55 z55
  obtain ⟨rfl, rfl, e55⟩ := hQ55
  try rw [List.append_nil] at X55
  have G55 : own_Go p.tables e below (s₁.setTop (entryFrame m #[(.int p0), (.int p1), (.int p2), (.int p3), (.int p4)] maxLocals)) (T55.setTop (mkF m 74 #[.val (.int p0), .val (.int p1), .val (.int p2), .val (.int p3), .val (.int p4), .val (.ref b1), .val (.ref b13), .val (.ref b27), .val (.int z45_0), .unset, .unset, .unset, .unset, .unset] [(.int (if (p3 &&& (1 : Int32)) = (0 : Int32) then (0 : Int32) else (1 : Int32)))])) := fun t k => G52 t (st55.trans k)
  have G56 : own_Go p.tables e below (s₁.setTop (entryFrame m #[(.int p0), (.int p1), (.int p2), (.int p3), (.int p4)] maxLocals)) (T55.setTop (mkF m 76 #[.val (.int p0), .val (.int p1), .val (.int p2), .val (.int p3), .val (.int p4), .val (.ref b1), .val (.ref b13), .val (.ref b27), .val (.int z45_0), .val (.int (if (p3 &&& (1 : Int32)) = (0 : Int32) then (0 : Int32) else (1 : Int32))), .unset, .unset, .unset, .unset] [])) := fun t k => G55 t (XS.istore X55.here hx rfl (hb hby at_74) rfl (l' := #[.val (.int p0), .val (.int p1), .val (.int p2), .val (.int p3), .val (.int p4), .val (.ref b1), .val (.ref b13), .val (.ref b27), .val (.int z45_0), .val (.int (if (p3 &&& (1 : Int32)) = (0 : Int32) then (0 : Int32) else (1 : Int32))), .unset, .unset, .unset, .unset]) rfl k)
  obtain ⟨z57, hz57, G57⟩ : ∃ z57 : Int32, z57 = (if (p3 &&& (1 : Int32)) = (0 : Int32) then (0 : Int32) else (1 : Int32)) ∧ own_Go p.tables e below (s₁.setTop (entryFrame m #[(.int p0), (.int p1), (.int p2), (.int p3), (.int p4)] maxLocals)) (T55.setTop (mkF m 76 #[.val (.int p0), .val (.int p1), .val (.int p2), .val (.int p3), .val (.int p4), .val (.ref b1), .val (.ref b13), .val (.ref b27), .val (.int z45_0), .val (.int z57), .unset, .unset, .unset, .unset] [])) := ⟨_, rfl, G56⟩
  have G58 : own_Go p.tables e below (s₁.setTop (entryFrame m #[(.int p0), (.int p1), (.int p2), (.int p3), (.int p4)] maxLocals)) (T55.setTop (mkF m 78 #[.val (.int p0), .val (.int p1), .val (.int p2), .val (.int p3), .val (.int p4), .val (.ref b1), .val (.ref b13), .val (.ref b27), .val (.int z45_0), .val (.int z57), .unset, .unset, .unset, .unset] [(.ref b13)])) := fun t k => G57 t (XS.aload X55.here hx rfl (hb hby at_76) rfl rfl k)
  have f59 : Exa Z T40.heap b13 "com/example/earnest_broker/earnestbroker/remoting/RemotingCommand" := ((g25_0.ext E27).keep Kq40)
  have f60 : Fld Z T40.heap b13 "com/example/earnest_broker/earnestbroker/remoting/RemotingCommand" "flag" "I" (.int (p3 ^^^ (2 : Int32))) := ((g25_3.ext E27).keep Kq40 (ninS ne_b13_b27 nin0))
  obtain ⟨cq61, kq61, q61a, q61b, q61c⟩ := isOf hZ e55 f59
  obtain ⟨vv61, _, ⟨T61, L61, k61, n61⟩, -, X61, ⟨Lc61, hQ61, l61, y61, z61⟩, st61⟩ := X55.virtualBack hx (y := (⟨"com/example/earnest_broker/earnestbroker/remoting/RemotingCommand", "isResponse", "()Z"⟩ : MethodName)) (z := (⟨"com/example/earnest_broker/earnestbroker/remoting/RemotingCommand", "isResponse", "()Z"⟩ : MethodName)) hown (mvT hZ (hw _ (List.mem_of_getElem? (i := 38) rfl))) (mvT hZ (hw _ (List.mem_of_getElem? (i := 39) rfl))) (notFace_of_selects (args := #[]) (mvT hZ (hw _ (List.mem_of_getElem? (i := 41) rfl)))) (mvT hZ (hw _ (List.mem_of_getElem? (i := 41) rfl))) (mvT hZ (hw _ (List.mem_of_getElem? (i := 40) rfl))) (by decide) (backOf (W := 0) (rm5 l Z aw hw [] b13 (p3 ^^^ (2 : Int32)) T40.heap f60) hZ (hw _ (List.mem_of_getElem? (i := 42) rfl)) (hw _ (List.mem_of_getElem? (i := 2) rfl)) (by decide) (by decide)) q61a q61c (g := (mkF m 78 #[.val (.int p0), .val (.int p1), .val (.int p2), .val (.int p3), .val (.int p4), .val (.ref b1), .val (.ref b13), .val (.ref b27), .val (.int z45_0), .val (.int z57), .unset, .unset, .unset, .unset] [(.ref b13)])) rfl (by rw [hml]; rfl) (Steps.refl _) (argsL := []) (rest := []) (lenOf pd_0_4 rfl) rfl (by show 2 * 0 + _ ≤ _; exact Nat.le_of_eq rfl) (hb hby at_78) (fun _ _ => ⟨rfl, e55, (by decide : 3 + 0 ≤ _), (by decide : 24 + 0 ≤ _)⟩)
  dsimp only [Pt.U, Pt.locs, Pt.cells, Pt.slots] at X61 l61 y61 z61 st61 hQ61
  subst l61 y61 z61
  obtain ⟨rfl, rfl, e61⟩ := hQ61
  try rw [List.append_nil] at X61
  have G61 : own_Go p.tables e below (s₁.setTop (entryFrame m #[(.int p0), (.int p1), (.int p2), (.int p3), (.int p4)] maxLocals)) (T61.setTop (mkF m 81 #[.val (.int p0), .val (.int p1), .val (.int p2), .val (.int p3), .val (.int p4), .val (.ref b1), .val (.ref b13), .val (.ref b27), .val (.int z45_0), .val (.int z57), .unset, .unset, .unset, .unset] [(.int (if ((p3 ^^^ (2 : Int32)) &&& (1 : Int32)) = (0 : Int32) then (0 : Int32) else (1 : Int32)))])) := fun t k => G58 t (st61.trans k)
  have G62 : own_Go p.tables e below (s₁.setTop (entryFrame m #[(.int p0), (.int p1), (.int p2), (.int p3), (.int p4)] maxLocals)) (T61.setTop (mkF m 83 #[.val (.int p0), .val (.int p1), .val (.int p2), .val (.int p3), .val (.int p4), .val (.ref b1), .val (.ref b13), .val (.ref b27), .val (.int z45_0), .val (.int z57), .val (.int (if ((p3 ^^^ (2 : Int32)) &&& (1 : Int32)) = (0 : Int32) then (0 : Int32) else (1 : Int32))), .unset, .unset, .unset] [])) := fun t k => G61 t (XS.istore X61.here hx rfl (hb hby at_81) rfl (l' := #[.val (.int p0), .val (.int p1), .val (.int p2), .val (.int p3), .val (.int p4), .val (.ref b1), .val (.ref b13), .val (.ref b27), .val (.int z45_0), .val (.int z57), .val (.int (if ((p3 ^^^ (2 : Int32)) &&& (1 : Int32)) = (0 : Int32) then (0 : Int32) else (1 : Int32))), .unset, .unset, .unset]) rfl k)
  obtain ⟨z63, hz63, G63⟩ : ∃ z63 : Int32, z63 = (if ((p3 ^^^ (2 : Int32)) &&& (1 : Int32)) = (0 : Int32) then (0 : Int32) else (1 : Int32)) ∧ own_Go p.tables e below (s₁.setTop (entryFrame m #[(.int p0), (.int p1), (.int p2), (.int p3), (.int p4)] maxLocals)) (T61.setTop (mkF m 83 #[.val (.int p0), .val (.int p1), .val (.int p2), .val (.int p3), .val (.int p4), .val (.ref b1), .val (.ref b13), .val (.ref b27), .val (.int z45_0), .val (.int z57), .val (.int z63), .unset, .unset, .unset] [])) := ⟨_, rfl, G62⟩
  have G64 : own_Go p.tables e below (s₁.setTop (entryFrame m #[(.int p0), (.int p1), (.int p2), (.int p3), (.int p4)] maxLocals)) (T61.setTop (mkF m 85 #[.val (.int p0), .val (.int p1), .val (.int p2), .val (.int p3), .val (.int p4), .val (.ref b1), .val (.ref b13), .val (.ref b27), .val (.int z45_0), .val (.int z57), .val (.int z63), .unset, .unset, .unset] [(.ref b27)])) := fun t k => G63 t (XS.aload X61.here hx rfl (hb hby at_83) rfl rfl k)
  obtain ⟨cq65, kq65, q65a, q65b, q65c⟩ := isOf hZ e61 g40_0
  obtain ⟨vv65, _, ⟨T65, L65, k65, n65⟩, -, X65, ⟨Lc65, hQ65, l65, y65, z65⟩, st65⟩ := X61.virtualBack hx (y := (⟨"com/example/earnest_broker/earnestbroker/remoting/RemotingCommand", "isResponse", "()Z"⟩ : MethodName)) (z := (⟨"com/example/earnest_broker/earnestbroker/remoting/RemotingCommand", "isResponse", "()Z"⟩ : MethodName)) hown (mvT hZ (hw _ (List.mem_of_getElem? (i := 38) rfl))) (mvT hZ (hw _ (List.mem_of_getElem? (i := 39) rfl))) (notFace_of_selects (args := #[]) (mvT hZ (hw _ (List.mem_of_getElem? (i := 41) rfl)))) (mvT hZ (hw _ (List.mem_of_getElem? (i := 41) rfl))) (mvT hZ (hw _ (List.mem_of_getElem? (i := 40) rfl))) (by decide) (backOf (W := 0) (rm5 l Z aw hw [] b27 (p3 ^^^ (1 : Int32)) T40.heap g40_3) hZ (hw _ (List.mem_of_getElem? (i := 42) rfl)) (hw _ (List.mem_of_getElem? (i := 2) rfl)) (by decide) (by decide)) q65a q65c (g := (mkF m 85 #[.val (.int p0), .val (.int p1), .val (.int p2), .val (.int p3), .val (.int p4), .val (.ref b1), .val (.ref b13), .val (.ref b27), .val (.int z45_0), .val (.int z57), .val (.int z63), .unset, .unset, .unset] [(.ref b27)])) rfl (by rw [hml]; rfl) (Steps.refl _) (argsL := []) (rest := []) (lenOf pd_0_4 rfl) rfl (by show 2 * 0 + _ ≤ _; exact Nat.le_of_eq rfl) (hb hby at_85) (fun _ _ => ⟨rfl, e61, (by decide : 3 + 0 ≤ _), (by decide : 24 + 0 ≤ _)⟩)
  dsimp only [Pt.U, Pt.locs, Pt.cells, Pt.slots] at X65 l65 y65 z65 st65 hQ65
  subst l65 y65 z65
  obtain ⟨rfl, rfl, e65⟩ := hQ65
  try rw [List.append_nil] at X65
  have G65 : own_Go p.tables e below (s₁.setTop (entryFrame m #[(.int p0), (.int p1), (.int p2), (.int p3), (.int p4)] maxLocals)) (T65.setTop (mkF m 88 #[.val (.int p0), .val (.int p1), .val (.int p2), .val (.int p3), .val (.int p4), .val (.ref b1), .val (.ref b13), .val (.ref b27), .val (.int z45_0), .val (.int z57), .val (.int z63), .unset, .unset, .unset] [(.int (if ((p3 ^^^ (1 : Int32)) &&& (1 : Int32)) = (0 : Int32) then (0 : Int32) else (1 : Int32)))])) := fun t k => G64 t (st65.trans k)
  have G66 : own_Go p.tables e below (s₁.setTop (entryFrame m #[(.int p0), (.int p1), (.int p2), (.int p3), (.int p4)] maxLocals)) (T65.setTop (mkF m 90 #[.val (.int p0), .val (.int p1), .val (.int p2), .val (.int p3), .val (.int p4), .val (.ref b1), .val (.ref b13), .val (.ref b27), .val (.int z45_0), .val (.int z57), .val (.int z63), .val (.int (if ((p3 ^^^ (1 : Int32)) &&& (1 : Int32)) = (0 : Int32) then (0 : Int32) else (1 : Int32))), .unset, .unset] [])) := fun t k => G65 t (XS.istore X65.here hx rfl (hb hby at_88) rfl (l' := #[.val (.int p0), .val (.int p1), .val (.int p2), .val (.int p3), .val (.int p4), .val (.ref b1), .val (.ref b13), .val (.ref b27), .val (.int z45_0), .val (.int z57), .val (.int z63), .val (.int (if ((p3 ^^^ (1 : Int32)) &&& (1 : Int32)) = (0 : Int32) then (0 : Int32) else (1 : Int32))), .unset, .unset]) rfl k)
  obtain ⟨z67, hz67, G67⟩ : ∃ z67 : Int32, z67 = (if ((p3 ^^^ (1 : Int32)) &&& (1 : Int32)) = (0 : Int32) then (0 : Int32) else (1 : Int32)) ∧ own_Go p.tables e below (s₁.setTop (entryFrame m #[(.int p0), (.int p1), (.int p2), (.int p3), (.int p4)] maxLocals)) (T65.setTop (mkF m 90 #[.val (.int p0), .val (.int p1), .val (.int p2), .val (.int p3), .val (.int p4), .val (.ref b1), .val (.ref b13), .val (.ref b27), .val (.int z45_0), .val (.int z57), .val (.int z63), .val (.int z67), .unset, .unset] [])) := ⟨_, rfl, G66⟩
  have G68 : own_Go p.tables e below (s₁.setTop (entryFrame m #[(.int p0), (.int p1), (.int p2), (.int p3), (.int p4)] maxLocals)) (T65.setTop (mkF m 92 #[.val (.int p0), .val (.int p1), .val (.int p2), .val (.int p3), .val (.int p4), .val (.ref b1), .val (.ref b13), .val (.ref b27), .val (.int z45_0), .val (.int z57), .val (.int z63), .val (.int z67), .unset, .unset] [(.ref b1)])) := fun t k => G67 t (XS.aload X65.here hx rfl (hb hby at_90) rfl rfl k)
  have G69 : own_Go p.tables e below (s₁.setTop (entryFrame m #[(.int p0), (.int p1), (.int p2), (.int p3), (.int p4)] maxLocals)) (T65.setTop (mkF m 94 #[.val (.int p0), .val (.int p1), .val (.int p2), .val (.int p3), .val (.int p4), .val (.ref b1), .val (.ref b13), .val (.ref b27), .val (.int z45_0), .val (.int z57), .val (.int z63), .val (.int z67), .unset, .unset] [(.int p4), (.ref b1)])) := fun t k => G68 t (XS.iload X65.here hx rfl (hb hby at_92) rfl k)
  have G70 : own_Go p.tables e below (s₁.setTop (entryFrame m #[(.int p0), (.int p1), (.int p2), (.int p3), (.int p4)] maxLocals)) (T65.setTop (mkF m 95 #[.val (.int p0), .val (.int p1), .val (.int p2), .val (.int p3), .val (.int p4), .val (.ref b1), .val (.ref b13), .val (.ref b27), .val (.int z45_0), .val (.int z57), .val (.int z63), .val (.int z67), .unset, .unset] [.null, (.int p4), (.ref b1)])) := fun t k => G69 t (XS.aconstNull X65.here hx rfl (hb hby at_94) k)
  have G71 : own_Go p.tables e below (s₁.setTop (entryFrame m #[(.int p0), (.int p1), (.int p2), (.int p3), (.int p4)] maxLocals)) (T65.setTop (mkF m 96 #[.val (.int p0), .val (.int p1), .val (.int p2), .val (.int p3), .val (.int p4), .val (.ref b1), .val (.ref b13), .val (.ref b27), .val (.int z45_0), .val (.int z57), .val (.int z63), .val (.int z67), .unset, .unset] [.null, .null, (.int p4), (.ref b1)])) := fun t k => G70 t (XS.aconstNull X65.here hx rfl (hb hby at_95) k)
  have f72 : Fld Z T40.heap b1 "com/example/earnest_broker/earnestbroker/remoting/RemotingCommand" "version" "I" (.int p1) := ((((g11_1.ext E13).keep Kq25 (ninS ne_b1_b13 nin0)).ext E27).keep Kq40 (ninS ne_b1_b27 nin0))
  have f73 : Fld Z T40.heap b1 "com/example/earnest_broker/earnestbroker/remoting/RemotingCommand" "opaque" "I" (.int p2) := ((((g11_2.ext E13).keep Kq25 (ninS ne_b1_b13 nin0)).ext E27).keep Kq40 (ninS ne_b1_b27 nin0))
  obtain ⟨cq74, kq74, q74a, q74b, q74c⟩ := isOf hZ e65 f53
  obtain ⟨vv74, _, ⟨T74, L74, k74, n74⟩, -, X74, hSq74, hgr74, ⟨Lc74, hQ74, l74, y74, z74⟩, st74⟩ := X65.virtualBackS hx (y := (⟨"com/example/earnest_broker/earnestbroker/remoting/RemotingCommand", "reply", "(ILjava/lang/String;[B)Lcom/example/earnest_broker/earnestbroker/remoting/RemotingCommand;"⟩ : MethodName)) (z := (⟨"com/example/earnest_broker/earnestbroker/remoting/RemotingCommand", "reply", "(ILjava/lang/String;[B)Lcom/example/earnest_broker/earnestbroker/remoting/RemotingCommand;"⟩ : MethodName)) hown (mvT hZ (hw _ (List.mem_of_getElem? (i := 43) rfl))) (mvT hZ (hw _ (List.mem_of_getElem? (i := 44) rfl))) (notFace_of_selects (args := #[]) (mvT hZ (hw _ (List.mem_of_getElem? (i := 46) rfl)))) (mvT hZ (hw _ (List.mem_of_getElem? (i := 46) rfl))) (mvT hZ (hw _ (List.mem_of_getElem? (i := 45) rfl))) (by decide) (backOfS (W := 0) (rm7 l Z aw hw [] b1 p4 aM aB p1 p2 T40.heap O40  f53 f72 f73 S_M S_B) hZ (hw _ (List.mem_of_getElem? (i := 47) rfl)) (hw _ (List.mem_of_getElem? (i := 2) rfl)) (by decide) (by decide)) q74a q74c (g := (mkF m 96 #[.val (.int p0), .val (.int p1), .val (.int p2), .val (.int p3), .val (.int p4), .val (.ref b1), .val (.ref b13), .val (.ref b27), .val (.int z45_0), .val (.int z57), .val (.int z63), .val (.int z67), .unset, .unset] [.null, .null, (.int p4), (.ref b1)])) rfl (by rw [hml]; rfl) (Steps.refl _) (argsL := [(.int p4), .null, .null]) (rest := []) (lenOf pd_0_5 rfl) rfl (by show 2 * 0 + _ ≤ _; exact Nat.le_of_eq rfl) (hb hby at_96) (fun _ _ => ⟨rfl, e65, (by decide : 3 + 3 ≤ _), (by decide : 24 + 28 ≤ _)⟩)
  dsimp only [Pt.U, Pt.locs, Pt.cells, Pt.slots] at X74 l74 y74 z74 st74 hQ74 hSq74 hgr74
  subst l74 y74 z74
  have hS := foldS hS (by rw [e65]; exact hk) hSq74 hgr74
  have hZ : Z.Warmed39 (s.setVm T74.vm).vm := State.Warmed39.trans (t := (s.setVm s.vm)) hZ hSq74.1
  have hown : (s.setVm T74.vm).vm.findClass "com/example/earnest_broker/earnestbroker/remoting/RemotingCommandIsResponsePinLaw" = some m.cls := by rw [show (s.setVm T74.vm).vm = T74.vm from rfl, hSq74.1.alike.findClass]; exact hown
  obtain ⟨r74, rfl, Nq74, Kq74, gn_r74, szq_r74, ra74_0, ra74_1⟩ := hQ74
  have ne_b1_r74 : b1 ≠ r74 := Nat.ne_of_lt (Nat.lt_of_lt_of_le f53.lt szq_r74)
  have ne_b13_r74 : b13 ≠ r74 := Nat.ne_of_lt (Nat.lt_of_lt_of_le f59.lt szq_r74)
  have ne_b27_r74 : b27 ≠ r74 := Nat.ne_of_lt (Nat.lt_of_lt_of_le g40_0.lt szq_r74)
  have sz_r74 : h0.size ≤ r74 := Nat.le_trans K40.1 szq_r74
  have N74 := Fr.app N40 Nq74
  have O74 := O40.keep Kq74 all0
  have K74 := K40.trans Kq74 all0
  have X74 : Stand p l e room_1 (s.setVm T74.vm) m #[(.int p0), (.int p1), (.int p2), (.int p3), (.int p4)] below meth c T74 _ _ _ := X74
  have hk := Nat.le_refl T74.heap.size
  have G74 : own_Go p.tables e below (s₁.setTop (entryFrame m #[(.int p0), (.int p1), (.int p2), (.int p3), (.int p4)] maxLocals)) (T74.setTop (mkF m 99 #[.val (.int p0), .val (.int p1), .val (.int p2), .val (.int p3), .val (.int p4), .val (.ref b1), .val (.ref b13), .val (.ref b27), .val (.int z45_0), .val (.int z57), .val (.int z63), .val (.int z67), .unset, .unset] [(.ref r74)])) := fun t k => G71 t (st74.trans k)
  have G75 : own_Go p.tables e below (s₁.setTop (entryFrame m #[(.int p0), (.int p1), (.int p2), (.int p3), (.int p4)] maxLocals)) (T74.setTop (mkF m 101 #[.val (.int p0), .val (.int p1), .val (.int p2), .val (.int p3), .val (.int p4), .val (.ref b1), .val (.ref b13), .val (.ref b27), .val (.int z45_0), .val (.int z57), .val (.int z63), .val (.int z67), .val (.ref r74), .unset] [])) := fun t k => G74 t (XS.astore X74.here hx rfl (hb hby at_99) rfl rfl (l' := #[.val (.int p0), .val (.int p1), .val (.int p2), .val (.int p3), .val (.int p4), .val (.ref b1), .val (.ref b13), .val (.ref b27), .val (.int z45_0), .val (.int z57), .val (.int z63), .val (.int z67), .val (.ref r74), .unset]) rfl k)
  have G76 : own_Go p.tables e below (s₁.setTop (entryFrame m #[(.int p0), (.int p1), (.int p2), (.int p3), (.int p4)] maxLocals)) (T74.setTop (mkF m 103 #[.val (.int p0), .val (.int p1), .val (.int p2), .val (.int p3), .val (.int p4), .val (.ref b1), .val (.ref b13), .val (.ref b27), .val (.int z45_0), .val (.int z57), .val (.int z63), .val (.int z67), .val (.ref r74), .unset] [(.ref r74)])) := fun t k => G75 t (XS.aload X74.here hx rfl (hb hby at_101) rfl rfl k)
  obtain ⟨cq77, kq77, q77a, q77b, q77c⟩ := isOf hZ rfl ra74_0
  obtain ⟨vv77, _, ⟨T77, L77, k77, n77⟩, -, X77, ⟨Lc77, hQ77, l77, y77, z77⟩, st77⟩ := X74.virtualBack hx (y := (⟨"com/example/earnest_broker/earnestbroker/remoting/RemotingCommand", "isResponse", "()Z"⟩ : MethodName)) (z := (⟨"com/example/earnest_broker/earnestbroker/remoting/RemotingCommand", "isResponse", "()Z"⟩ : MethodName)) hown (mvT hZ (hw _ (List.mem_of_getElem? (i := 38) rfl))) (mvT hZ (hw _ (List.mem_of_getElem? (i := 39) rfl))) (notFace_of_selects (args := #[]) (mvT hZ (hw _ (List.mem_of_getElem? (i := 41) rfl)))) (mvT hZ (hw _ (List.mem_of_getElem? (i := 41) rfl))) (mvT hZ (hw _ (List.mem_of_getElem? (i := 40) rfl))) (by decide) (backOf (W := 0) (rm5 l Z aw hw [] r74 (1 : Int32) T74.heap ra74_1) hZ (hw _ (List.mem_of_getElem? (i := 42) rfl)) (hw _ (List.mem_of_getElem? (i := 2) rfl)) (by decide) (by decide)) q77a q77c (g := (mkF m 103 #[.val (.int p0), .val (.int p1), .val (.int p2), .val (.int p3), .val (.int p4), .val (.ref b1), .val (.ref b13), .val (.ref b27), .val (.int z45_0), .val (.int z57), .val (.int z63), .val (.int z67), .val (.ref r74), .unset] [(.ref r74)])) rfl (by rw [hml]; rfl) (Steps.refl _) (argsL := []) (rest := []) (lenOf pd_0_4 rfl) rfl (by show 2 * 0 + _ ≤ _; exact Nat.le_of_eq rfl) (hb hby at_103) (fun _ _ => ⟨rfl, rfl, (by decide : 6 + 0 ≤ _), (by decide : 52 + 0 ≤ _)⟩)
  dsimp only [Pt.U, Pt.locs, Pt.cells, Pt.slots] at X77 l77 y77 z77 st77 hQ77
  subst l77 y77 z77
  obtain ⟨rfl, rfl, e77⟩ := hQ77
  try rw [List.append_nil] at X77
  have G77 : own_Go p.tables e below (s₁.setTop (entryFrame m #[(.int p0), (.int p1), (.int p2), (.int p3), (.int p4)] maxLocals)) (T77.setTop (mkF m 106 #[.val (.int p0), .val (.int p1), .val (.int p2), .val (.int p3), .val (.int p4), .val (.ref b1), .val (.ref b13), .val (.ref b27), .val (.int z45_0), .val (.int z57), .val (.int z63), .val (.int z67), .val (.ref r74), .unset] [(.int (if ((1 : Int32) &&& (1 : Int32)) = (0 : Int32) then (0 : Int32) else (1 : Int32)))])) := fun t k => G76 t (st77.trans k)
  have G78 : own_Go p.tables e below (s₁.setTop (entryFrame m #[(.int p0), (.int p1), (.int p2), (.int p3), (.int p4)] maxLocals)) (T77.setTop (mkF m 108 #[.val (.int p0), .val (.int p1), .val (.int p2), .val (.int p3), .val (.int p4), .val (.ref b1), .val (.ref b13), .val (.ref b27), .val (.int z45_0), .val (.int z57), .val (.int z63), .val (.int z67), .val (.ref r74), .val (.int (if ((1 : Int32) &&& (1 : Int32)) = (0 : Int32) then (0 : Int32) else (1 : Int32)))] [])) := fun t k => G77 t (XS.istore X77.here hx rfl (hb hby at_106) rfl (l' := #[.val (.int p0), .val (.int p1), .val (.int p2), .val (.int p3), .val (.int p4), .val (.ref b1), .val (.ref b13), .val (.ref b27), .val (.int z45_0), .val (.int z57), .val (.int z63), .val (.int z67), .val (.ref r74), .val (.int (if ((1 : Int32) &&& (1 : Int32)) = (0 : Int32) then (0 : Int32) else (1 : Int32)))]) rfl k)
  obtain ⟨z79, hz79, G79⟩ : ∃ z79 : Int32, z79 = (if ((1 : Int32) &&& (1 : Int32)) = (0 : Int32) then (0 : Int32) else (1 : Int32)) ∧ own_Go p.tables e below (s₁.setTop (entryFrame m #[(.int p0), (.int p1), (.int p2), (.int p3), (.int p4)] maxLocals)) (T77.setTop (mkF m 108 #[.val (.int p0), .val (.int p1), .val (.int p2), .val (.int p3), .val (.int p4), .val (.ref b1), .val (.ref b13), .val (.ref b27), .val (.int z45_0), .val (.int z57), .val (.int z63), .val (.int z67), .val (.ref r74), .val (.int z79)] [])) := ⟨_, rfl, G78⟩
  have G80 : own_Go p.tables e below (s₁.setTop (entryFrame m #[(.int p0), (.int p1), (.int p2), (.int p3), (.int p4)] maxLocals)) (T77.setTop (mkF m 110 #[.val (.int p0), .val (.int p1), .val (.int p2), .val (.int p3), .val (.int p4), .val (.ref b1), .val (.ref b13), .val (.ref b27), .val (.int z45_0), .val (.int z57), .val (.int z63), .val (.int z67), .val (.ref r74), .val (.int z79)] [(.int z57)])) := fun t k => G79 t (XS.iload X77.here hx rfl (hb hby at_108) rfl k)
  have G81 : own_Go p.tables e below (s₁.setTop (entryFrame m #[(.int p0), (.int p1), (.int p2), (.int p3), (.int p4)] maxLocals)) (T77.setTop (mkF m 112 #[.val (.int p0), .val (.int p1), .val (.int p2), .val (.int p3), .val (.int p4), .val (.ref b1), .val (.ref b13), .val (.ref b27), .val (.int z45_0), .val (.int z57), .val (.int z63), .val (.int z67), .val (.ref r74), .val (.int z79)] [(.int z45_0), (.int z57)])) := fun t k => G80 t (XS.iload X77.here hx rfl (hb hby at_110) rfl k)
  have hk82 : z57 = z45_0 := by rw [hz57, hz45_0]; exact own_r1 _
  have G83 : own_Go p.tables e below (s₁.setTop (entryFrame m #[(.int p0), (.int p1), (.int p2), (.int p3), (.int p4)] maxLocals)) (T77.setTop (mkF m 115 #[.val (.int p0), .val (.int p1), .val (.int p2), .val (.int p3), .val (.int p4), .val (.ref b1), .val (.ref b13), .val (.ref b27), .val (.int z45_0), .val (.int z57), .val (.int z63), .val (.int z67), .val (.ref r74), .val (.int z79)] [])) := fun t k => G81 t (XS.icmpNo X77.here hx rfl (hb hby at_112) rfl (teq hk82).2 k)
  have G84 : own_Go p.tables e below (s₁.setTop (entryFrame m #[(.int p0), (.int p1), (.int p2), (.int p3), (.int p4)] maxLocals)) (T77.setTop (mkF m 117 #[.val (.int p0), .val (.int p1), .val (.int p2), .val (.int p3), .val (.int p4), .val (.ref b1), .val (.ref b13), .val (.ref b27), .val (.int z45_0), .val (.int z57), .val (.int z63), .val (.int z67), .val (.ref r74), .val (.int z79)] [(.int z63)])) := fun t k => G83 t (XS.iload X77.here hx rfl (hb hby at_115) rfl k)
  have G85 : own_Go p.tables e below (s₁.setTop (entryFrame m #[(.int p0), (.int p1), (.int p2), (.int p3), (.int p4)] maxLocals)) (T77.setTop (mkF m 119 #[.val (.int p0), .val (.int p1), .val (.int p2), .val (.int p3), .val (.int p4), .val (.ref b1), .val (.ref b13), .val (.ref b27), .val (.int z45_0), .val (.int z57), .val (.int z63), .val (.int z67), .val (.ref r74), .val (.int z79)] [(.int z45_0), (.int z63)])) := fun t k => G84 t (XS.iload X77.here hx rfl (hb hby at_117) rfl k)
  have hk86 : z63 = z45_0 := by rw [hz63, hz45_0]; exact own_r2 _
  have G87 : own_Go p.tables e below (s₁.setTop (entryFrame m #[(.int p0), (.int p1), (.int p2), (.int p3), (.int p4)] maxLocals)) (T77.setTop (mkF m 122 #[.val (.int p0), .val (.int p1), .val (.int p2), .val (.int p3), .val (.int p4), .val (.ref b1), .val (.ref b13), .val (.ref b27), .val (.int z45_0), .val (.int z57), .val (.int z63), .val (.int z67), .val (.ref r74), .val (.int z79)] [])) := fun t k => G85 t (XS.icmpNo X77.here hx rfl (hb hby at_119) rfl (teq hk86).2 k)
  have G88 : own_Go p.tables e below (s₁.setTop (entryFrame m #[(.int p0), (.int p1), (.int p2), (.int p3), (.int p4)] maxLocals)) (T77.setTop (mkF m 124 #[.val (.int p0), .val (.int p1), .val (.int p2), .val (.int p3), .val (.int p4), .val (.ref b1), .val (.ref b13), .val (.ref b27), .val (.int z45_0), .val (.int z57), .val (.int z63), .val (.int z67), .val (.ref r74), .val (.int z79)] [(.int z67)])) := fun t k => G87 t (XS.iload X77.here hx rfl (hb hby at_122) rfl k)
  have G89 : own_Go p.tables e below (s₁.setTop (entryFrame m #[(.int p0), (.int p1), (.int p2), (.int p3), (.int p4)] maxLocals)) (T77.setTop (mkF m 126 #[.val (.int p0), .val (.int p1), .val (.int p2), .val (.int p3), .val (.int p4), .val (.ref b1), .val (.ref b13), .val (.ref b27), .val (.int z45_0), .val (.int z57), .val (.int z63), .val (.int z67), .val (.ref r74), .val (.int z79)] [(.int z45_0), (.int z67)])) := fun t k => G88 t (XS.iload X77.here hx rfl (hb hby at_124) rfl k)
  obtain ⟨z90_0, hz90_0, G90⟩ : ∃ (z90_0 : Int32), z90_0 = (if z45_0 = (0 : Int32) then (1 : Int32) else (0 : Int32)) ∧ own_Go p.tables e below (s₁.setTop (entryFrame m #[(.int p0), (.int p1), (.int p2), (.int p3), (.int p4)] maxLocals)) (T77.setTop (mkF m 134 #[.val (.int p0), .val (.int p1), .val (.int p2), .val (.int p3), .val (.int p4), .val (.ref b1), .val (.ref b13), .val (.ref b27), .val (.int z45_0), .val (.int z57), .val (.int z63), .val (.int z67), .val (.ref r74), .val (.int z79)] [(.int z90_0), (.int z67)])) := by
    by_cases hc90 : z45_0 = (0 : Int32)
    · have G91 : own_Go p.tables e below (s₁.setTop (entryFrame m #[(.int p0), (.int p1), (.int p2), (.int p3), (.int p4)] maxLocals)) (T77.setTop (mkF m 129 #[.val (.int p0), .val (.int p1), .val (.int p2), .val (.int p3), .val (.int p4), .val (.ref b1), .val (.ref b13), .val (.ref b27), .val (.int z45_0), .val (.int z57), .val (.int z63), .val (.int z67), .val (.ref r74), .val (.int z79)] [(.int z67)])) := fun t k => G89 t (XS.ifNo X77.here hx rfl (hb hby at_126) rfl ((if0 _ _).trans (teq hc90).2) k)
      have G92 : own_Go p.tables e below (s₁.setTop (entryFrame m #[(.int p0), (.int p1), (.int p2), (.int p3), (.int p4)] maxLocals)) (T77.setTop (mkF m 130 #[.val (.int p0), .val (.int p1), .val (.int p2), .val (.int p3), .val (.int p4), .val (.ref b1), .val (.ref b13), .val (.ref b27), .val (.int z45_0), .val (.int z57), .val (.int z63), .val (.int z67), .val (.ref r74), .val (.int z79)] [(.int (1 : Int32)), (.int z67)])) := fun t k => G91 t (XT.iconstV X77.here hx rfl (1 : Int32) (hb hby at_129) (by decide) k)
      have G93 : own_Go p.tables e below (s₁.setTop (entryFrame m #[(.int p0), (.int p1), (.int p2), (.int p3), (.int p4)] maxLocals)) (T77.setTop (mkF m 134 #[.val (.int p0), .val (.int p1), .val (.int p2), .val (.int p3), .val (.int p4), .val (.ref b1), .val (.ref b13), .val (.ref b27), .val (.int z45_0), .val (.int z57), .val (.int z63), .val (.int z67), .val (.ref r74), .val (.int z79)] [(.int (1 : Int32)), (.int z67)])) := fun t k => G92 t (XS.goto X77.here hx rfl (pc0 := 130) (pc' := 134) rfl (hb hby at_130) (by decide) (by decide) k)
      exact ⟨_, (if_pos hc90).symm, G93⟩
    · have G94 : own_Go p.tables e below (s₁.setTop (entryFrame m #[(.int p0), (.int p1), (.int p2), (.int p3), (.int p4)] maxLocals)) (T77.setTop (mkF m 133 #[.val (.int p0), .val (.int p1), .val (.int p2), .val (.int p3), .val (.int p4), .val (.ref b1), .val (.ref b13), .val (.ref b27), .val (.int z45_0), .val (.int z57), .val (.int z63), .val (.int z67), .val (.ref r74), .val (.int z79)] [(.int z67)])) := fun t k => G89 t (XS.ifYes X77.here hx rfl (pc0 := 126) (pc' := 133) rfl (hb hby at_126) rfl ((if0 _ _).trans (feq hc90).2) (by decide) (by decide) k)
      have G95 : own_Go p.tables e below (s₁.setTop (entryFrame m #[(.int p0), (.int p1), (.int p2), (.int p3), (.int p4)] maxLocals)) (T77.setTop (mkF m 134 #[.val (.int p0), .val (.int p1), .val (.int p2), .val (.int p3), .val (.int p4), .val (.ref b1), .val (.ref b13), .val (.ref b27), .val (.int z45_0), .val (.int z57), .val (.int z63), .val (.int z67), .val (.ref r74), .val (.int z79)] [(.int (0 : Int32)), (.int z67)])) := fun t k => G94 t (XT.iconstV X77.here hx rfl (0 : Int32) (hb hby at_133) (by decide) k)
      exact ⟨_, (if_neg hc90).symm, G95⟩
  have hk96 : z67 = z90_0 := by rw [hz67, hz90_0, hz45_0]; exact own_r3 _
  have G97 : own_Go p.tables e below (s₁.setTop (entryFrame m #[(.int p0), (.int p1), (.int p2), (.int p3), (.int p4)] maxLocals)) (T77.setTop (mkF m 137 #[.val (.int p0), .val (.int p1), .val (.int p2), .val (.int p3), .val (.int p4), .val (.ref b1), .val (.ref b13), .val (.ref b27), .val (.int z45_0), .val (.int z57), .val (.int z63), .val (.int z67), .val (.ref r74), .val (.int z79)] [])) := fun t k => G90 t (XS.icmpNo X77.here hx rfl (hb hby at_134) rfl (teq hk96).2 k)
  have G98 : own_Go p.tables e below (s₁.setTop (entryFrame m #[(.int p0), (.int p1), (.int p2), (.int p3), (.int p4)] maxLocals)) (T77.setTop (mkF m 139 #[.val (.int p0), .val (.int p1), .val (.int p2), .val (.int p3), .val (.int p4), .val (.ref b1), .val (.ref b13), .val (.ref b27), .val (.int z45_0), .val (.int z57), .val (.int z63), .val (.int z67), .val (.ref r74), .val (.int z79)] [(.int z79)])) := fun t k => G97 t (XS.iload X77.here hx rfl (hb hby at_137) rfl k)
  have hk99 : ¬ (z79 = (0 : Int32)) := by rw [hz79]; decide
  have G100 : own_Go p.tables e below (s₁.setTop (entryFrame m #[(.int p0), (.int p1), (.int p2), (.int p3), (.int p4)] maxLocals)) (T77.setTop (mkF m 142 #[.val (.int p0), .val (.int p1), .val (.int p2), .val (.int p3), .val (.int p4), .val (.ref b1), .val (.ref b13), .val (.ref b27), .val (.int z45_0), .val (.int z57), .val (.int z63), .val (.int z67), .val (.ref r74), .val (.int z79)] [])) := fun t k => G98 t (XS.ifNo X77.here hx rfl (hb hby at_139) rfl ((if0 _ _).trans (feq hk99).1) k)
  have G101 : own_Go p.tables e below (s₁.setTop (entryFrame m #[(.int p0), (.int p1), (.int p2), (.int p3), (.int p4)] maxLocals)) (T77.setTop (mkF m 143 #[.val (.int p0), .val (.int p1), .val (.int p2), .val (.int p3), .val (.int p4), .val (.ref b1), .val (.ref b13), .val (.ref b27), .val (.int z45_0), .val (.int z57), .val (.int z63), .val (.int z67), .val (.ref r74), .val (.int z79)] [(.int (1 : Int32))])) := fun t k => G100 t (XT.iconstV X77.here hx rfl (1 : Int32) (hb hby at_142) (by decide) k)
  have G102 : own_Go p.tables e below (s₁.setTop (entryFrame m #[(.int p0), (.int p1), (.int p2), (.int p3), (.int p4)] maxLocals)) (T77.setTop (mkF m 147 #[.val (.int p0), .val (.int p1), .val (.int p2), .val (.int p3), .val (.int p4), .val (.ref b1), .val (.ref b13), .val (.ref b27), .val (.int z45_0), .val (.int z57), .val (.int z63), .val (.int z67), .val (.ref r74), .val (.int z79)] [(.int (1 : Int32))])) := fun t k => G101 t (XS.goto X77.here hx rfl (pc0 := 143) (pc' := 147) rfl (hb hby at_143) (by decide) (by decide) k)
  obtain ⟨fs, hr, hrun, hended, hW⟩ := X77.leaveW hS (by rw [e77]; exact hk) (v := some (.int (nar .boolean (1 : Int32)))) (fun h => by rw [Bd.returns] at h; cases h)
  refine ⟨_, _, G102 _ ?_, hrun, hended, _, _, rfl, ?_, ⟨_, rfl⟩, hW.2.1, hW.2.2.1, hW.2.2.2.mono (by decide) (by decide)⟩
  · exact retN X77 hx (t := .boolean) Bd.returns (by simp) (hb hby at_147) hr
  · show Q0 Z p0 p1 p2 p3 p4 aM aB h0 _ T77.heap _
    rw [e77]
    exact ⟨rfl, N74, K74⟩
set_option maxRecDepth 65536 in
set_option maxHeartbeats 40000000 in
theorem comes_1 {Post : Tables → Env → Array Value → State → Outcome → State → Prop} (hpost : ∀ tb e args s v u, (limb_1_1.after args s (.returned v) u = true ∧ limb_1_2.after args s (.returned v) u = true ∧ True) → ReturnedEndW s (.returned v) u (Jvm.fieldLocs frame_1_writes args s ++ Jvm.arrayLocs frame_1_arrays args s ++ Jvm.staticLocs frame_1_statics s) 24 1216 → Post tb e args s (.returned v) u) :
    ArmFor flags0 classFile x code maxLocals ret World_1 tables_1 room_1 Calls_1 rest_1 Pre_1 Post := by
  intro l hfl _ _ p e ha hc hk s m args below hf hA hF happ hP
  obtain ⟨hcalls, hrest, hpre⟩ := hP
  obtain ⟨-, -, -, hnamed, -, -, -, hat⟩ := (Spec.applies_iff hf).mp happ
  obtain ⟨hg, hn⟩ := and_e (Cond.before_iff.mp (show (Jvm.Cond.and given_1 narrow_1).before args s = true from hpre))
  obtain ⟨ga1, gb1⟩ := and_e hg
  obtain ⟨ga2, gb2⟩ := and_e gb1
  obtain ⟨ga3, gb3⟩ := and_e gb2
  obtain ⟨ga4, gb4⟩ := and_e gb3
  obtain ⟨ga5, gb5⟩ := and_e gb4
  obtain ⟨w0, w1, w2, w3, w4, rfl⟩ : ∃ w0 w1 w2 w3 w4 : Value, args = #[w0, w1, w2, w3, w4] := by
    have hs : args.size = 5 := by simpa [Cond.value, given_1] using ga1
    obtain ⟨L⟩ := args
    match L, hs with
    | [w0, w1, w2, w3, w4], _ => exact ⟨w0, w1, w2, w3, w4, rfl⟩
  have hw := fun d (hd : d ∈ tables_1) => atoms_spec (ws := Jvm.Cond.code x code maxLocals ret :: tables_1) hat d (List.mem_cons_of_mem _ hd)
  have hfit : Fit s := fun {y c} hc i hi => by
    obtain ⟨ha, rfl⟩ := Array.getElem?_eq_some_iff.mp hc
    have q := List.all_eq_true.mp ((Array.all_eq_true_iff_forall_mem.mp hF) _ (Array.getElem_mem ha)) i (List.mem_range.mpr hi)
    simpa [Array.getElem?_eq_getElem hi] using q
  obtain ⟨hsets, hown0⟩ := atoms_of _ (rest_1_c_eq ▸ (show rest_1_c.before _ s = true from hrest))
  have hr0 := Cond.before_iff.mp hown0
  obtain ⟨i0, ei0⟩ := is_v ga2
  obtain rfl : w0 = (.int i0) := Option.some.inj ei0
  obtain ⟨i1, ei1⟩ := is_v ga3
  obtain rfl : w1 = (.int i1) := Option.some.inj ei1
  obtain ⟨i2, ei2⟩ := is_v ga4
  obtain rfl : w2 = (.int i2) := Option.some.inj ei2
  obtain ⟨i3, ei3⟩ := is_v ga5
  obtain rfl : w3 = (.int i3) := Option.some.inj ei3
  obtain ⟨i4, ei4⟩ := is_v gb5
  obtain rfl : w4 = (.int i4) := Option.some.inj ei4
  obtain ⟨ga101, gb101⟩ := and_e hn
  obtain ⟨a_NO_BODY, ev_NO_BODY⟩ := arr_v ga101
  have S_NO_BODY : Sta s s.heap "com/example/earnest_broker/earnestbroker/remoting/RemotingCommand" "NO_BODY" "[B" (.ref a_NO_BODY) := Sta.start ev_NO_BODY (Or.inr ⟨(hw _ (List.mem_of_getElem? (i := 2) rfl)), (hw _ (List.mem_of_getElem? (i := 21) rfl))⟩)
  obtain ⟨cl_NO_BODY, Ar_NO_BODY⟩ := Arr.start ev_NO_BODY ga101
  obtain ⟨aM, evM⟩ := exa_v (Cond.before_iff.mp (hsets _ (List.mem_of_getElem? (i := 2) rfl)))
  have S_M : Sta s s.heap "java/util/ImmutableCollections" "EMPTY_MAP" "Ljava/util/ImmutableCollections$MapN;" (.ref aM) := Sta.start evM (Or.inl (hsets _ (List.mem_of_getElem? (i := 1) rfl)))
  obtain ⟨n, o, h1, h2, h3, _, L, rfl, ⟨rfl, N, -⟩, hq⟩ := rm0 l s _ hw tables_1 i0 i1 i2 i3 i4 aM a_NO_BODY s.heap (Old.start s) S_M S_NO_BODY p e ha hc hk s m _ below hf ((Spec.applies_iff_loose hf).mp happ).1 ⟨rfl, State.Warmed39.refl s, rfl⟩ trivial
  refine ⟨n, _, h1, h2, h3, hpost _ _ _ _ _ _ ⟨Cond.after_iff.mpr rfl, Cond.after_iff.mpr (eq_i res_at (Term.int_eval (1)) rfl), trivial⟩ ⟨hq.1, hq.2.1, hq.2.2.1, (hq.2.2.2.sift fun y hy => Or.inr (N y hy)).mono (by decide) (by decide)⟩⟩
theorem main_1_1 : Claimed_1_1 := comes_1 fun _ _ _ _ _ _ h hF => ⟨h.1, hF⟩
theorem main_1_2 : Claimed_1_2 := comes_1 fun _ _ _ _ _ _ h hF => ⟨h.2.1, hF⟩
end Jvm.Pilot.@@N@@
namespace Jvm.Pilot.@@N@@
open Jvm Jvm.ClassFile Sem Op Lib Jvm.Free Jvm.Stand Jvm.Pilot.@@N@@.Jvm.D
/-! MADE BY PROGRAM (witnessworld.py) out of the Statement's table words and the real class files: 21 classes; the members and pool entries that the words name. The judged class is class 1, her method 1. -/
namespace start1
open Jvm.ClassFile
def u (s : String) : CpInfo := .utf8 (stringToUtf16 s)
/-- a pool by its gaps: so many unusable entries, then the entry; so many at the end -/
def gap : Nat → List CpInfo → List CpInfo
  | 0, r => r
  | n + 1, r => .unusable :: gap n r
def poolList (es : List (Nat × CpInfo)) (last : Nat) : List CpInfo := es.foldr (fun e r => gap e.1 (e.2 :: r)) (gap last [])
def pool (es : List (Nat × CpInfo)) (last : Nat) : Array CpInfo := ⟨poolList es last⟩
def fileOf (pool : Array CpInfo) (this : Nat) (attrs : Array Attribute := #[]) (ms : Array MethodInfo := #[]) (fl : Nat := 33) (sup : Nat := 0) (ifs : Array Nat := #[]) (fds : Array FieldInfo := #[]) : ClassFile where
  minorVersion := 0
  majorVersion := 65
  constantPool := pool
  accessFlags := fl
  thisClass := this
  superClass := sup
  interfaces := ifs
  fields := fds
  methods := ms
  attributes := attrs
def plain (name : String) (sup : Option ClassId) : Class where
  name := name
  kind := .ordinary
  loader := none
  accessFlags := 33
  super := sup
  interfaces := #[]
  cf := none
  fields := #[]
  methods := #[]
  instanceTypes := #[]
  staticTypes := #[]
  resolved := #[]
  callSites := []
  init := .initialized
  statics := none
  mirror := none

def pool0 : Array CpInfo := pool [(5, u "<init>"), (0, u "()V"), (1, .class_ 10), (1, u "java/lang/Object")] 113

def k0c0 : Code := { maxStack := 0, maxLocals := 1, code := object_method_1_code, exceptionTable := #[], attributes := #[] }
def k0m0 : Method := { name := "<init>", desc := "()V", sig := { parameters := [], returnType := none }, accessFlags := 1, code := some k0c0 }
/-- java/lang/Object -/
def k0 : Class := { plain "java/lang/Object" none with
  accessFlags := 33
  interfaces := #[]
  cf := some (fileOf pool0 8 #[] #[{ accessFlags := 1, nameIndex := 5, descriptorIndex := 6, attributes := #[] }] 33 0 #[] #[])
  fields := #[]
  methods := #[k0m0]
  instanceTypes := #[]
  staticTypes := #[]
  resolved := Array.replicate 124 none
  statics := none }

def pool1 : Array CpInfo := pool [(2, .class_ 4), (1, u "java/lang/Object"), (0, u "<init>"), (0, u "()V"), (0, .class_ 8), (0, u "com/example/earnest_broker/earnestbroker/remoting/RemotingCommand"), (0, .methodref 7 10), (0, .nameAndType 5 11), (0, u "(ILjava/lang/String;IIILjava/lang/String;Ljava/util/Map;[B)V"), (0, .methodref 7 13), (0, .nameAndType 14 15), (0, u "isResponse"), (0, u "()Z"), (0, .methodref 7 17), (0, .nameAndType 18 19), (0, u "reply"), (0, u "(ILjava/lang/String;[B)Lcom/example/earnest_broker/earnestbroker/remoting/RemotingCommand;"), (0, .class_ 21), (0, u "com/example/earnest_broker/earnestbroker/remoting/RemotingCommandIsResponsePinLaw"), (2, u "law"), (0, u "(IIIII)Z")] 3

def k1m0 : Method := { name := "<init>", desc := "()V", sig := { parameters := [], returnType := none }, accessFlags := 1, code := none }
def k1c1 : Code := { maxStack := 10, maxLocals := 14, code := code, exceptionTable := #[], attributes := #[] }
def k1m1 : Method := { name := "law", desc := "(IIIII)Z", sig := { parameters := [.int, .int, .int, .int, .int], returnType := some .boolean }, accessFlags := 9, code := some k1c1 }
/-- com/example/earnest_broker/earnestbroker/remoting/RemotingCommandIsResponsePinLaw -/
def k1 : Class := { plain "com/example/earnest_broker/earnestbroker/remoting/RemotingCommandIsResponsePinLaw" (some 0) with
  accessFlags := 49
  interfaces := #[]
  cf := some (fileOf pool1 20 #[] #[{ accessFlags := 1, nameIndex := 5, descriptorIndex := 6, attributes := #[] }, { accessFlags := 9, nameIndex := 24, descriptorIndex := 25, attributes := #[] }] 49 2 #[] #[])
  fields := #[]
  methods := #[k1m0, k1m1]
  instanceTypes := #[]
  staticTypes := #[]
  resolved := Array.replicate 29 none
  statics := none }

def pool2 : Array CpInfo := pool [(1, .methodref 2 3), (0, .class_ 4), (0, .nameAndType 5 6), (0, u "java/lang/Object"), (0, u "<init>"), (0, u "()V"), (0, .class_ 8), (0, u "java/lang/Record")] 13

def k2c0 : Code := { maxStack := 1, maxLocals := 1, code := jdk_30_method_1_code, exceptionTable := #[], attributes := #[] }
def k2m0 : Method := { name := "<init>", desc := "()V", sig := { parameters := [], returnType := none }, accessFlags := 4, code := some k2c0 }
/-- java/lang/Record -/
def k2 : Class := { plain "java/lang/Record" (some 0) with
  accessFlags := 1057
  interfaces := #[]
  cf := some (fileOf pool2 7 #[] #[{ accessFlags := 4, nameIndex := 5, descriptorIndex := 6, attributes := #[] }] 1057 2 #[] #[])
  fields := #[]
  methods := #[k2m0]
  instanceTypes := #[]
  staticTypes := #[]
  resolved := Array.replicate 22 none
  statics := none }

def pool3 : Array CpInfo := pool [(3, .class_ 4), (0, u "com/example/earnest_broker/earnestbroker/remoting/RemotingCommand"), (0, .methodref 6 7), (0, .class_ 8), (0, .nameAndType 9 10), (0, u "java/lang/Record"), (0, u "<init>"), (0, u "()V"), (0, .interfaceMethodref 12 13), (0, .class_ 14), (0, .nameAndType 15 16), (0, u "java/util/Map"), (0, u "of"), (0, u "()Ljava/util/Map;"), (0, .fieldref 3 18), (0, .nameAndType 19 20), (0, u "NO_BODY"), (0, u "[B"), (0, .fieldref 3 22), (0, .nameAndType 23 24), (0, u "code"), (0, u "I"), (0, .fieldref 3 26), (0, .nameAndType 27 28), (0, u "language"), (0, u "Ljava/lang/String;"), (0, .fieldref 3 30), (0, .nameAndType 31 24), (0, u "version"), (0, .fieldref 3 33), (0, .nameAndType 34 24), (0, u "opaque"), (0, .fieldref 3 36), (0, .nameAndType 37 24), (0, u "flag"), (0, .fieldref 3 39), (0, .nameAndType 40 28), (0, u "remark"), (0, .fieldref 3 42), (0, .nameAndType 43 44), (0, u "extFields"), (0, u "Ljava/util/Map;"), (0, .fieldref 3 46), (0, .nameAndType 47 20), (0, u "body"), (0, .string 49), (0, u "JAVA"), (2, u "NEXT_OPAQUE"), (0, u "Ljava/util/concurrent/atomic/AtomicInteger;"), (6, .methodref 3 61), (0, .nameAndType 9 62), (0, u "(ILjava/lang/String;IIILjava/lang/String;Ljava/util/Map;[B)V"), (33, .methodref 3 97), (0, .nameAndType 98 99), (0, u "reply"), (0, u "(ILjava/lang/String;Ljava/util/Map;[B)Lcom/example/earnest_broker/earnestbroker/remoting/RemotingCommand;"), (30, u "MAX_FRAME_LENGTH"), (2, u "MAX_FRAME_BYTES"), (1, u "LANGUAGE"), (0, u "RESPONSE_FLAG"), (1, u "ONEWAY_FLAG"), (10, u "isResponse"), (0, u "()Z"), (5, u "(ILjava/lang/String;[B)Lcom/example/earnest_broker/earnestbroker/remoting/RemotingCommand;")] 64

def k3c0 : Code := { maxStack := 2, maxLocals := 9, code := prog_17_method_1_code, exceptionTable := #[], attributes := #[] }
def k3m0 : Method := { name := "<init>", desc := "(ILjava/lang/String;IIILjava/lang/String;Ljava/util/Map;[B)V", sig := { parameters := [.int, (.object "java/lang/String"), .int, .int, .int, (.object "java/lang/String"), (.object "java/util/Map"), (.array .byte)], returnType := none }, accessFlags := 1, code := some k3c0 }
def k3c1 : Code := { maxStack := 2, maxLocals := 1, code := prog_17_method_3_code, exceptionTable := #[], attributes := #[] }
def k3m1 : Method := { name := "isResponse", desc := "()Z", sig := { parameters := [], returnType := some .boolean }, accessFlags := 1, code := some k3c1 }
def k3c2 : Code := { maxStack := 5, maxLocals := 4, code := prog_17_method_8_code, exceptionTable := #[], attributes := #[] }
def k3m2 : Method := { name := "reply", desc := "(ILjava/lang/String;[B)Lcom/example/earnest_broker/earnestbroker/remoting/RemotingCommand;", sig := { parameters := [.int, (.object "java/lang/String"), (.array .byte)], returnType := some (.object "com/example/earnest_broker/earnestbroker/remoting/RemotingCommand") }, accessFlags := 1, code := some k3c2 }
def k3c3 : Code := { maxStack := 10, maxLocals := 5, code := prog_17_method_9_code, exceptionTable := #[], attributes := #[] }
def k3m3 : Method := { name := "reply", desc := "(ILjava/lang/String;Ljava/util/Map;[B)Lcom/example/earnest_broker/earnestbroker/remoting/RemotingCommand;", sig := { parameters := [.int, (.object "java/lang/String"), (.object "java/util/Map"), (.array .byte)], returnType := some (.object "com/example/earnest_broker/earnestbroker/remoting/RemotingCommand") }, accessFlags := 1, code := some k3c3 }
/-- com/example/earnest_broker/earnestbroker/remoting/RemotingCommand -/
def k3 : Class := { plain "com/example/earnest_broker/earnestbroker/remoting/RemotingCommand" (some 2) with
  accessFlags := 49
  interfaces := #[]
  cf := some (fileOf pool3 3 #[] #[{ accessFlags := 1, nameIndex := 9, descriptorIndex := 62, attributes := #[] }, { accessFlags := 1, nameIndex := 149, descriptorIndex := 150, attributes := #[] }, { accessFlags := 1, nameIndex := 98, descriptorIndex := 156, attributes := #[] }, { accessFlags := 1, nameIndex := 98, descriptorIndex := 99, attributes := #[] }] 49 6 #[] #[{ accessFlags := 18, nameIndex := 23, descriptorIndex := 24, attributes := #[] }, { accessFlags := 18, nameIndex := 27, descriptorIndex := 28, attributes := #[] }, { accessFlags := 18, nameIndex := 31, descriptorIndex := 24, attributes := #[] }, { accessFlags := 18, nameIndex := 34, descriptorIndex := 24, attributes := #[] }, { accessFlags := 18, nameIndex := 37, descriptorIndex := 24, attributes := #[] }, { accessFlags := 18, nameIndex := 40, descriptorIndex := 28, attributes := #[] }, { accessFlags := 18, nameIndex := 43, descriptorIndex := 44, attributes := #[] }, { accessFlags := 18, nameIndex := 47, descriptorIndex := 20, attributes := #[] }, { accessFlags := 25, nameIndex := 130, descriptorIndex := 24, attributes := #[] }, { accessFlags := 25, nameIndex := 133, descriptorIndex := 24, attributes := #[] }, { accessFlags := 26, nameIndex := 135, descriptorIndex := 28, attributes := #[] }, { accessFlags := 26, nameIndex := 136, descriptorIndex := 24, attributes := #[] }, { accessFlags := 26, nameIndex := 138, descriptorIndex := 24, attributes := #[] }, { accessFlags := 26, nameIndex := 19, descriptorIndex := 20, attributes := #[] }, { accessFlags := 26, nameIndex := 52, descriptorIndex := 53, attributes := #[] }])
  fields := #[{ name := "code", type := .int, accessFlags := 18, slot := 0, constantValue := 0 }, { name := "language", type := (.object "java/lang/String"), accessFlags := 18, slot := 1, constantValue := 0 }, { name := "version", type := .int, accessFlags := 18, slot := 2, constantValue := 0 }, { name := "opaque", type := .int, accessFlags := 18, slot := 3, constantValue := 0 }, { name := "flag", type := .int, accessFlags := 18, slot := 4, constantValue := 0 }, { name := "remark", type := (.object "java/lang/String"), accessFlags := 18, slot := 5, constantValue := 0 }, { name := "extFields", type := (.object "java/util/Map"), accessFlags := 18, slot := 6, constantValue := 0 }, { name := "body", type := (.array .byte), accessFlags := 18, slot := 7, constantValue := 0 }, { name := "MAX_FRAME_LENGTH", type := .int, accessFlags := 25, slot := 0, constantValue := 0 }, { name := "MAX_FRAME_BYTES", type := .int, accessFlags := 25, slot := 1, constantValue := 0 }, { name := "LANGUAGE", type := (.object "java/lang/String"), accessFlags := 26, slot := 2, constantValue := 0 }, { name := "RESPONSE_FLAG", type := .int, accessFlags := 26, slot := 3, constantValue := 0 }, { name := "ONEWAY_FLAG", type := .int, accessFlags := 26, slot := 4, constantValue := 0 }, { name := "NO_BODY", type := (.array .byte), accessFlags := 26, slot := 5, constantValue := 0 }, { name := "NEXT_OPAQUE", type := (.object "java/util/concurrent/atomic/AtomicInteger"), accessFlags := 26, slot := 6, constantValue := 0 }]
  methods := #[k3m0, k3m1, k3m2, k3m3]
  instanceTypes := #[.int, (.object "java/lang/String"), .int, .int, .int, (.object "java/lang/String"), (.object "java/util/Map"), (.array .byte)]
  staticTypes := #[.int, .int, (.object "java/lang/String"), .int, .int, (.array .byte), (.object "java/util/concurrent/atomic/AtomicInteger")]
  resolved := Array.replicate 221 none
  statics := some 0 }

def pool4 : Array CpInfo := pool [(2, .class_ 4), (1, u "java/util/Map"), (31, .class_ 37), (0, u "java/util/Map$Entry"), (43, .fieldref 82 83), (0, .class_ 84), (0, .nameAndType 85 86), (0, u "java/util/ImmutableCollections"), (0, u "EMPTY_MAP"), (0, u "Ljava/util/ImmutableCollections$MapN;"), (6, .class_ 94), (0, u "java/lang/Object"), (13, u "of"), (0, u "()Ljava/util/Map;")] 153

def k4c0 : Code := { maxStack := 1, maxLocals := 0, code := jdk_72_method_26_code, exceptionTable := #[], attributes := #[] }
def k4m0 : Method := { name := "of", desc := "()Ljava/util/Map;", sig := { parameters := [], returnType := some (.object "java/util/Map") }, accessFlags := 9, code := some k4c0 }
/-- java/util/Map -/
def k4 : Class := { plain "java/util/Map" (some 0) with
  accessFlags := 1537
  interfaces := #[]
  cf := some (fileOf pool4 2 #[.nestMembers #[36]] #[{ accessFlags := 9, nameIndex := 108, descriptorIndex := 109, attributes := #[] }] 1537 93 #[] #[])
  fields := #[]
  methods := #[k4m0]
  instanceTypes := #[]
  staticTypes := #[]
  resolved := Array.replicate 263 none
  statics := none }

def pool5 : Array CpInfo := pool [(2, .class_ 4), (1, u "java/lang/Object"), (0, u "<init>"), (0, u "()V"), (3, .class_ 11), (0, u "java/util/ImmutableCollections$List12"), (0, .class_ 13), (0, u "java/util/ImmutableCollections$ListN"), (3, u "Z"), (29, .class_ 49), (1, u "java/util/ImmutableCollections"), (0, u "$assertionsDisabled"), (5, u "[Ljava/lang/Object;"), (5, u "EMPTY_LIST"), (0, u "Ljava/util/ImmutableCollections$ListN;"), (8, u "EMPTY_LIST_NULLS"), (22, u "SALT32L"), (0, u "J"), (2, u "REVERSE"), (6, u "archivedObjects"), (2, u "EMPTY"), (0, u "Ljava/lang/Object;"), (0, .class_ 112), (0, u "java/util/ImmutableCollections$SetN"), (5, u "EMPTY_SET"), (0, u "Ljava/util/ImmutableCollections$SetN;"), (0, .class_ 121), (0, u "java/util/ImmutableCollections$MapN"), (3, u "EMPTY_MAP"), (0, u "Ljava/util/ImmutableCollections$MapN;"), (4, u "EXPAND_FACTOR"), (0, u "I"), (36, .class_ 170), (0, u "java/util/ImmutableCollections$MapN$MapNIterator"), (0, .class_ 172), (0, u "java/util/ImmutableCollections$MapN$1"), (0, .class_ 174), (0, u "java/util/ImmutableCollections$Map1"), (0, .class_ 176), (0, u "java/util/ImmutableCollections$AbstractImmutableMap"), (0, .class_ 178), (0, u "java/util/ImmutableCollections$SetN$SetNIterator"), (0, .class_ 180), (0, u "java/util/ImmutableCollections$Set12"), (0, .class_ 182), (0, u "java/util/ImmutableCollections$Set12$1"), (0, .class_ 184), (0, u "java/util/ImmutableCollections$AbstractImmutableSet"), (0, .class_ 186), (0, u "java/util/ImmutableCollections$SubList"), (0, .class_ 188), (0, u "java/util/ImmutableCollections$ListItr"), (0, .class_ 190), (0, u "java/util/ImmutableCollections$AbstractImmutableList"), (0, .class_ 192), (0, u "java/util/ImmutableCollections$AbstractImmutableCollection"), (0, .class_ 194), (0, u "java/util/ImmutableCollections$Access"), (0, .class_ 196), (0, u "java/util/ImmutableCollections$Access$1")] 16

def k5m0 : Method := { name := "<init>", desc := "()V", sig := { parameters := [], returnType := none }, accessFlags := 2, code := none }
/-- java/util/ImmutableCollections -/
def k5 : Class := { plain "java/util/ImmutableCollections" (some 0) with
  accessFlags := 32
  interfaces := #[]
  cf := some (fileOf pool5 47 #[.nestMembers #[120, 169, 171, 173, 175, 111, 177, 179, 181, 183, 12, 10, 185, 187, 189, 191, 193, 195]] #[{ accessFlags := 2, nameIndex := 5, descriptorIndex := 6, attributes := #[] }] 32 2 #[] #[{ accessFlags := 26, nameIndex := 95, descriptorIndex := 96, attributes := #[] }, { accessFlags := 26, nameIndex := 99, descriptorIndex := 17, attributes := #[] }, { accessFlags := 10, nameIndex := 106, descriptorIndex := 56, attributes := #[] }, { accessFlags := 26, nameIndex := 109, descriptorIndex := 110, attributes := #[] }, { accessFlags := 24, nameIndex := 62, descriptorIndex := 63, attributes := #[] }, { accessFlags := 24, nameIndex := 72, descriptorIndex := 63, attributes := #[] }, { accessFlags := 24, nameIndex := 118, descriptorIndex := 119, attributes := #[] }, { accessFlags := 24, nameIndex := 125, descriptorIndex := 126, attributes := #[] }, { accessFlags := 24, nameIndex := 131, descriptorIndex := 132, attributes := #[] }, { accessFlags := 4120, nameIndex := 50, descriptorIndex := 17, attributes := #[] }])
  fields := #[{ name := "SALT32L", type := .long, accessFlags := 26, slot := 0, constantValue := 0 }, { name := "REVERSE", type := .boolean, accessFlags := 26, slot := 1, constantValue := 0 }, { name := "archivedObjects", type := (.array (.object "java/lang/Object")), accessFlags := 10, slot := 2, constantValue := 0 }, { name := "EMPTY", type := (.object "java/lang/Object"), accessFlags := 26, slot := 3, constantValue := 0 }, { name := "EMPTY_LIST", type := (.object "java/util/ImmutableCollections$ListN"), accessFlags := 24, slot := 4, constantValue := 0 }, { name := "EMPTY_LIST_NULLS", type := (.object "java/util/ImmutableCollections$ListN"), accessFlags := 24, slot := 5, constantValue := 0 }, { name := "EMPTY_SET", type := (.object "java/util/ImmutableCollections$SetN"), accessFlags := 24, slot := 6, constantValue := 0 }, { name := "EMPTY_MAP", type := (.object "java/util/ImmutableCollections$MapN"), accessFlags := 24, slot := 7, constantValue := 0 }, { name := "EXPAND_FACTOR", type := .int, accessFlags := 24, slot := 8, constantValue := 0 }, { name := "$assertionsDisabled", type := .boolean, accessFlags := 4120, slot := 9, constantValue := 0 }]
  methods := #[k5m0]
  instanceTypes := #[]
  staticTypes := #[.long, .boolean, (.array (.object "java/lang/Object")), (.object "java/lang/Object"), (.object "java/util/ImmutableCollections$ListN"), (.object "java/util/ImmutableCollections$ListN"), (.object "java/util/ImmutableCollections$SetN"), (.object "java/util/ImmutableCollections$MapN"), .int, .boolean]
  resolved := Array.replicate 213 none
  statics := some 1 }

def pool6 : Array CpInfo := pool [(1, .class_ 2), (0, u "java/io/Serializable"), (0, .class_ 4), (0, u "java/lang/Object")] 2

/-- java/io/Serializable -/
def k6 : Class := { plain "java/io/Serializable" (some 0) with
  accessFlags := 1537
  interfaces := #[]
  cf := some (fileOf pool6 1 #[] #[] 1537 3 #[] #[])
  fields := #[]
  methods := #[]
  instanceTypes := #[]
  staticTypes := #[]
  resolved := Array.replicate 7 none
  statics := none }

def pool7 : Array CpInfo := pool [(1, .class_ 2), (0, u "java/lang/Comparable"), (0, .class_ 4), (0, u "java/lang/Object")] 7

/-- java/lang/Comparable -/
def k7 : Class := { plain "java/lang/Comparable" (some 0) with
  accessFlags := 1537
  interfaces := #[]
  cf := some (fileOf pool7 1 #[] #[] 1537 3 #[] #[])
  fields := #[]
  methods := #[]
  instanceTypes := #[]
  staticTypes := #[]
  resolved := Array.replicate 12 none
  statics := none }

def pool8 : Array CpInfo := pool [(2, .class_ 4), (1, u "java/lang/CharSequence"), (42, .class_ 48), (0, u "java/lang/CharSequence$1CodePointIterator"), (10, .class_ 60), (0, u "java/lang/CharSequence$1CharIterator"), (5, .class_ 67), (0, u "java/lang/Object")] 63

/-- java/lang/CharSequence -/
def k8 : Class := { plain "java/lang/CharSequence" (some 0) with
  accessFlags := 1537
  interfaces := #[]
  cf := some (fileOf pool8 2 #[.nestMembers #[47, 59]] #[] 1537 66 #[] #[])
  fields := #[]
  methods := #[]
  instanceTypes := #[]
  staticTypes := #[]
  resolved := Array.replicate 131 none
  statics := none }

def pool9 : Array CpInfo := pool [(1, .class_ 2), (0, u "java/lang/constant/Constable"), (0, .class_ 4), (0, u "java/lang/Object")] 6

/-- java/lang/constant/Constable -/
def k9 : Class := { plain "java/lang/constant/Constable" (some 0) with
  accessFlags := 1537
  interfaces := #[]
  cf := some (fileOf pool9 1 #[] #[] 1537 3 #[] #[])
  fields := #[]
  methods := #[]
  instanceTypes := #[]
  staticTypes := #[]
  resolved := Array.replicate 11 none
  statics := none }

def pool10 : Array CpInfo := pool [(1, .class_ 2), (0, u "java/lang/constant/ConstantDesc"), (0, .class_ 4), (0, u "java/lang/Object")] 32

/-- java/lang/constant/ConstantDesc -/
def k10 : Class := { plain "java/lang/constant/ConstantDesc" (some 0) with
  accessFlags := 1537
  interfaces := #[]
  cf := some (fileOf pool10 1 #[] #[] 1537 3 #[] #[])
  fields := #[]
  methods := #[]
  instanceTypes := #[]
  staticTypes := #[]
  resolved := Array.replicate 37 none
  statics := none }

def pool11 : Array CpInfo := pool [(2, .class_ 4), (1, u "java/lang/Object"), (0, u "<init>"), (0, u "()V"), (3, .class_ 12), (1, u "java/lang/String"), (0, u "value"), (0, u "[B"), (2, u "coder"), (0, u "B"), (2, u "hash"), (0, u "I"), (2, u "hashIsZero"), (0, u "Z"), (13, u "COMPACT_STRINGS"), (534, .class_ 576), (0, u "java/lang/CharSequence"), (22, u "CASE_INSENSITIVE_ORDER"), (0, u "Ljava/util/Comparator;"), (500, u "serialPersistentFields"), (0, u "[Ljava/io/ObjectStreamField;"), (0, .class_ 1104), (0, u "java/lang/String$CaseInsensitiveComparator"), (1, .class_ 1107), (0, u "java/io/Serializable"), (0, .class_ 1109), (0, u "java/lang/Comparable"), (0, .class_ 1111), (0, u "java/lang/constant/Constable"), (0, .class_ 1113), (0, u "java/lang/constant/ConstantDesc"), (2, u "serialVersionUID"), (0, u "J"), (3, u "REPL"), (0, u "C"), (2, u "LATIN1"), (1, u "UTF16")] 323

def k11m0 : Method := { name := "<init>", desc := "()V", sig := { parameters := [], returnType := none }, accessFlags := 1, code := none }
/-- java/lang/String -/
def k11 : Class := { plain "java/lang/String" (some 0) with
  accessFlags := 49
  interfaces := #[6, 7, 8, 9, 10]
  cf := some (fileOf pool11 10 #[.nestMembers #[1103]] #[{ accessFlags := 1, nameIndex := 5, descriptorIndex := 6, attributes := #[] }] 49 2 #[1106, 1108, 575, 1110, 1112] #[{ accessFlags := 18, nameIndex := 13, descriptorIndex := 14, attributes := #[] }, { accessFlags := 18, nameIndex := 17, descriptorIndex := 18, attributes := #[] }, { accessFlags := 2, nameIndex := 21, descriptorIndex := 22, attributes := #[] }, { accessFlags := 2, nameIndex := 25, descriptorIndex := 26, attributes := #[] }, { accessFlags := 26, nameIndex := 1116, descriptorIndex := 1117, attributes := #[] }, { accessFlags := 24, nameIndex := 40, descriptorIndex := 26, attributes := #[] }, { accessFlags := 26, nameIndex := 1101, descriptorIndex := 1102, attributes := #[] }, { accessFlags := 26, nameIndex := 1121, descriptorIndex := 1122, attributes := #[] }, { accessFlags := 25, nameIndex := 599, descriptorIndex := 600, attributes := #[] }, { accessFlags := 24, nameIndex := 1125, descriptorIndex := 18, attributes := #[] }, { accessFlags := 24, nameIndex := 1127, descriptorIndex := 18, attributes := #[] }])
  fields := #[{ name := "value", type := (.array .byte), accessFlags := 18, slot := 0, constantValue := 0 }, { name := "coder", type := .byte, accessFlags := 18, slot := 1, constantValue := 0 }, { name := "hash", type := .int, accessFlags := 2, slot := 2, constantValue := 0 }, { name := "hashIsZero", type := .boolean, accessFlags := 2, slot := 3, constantValue := 0 }, { name := "serialVersionUID", type := .long, accessFlags := 26, slot := 0, constantValue := 0 }, { name := "COMPACT_STRINGS", type := .boolean, accessFlags := 24, slot := 1, constantValue := 0 }, { name := "serialPersistentFields", type := (.array (.object "java/io/ObjectStreamField")), accessFlags := 26, slot := 2, constantValue := 0 }, { name := "REPL", type := .char, accessFlags := 26, slot := 3, constantValue := 0 }, { name := "CASE_INSENSITIVE_ORDER", type := (.object "java/util/Comparator"), accessFlags := 25, slot := 4, constantValue := 0 }, { name := "LATIN1", type := .byte, accessFlags := 24, slot := 5, constantValue := 0 }, { name := "UTF16", type := .byte, accessFlags := 24, slot := 6, constantValue := 0 }]
  methods := #[k11m0]
  instanceTypes := #[(.array .byte), .byte, .int, .boolean]
  staticTypes := #[.long, .boolean, (.array (.object "java/io/ObjectStreamField")), .char, (.object "java/util/Comparator"), .byte, .byte]
  resolved := Array.replicate 1451 none
  statics := none }

def pool12 : Array CpInfo := pool [(2, .class_ 4), (1, u "java/lang/Object"), (0, u "<init>"), (0, u "()V"), (1, .class_ 10), (1, u "java/util/AbstractMap"), (42, .class_ 54), (0, u "java/util/Map"), (9, u "keySet"), (0, u "Ljava/util/Set;"), (0, .class_ 67), (0, u "java/util/AbstractMap$1"), (5, u "values"), (0, u "Ljava/util/Collection;"), (0, .class_ 76), (0, u "java/util/AbstractMap$2"), (104, .class_ 182), (0, u "java/util/AbstractMap$ViewCollection"), (0, .class_ 184), (0, u "java/util/AbstractMap$SimpleImmutableEntry"), (0, .class_ 186), (0, u "java/util/AbstractMap$SimpleEntry"), (0, .class_ 188), (0, u "java/util/AbstractMap$2$1"), (0, .class_ 190), (0, u "java/util/AbstractMap$1$1")] 5

def k12m0 : Method := { name := "<init>", desc := "()V", sig := { parameters := [], returnType := none }, accessFlags := 4, code := none }
/-- java/util/AbstractMap -/
def k12 : Class := { plain "java/util/AbstractMap" (some 0) with
  accessFlags := 1057
  interfaces := #[4]
  cf := some (fileOf pool12 8 #[.nestMembers #[181, 183, 185, 75, 187, 66, 189]] #[{ accessFlags := 4, nameIndex := 5, descriptorIndex := 6, attributes := #[] }] 1057 2 #[53] #[{ accessFlags := 128, nameIndex := 64, descriptorIndex := 65, attributes := #[] }, { accessFlags := 128, nameIndex := 73, descriptorIndex := 74, attributes := #[] }])
  fields := #[{ name := "keySet", type := (.object "java/util/Set"), accessFlags := 128, slot := 0, constantValue := 0 }, { name := "values", type := (.object "java/util/Collection"), accessFlags := 128, slot := 1, constantValue := 0 }]
  methods := #[k12m0]
  instanceTypes := #[(.object "java/util/Set"), (.object "java/util/Collection")]
  staticTypes := #[]
  resolved := Array.replicate 196 none
  statics := none }

def pool13 : Array CpInfo := pool [(2, .class_ 4), (1, u "java/util/AbstractMap"), (0, u "<init>"), (0, u "()V"), (1, .class_ 10), (1, u "java/util/ImmutableCollections"), (3, .class_ 16), (1, u "java/util/ImmutableCollections$AbstractImmutableMap"), (2, .class_ 20), (0, u "java/io/Serializable")] 66

def k13m0 : Method := { name := "<init>", desc := "()V", sig := { parameters := [], returnType := none }, accessFlags := 0, code := none }
/-- java/util/ImmutableCollections$AbstractImmutableMap -/
def k13 : Class := { plain "java/util/ImmutableCollections$AbstractImmutableMap" (some 12) with
  accessFlags := 1056
  interfaces := #[6]
  cf := some (fileOf pool13 14 #[.nestHost 8] #[{ accessFlags := 0, nameIndex := 5, descriptorIndex := 6, attributes := #[] }] 1056 2 #[19] #[])
  fields := #[]
  methods := #[k13m0]
  instanceTypes := #[(.object "java/util/Set"), (.object "java/util/Collection")]
  staticTypes := #[]
  resolved := Array.replicate 87 none
  statics := none }

def pool14 : Array CpInfo := pool [(1, .class_ 2), (0, u "java/util/ImmutableCollections"), (1, .class_ 6), (1, u "java/util/ImmutableCollections$AbstractImmutableMap"), (10, .class_ 19), (1, u "java/util/ImmutableCollections$MapN"), (0, u "size"), (0, u "I"), (4, u "table"), (0, u "[Ljava/lang/Object;")] 121

/-- java/util/ImmutableCollections$MapN -/
def k14 : Class := { plain "java/util/ImmutableCollections$MapN" (some 13) with
  accessFlags := 48
  interfaces := #[]
  cf := some (fileOf pool14 17 #[.nestHost 1] #[] 48 4 #[] #[{ accessFlags := 16, nameIndex := 26, descriptorIndex := 27, attributes := #[] }, { accessFlags := 16, nameIndex := 20, descriptorIndex := 21, attributes := #[] }])
  fields := #[{ name := "table", type := (.array (.object "java/lang/Object")), accessFlags := 16, slot := 2, constantValue := 0 }, { name := "size", type := .int, accessFlags := 16, slot := 3, constantValue := 0 }]
  methods := #[]
  instanceTypes := #[(.object "java/util/Set"), (.object "java/util/Collection"), (.array (.object "java/lang/Object")), .int]
  staticTypes := #[]
  resolved := Array.replicate 149 none
  statics := none }

def pool15 : Array CpInfo := pool [(1, u "java/lang/Cloneable"), (0, .class_ 1), (0, u "java/lang/Object"), (0, .class_ 3)] 3

/-- java/lang/Cloneable -/
def k15 : Class := { plain "java/lang/Cloneable" (some 0) with
  accessFlags := 1537
  interfaces := #[]
  cf := some (fileOf pool15 2 #[] #[] 1537 4 #[] #[])
  fields := #[]
  methods := #[]
  instanceTypes := #[]
  staticTypes := #[]
  resolved := Array.replicate 8 none
  statics := none }

/-- the primitive byte -/
def k16 : Class := { plain "byte" none with kind := .primitive 'B', accessFlags := 0x411 }
/-- [B -/
def k17 : Class := { plain "[B" (some 0) with kind := .array 16 .byte, interfaces := #[15, 6], accessFlags := 1041 }

/-- the primitive int -/
def k18 : Class := { plain "int" none with kind := .primitive 'I', accessFlags := 0x411 }
/-- [I -/
def k19 : Class := { plain "[I" (some 0) with kind := .array 18 .int, interfaces := #[15, 6], accessFlags := 1041 }

/-- [Ljava/lang/Object; -/
def k20 : Class := { plain "[Ljava/lang/Object;" (some 0) with kind := .array 0 (.object "java/lang/Object"), interfaces := #[15, 6], accessFlags := 1041 }

def heap : Heap := #[{ cls := 3, slots := #[.int 0, .int 0, .null, .int 0, .int 0, .ref 3, .null], vm := .statics 3 },
  { cls := 5, slots := #[.long 0, .int 0, .null, .null, .null, .null, .null, .ref 4, .int 0, .int 0], vm := .statics 5 },
  { cls := 20, slots := #[], vm := .none },
  { cls := 17, slots := #[], vm := .none },
  { cls := 14, slots := #[.null, .null, .ref 2, .int 0], vm := .none }]
def classes : Array Class := #[k0, k1, k2, k3, k4, k5, k6, k7, k8, k9, k10, k11, k12, k13, k14, k15, k16, k17, k18, k19, k20]
def interned : List (Array UInt16 × Addr) := []
def slotsUsed : Nat := 21
def theMethod : MethodId := ⟨1, 1⟩
def args0 : Array Value := #[.int 1, .int 2, .int 3, .int 4, .int 5]
def aboutOver (below : List Frame) : State where
  vm := { classes := classes, interned := interned.toArray }
  heap := heap
  slotsUsed := slotsUsed
  threads := #[{ frames := .invoking theMethod args0 :: below }]
def below0 : List Frame := [.native { method := ⟨0, 0⟩, args := #[] }]
def about1 : State := aboutOver below0
def p0 : Program := .bare "" "" ""
def e0 : Env := launch0.env 0 0 0
theorem w_frames : about1.frames = Frame.invoking theMethod args0 :: below0 := rfl
set_option maxRecDepth 65536 in
theorem w_args : argsFit about1.vm theMethod args0 = true := by decide +kernel
set_option maxRecDepth 65536 in
theorem w_heap : heapFits about1 = true := by decide +kernel
set_option maxRecDepth 65536 in
theorem w_runnable : about1.curStatus? = some .runnable := by decide +kernel
set_option maxRecDepth 65536 in
theorem w_alone : about1.alone = true := by decide +kernel
set_option maxRecDepth 65536 in
theorem w_named : about1.methodNamed? x = some theMethod := by decide +kernel
set_option maxRecDepth 65536 in
theorem w_hears : about1.hears theMethod below0 = true := by decide +kernel
set_option maxRecDepth 65536 in
theorem w_ripe : about1.ripe theMethod args0 below0 = true := by decide +kernel
theorem w_running : about1.status = .running := rfl
set_option maxRecDepth 65536 in
theorem w_room : about1.hasRoom e0.platform room_1 = true :=
  launch0.hasRoom_least _ room_1 (by decide +kernel) (by decide +kernel) (by decide +kernel) (by decide +kernel) (by decide +kernel) (by decide +kernel)
theorem allAtoms_all (ts : List Jvm.Cond) (a : Array Jvm.Value) (st : Jvm.State) : (allAtoms ts).before a st = ts.all (fun c => c.before a st) := by
  induction ts with
  | nil => rfl
  | cons c t ih =>
    show (Jvm.Cond.and c (allAtoms t)).before a st = _
    rw [Jvm.Cond.before_and, ih, List.all_cons]
def words1 : List Jvm.Cond := Jvm.Cond.code x code maxLocals ret :: tables_1
/-- a 'code' word, met by the world's own term for the bytes: nothing is compared byte by byte -/
theorem code_word {y : MethodName} {bytes : ByteArray} {mx : Nat} {rt : Option FieldType} {a : Array Value} {s : State} {m : MethodId} {meth : Method} {c : Code} (h1 : s.methodNamed? y = some m) (h2 : s.vm.method? m = some meth) (h3 : meth.code = some c) (h4 : c.code = bytes)
    (h5 : (c.maxLocals == mx && c.exceptionTable.isEmpty && decide (c.maxStack ≤ mostOperands) && decide (meth.sig.returnType = rt) && !meth.locks && decide (parseMethodDescriptor y.desc = some meth.sig)) = true) : (Jvm.Cond.code y bytes mx rt).before a s = true := by
  simp only [Bool.and_eq_true, beq_iff_eq, Bool.not_eq_true', decide_eq_true_eq] at h5
  obtain ⟨⟨⟨⟨⟨g1, g2⟩, g3⟩, g4⟩, g5⟩, g6⟩ := h5
  simp [Cond.before, Cond.holds, Cond.value, h1, h2, h3, h4, g1, g2, g3, g4, g5, g6]
def isCode : Jvm.Cond → Bool
  | .code _ _ _ _ => true
  | _ => false
theorem all_split {L : List Jvm.Cond} {P : Jvm.Cond → Bool} (h1 : L.all (fun c => isCode c || P c) = true) (h2 : ∀ c ∈ L.filter isCode, P c = true) : L.all P = true := by
  refine List.all_eq_true.mpr fun c hc => ?_
  have h := List.all_eq_true.mp h1 c hc
  rcases Bool.eq_false_or_eq_true (isCode c) with hi | hi
  · exact h2 c (List.mem_filter.mpr ⟨hc, hi⟩)
  · simpa [hi] using h
set_option maxRecDepth 65536 in
theorem w_c0 : (Jvm.Cond.code x code maxLocals ret).before args0 about1 = true := code_word (m := ⟨1, 1⟩) (meth := k1m1) (c := k1c1) (by decide +kernel) rfl rfl rfl (by decide +kernel)
set_option maxRecDepth 65536 in
theorem w_c1 : (Jvm.Cond.code ({ cls := "com/example/earnest_broker/earnestbroker/remoting/RemotingCommand", name := "<init>", desc := "(ILjava/lang/String;IIILjava/lang/String;Ljava/util/Map;[B)V" } : Jvm.MethodName) prog_17_method_1_code (9 : Nat) (Option.none : Option Jvm.ClassFile.FieldType)).before args0 about1 = true := code_word (m := ⟨3, 0⟩) (meth := k3m0) (c := k3c0) (by decide +kernel) rfl rfl rfl (by decide +kernel)
set_option maxRecDepth 65536 in
theorem w_c2 : (Jvm.Cond.code ({ cls := "java/lang/Record", name := "<init>", desc := "()V" } : Jvm.MethodName) jdk_30_method_1_code (1 : Nat) (Option.none : Option Jvm.ClassFile.FieldType)).before args0 about1 = true := code_word (m := ⟨2, 0⟩) (meth := k2m0) (c := k2c0) (by decide +kernel) rfl rfl rfl (by decide +kernel)
set_option maxRecDepth 65536 in
theorem w_c3 : (Jvm.Cond.code ({ cls := "java/lang/Object", name := "<init>", desc := "()V" } : Jvm.MethodName) object_method_1_code (1 : Nat) (Option.none : Option Jvm.ClassFile.FieldType)).before args0 about1 = true := code_word (m := ⟨0, 0⟩) (meth := k0m0) (c := k0c0) (by decide +kernel) rfl rfl rfl (by decide +kernel)
set_option maxRecDepth 65536 in
theorem w_c4 : (Jvm.Cond.code ({ cls := "java/util/Map", name := "of", desc := "()Ljava/util/Map;" } : Jvm.MethodName) jdk_72_method_26_code (0 : Nat) (Option.some (Jvm.ClassFile.FieldType.object "java/util/Map"))).before args0 about1 = true := code_word (m := ⟨4, 0⟩) (meth := k4m0) (c := k4c0) (by decide +kernel) rfl rfl rfl (by decide +kernel)
set_option maxRecDepth 65536 in
theorem w_c5 : (Jvm.Cond.code ({ cls := "com/example/earnest_broker/earnestbroker/remoting/RemotingCommand", name := "isResponse", desc := "()Z" } : Jvm.MethodName) prog_17_method_3_code (1 : Nat) (Option.some Jvm.ClassFile.FieldType.boolean)).before args0 about1 = true := code_word (m := ⟨3, 1⟩) (meth := k3m1) (c := k3c1) (by decide +kernel) rfl rfl rfl (by decide +kernel)
set_option maxRecDepth 65536 in
theorem w_c6 : (Jvm.Cond.code ({ cls := "com/example/earnest_broker/earnestbroker/remoting/RemotingCommand", name := "reply", desc := "(ILjava/lang/String;[B)Lcom/example/earnest_broker/earnestbroker/remoting/RemotingCommand;" } : Jvm.MethodName) prog_17_method_8_code (4 : Nat) (Option.some (Jvm.ClassFile.FieldType.object "com/example/earnest_broker/earnestbroker/remoting/RemotingCommand"))).before args0 about1 = true := code_word (m := ⟨3, 2⟩) (meth := k3m2) (c := k3c2) (by decide +kernel) rfl rfl rfl (by decide +kernel)
set_option maxRecDepth 65536 in
theorem w_c7 : (Jvm.Cond.code ({ cls := "com/example/earnest_broker/earnestbroker/remoting/RemotingCommand", name := "reply", desc := "(ILjava/lang/String;Ljava/util/Map;[B)Lcom/example/earnest_broker/earnestbroker/remoting/RemotingCommand;" } : Jvm.MethodName) prog_17_method_9_code (5 : Nat) (Option.some (Jvm.ClassFile.FieldType.object "com/example/earnest_broker/earnestbroker/remoting/RemotingCommand"))).before args0 about1 = true := code_word (m := ⟨3, 3⟩) (meth := k3m3) (c := k3c3) (by decide +kernel) rfl rfl rfl (by decide +kernel)
def codes1 : List Jvm.Cond := [Jvm.Cond.code x code maxLocals ret, Jvm.Cond.code ({ cls := "com/example/earnest_broker/earnestbroker/remoting/RemotingCommand", name := "<init>", desc := "(ILjava/lang/String;IIILjava/lang/String;Ljava/util/Map;[B)V" } : Jvm.MethodName) prog_17_method_1_code (9 : Nat) (Option.none : Option Jvm.ClassFile.FieldType), Jvm.Cond.code ({ cls := "java/lang/Record", name := "<init>", desc := "()V" } : Jvm.MethodName) jdk_30_method_1_code (1 : Nat) (Option.none : Option Jvm.ClassFile.FieldType), Jvm.Cond.code ({ cls := "java/lang/Object", name := "<init>", desc := "()V" } : Jvm.MethodName) object_method_1_code (1 : Nat) (Option.none : Option Jvm.ClassFile.FieldType), Jvm.Cond.code ({ cls := "java/util/Map", name := "of", desc := "()Ljava/util/Map;" } : Jvm.MethodName) jdk_72_method_26_code (0 : Nat) (Option.some (Jvm.ClassFile.FieldType.object "java/util/Map")), Jvm.Cond.code ({ cls := "com/example/earnest_broker/earnestbroker/remoting/RemotingCommand", name := "isResponse", desc := "()Z" } : Jvm.MethodName) prog_17_method_3_code (1 : Nat) (Option.some Jvm.ClassFile.FieldType.boolean), Jvm.Cond.code ({ cls := "com/example/earnest_broker/earnestbroker/remoting/RemotingCommand", name := "reply", desc := "(ILjava/lang/String;[B)Lcom/example/earnest_broker/earnestbroker/remoting/RemotingCommand;" } : Jvm.MethodName) prog_17_method_8_code (4 : Nat) (Option.some (Jvm.ClassFile.FieldType.object "com/example/earnest_broker/earnestbroker/remoting/RemotingCommand")), Jvm.Cond.code ({ cls := "com/example/earnest_broker/earnestbroker/remoting/RemotingCommand", name := "reply", desc := "(ILjava/lang/String;Ljava/util/Map;[B)Lcom/example/earnest_broker/earnestbroker/remoting/RemotingCommand;" } : Jvm.MethodName) prog_17_method_9_code (5 : Nat) (Option.some (Jvm.ClassFile.FieldType.object "com/example/earnest_broker/earnestbroker/remoting/RemotingCommand"))]
set_option maxRecDepth 65536 in
theorem codes_eq : words1.filter isCode = codes1 := rfl
theorem w_codes : ∀ c ∈ words1.filter isCode, c.before args0 about1 = true := by
  rw [codes_eq]
  intro c hc
  simp only [codes1, List.mem_cons, List.not_mem_nil, or_false] at hc
  rcases hc with rfl | rfl | rfl | rfl | rfl | rfl | rfl | rfl
  · exact w_c0
  · exact w_c1
  · exact w_c2
  · exact w_c3
  · exact w_c4
  · exact w_c5
  · exact w_c6
  · exact w_c7
set_option maxRecDepth 65536 in
theorem w_t1 : (words1.take 24).all (fun c => isCode c || c.before args0 about1) = true := by decide +kernel
set_option maxRecDepth 65536 in
theorem w_t2 : ((words1.drop 24).take 24).all (fun c => isCode c || c.before args0 about1) = true := by decide +kernel
set_option maxRecDepth 65536 in
theorem w_t3 : ((words1.drop 24).drop 24).all (fun c => isCode c || c.before args0 about1) = true := by decide +kernel
theorem w_tables : (allAtoms (Jvm.Cond.code x code maxLocals ret :: tables_1)).before args0 about1 = true := by
  rw [allAtoms_all]
  show words1.all (fun c => c.before args0 about1) = true
  refine all_split ?_ w_codes
  rw [← List.take_append_drop 24 words1, List.all_append, w_t1, ← List.take_append_drop 24 (words1.drop 24), List.all_append, w_t2, w_t3]
  rfl
set_option maxRecDepth 65536 in
theorem w_rest : rest_1_c.before args0 about1 = true := by decide +kernel
set_option maxRecDepth 65536 in
theorem w_case : (Jvm.Cond.and given_1 narrow_1).before args0 about1 = true := by decide +kernel
theorem w_applies : (headSpec (Jvm.Cond.code x code maxLocals ret :: tables_1) room_1).applies x e0.platform about1 = true :=
  (Spec.applies_iff w_frames).mpr ⟨w_running, w_runnable, w_alone, w_named, w_hears, w_ripe, w_room, w_tables⟩
theorem atStart : AtStart classFile x code maxLocals ret World_1 tables_1 room_1 Calls_1 rest_1 Pre_1 launch0 p0 e0 about1 theMethod args0 below0 :=
  ⟨lists_1, trivial, launch0.admits_env _ _ _, launch0.least_env, fairChoices_fair.cas, fairChoices_fair.clock, w_frames, w_args, w_heap, w_applies, trivial, w_rest, w_case⟩
end start1
theorem witness_1 : WitnessClaimed_1 := ⟨start1.p0, start1.e0, start1.about1, start1.theMethod, start1.args0, start1.below0, start1.atStart⟩
end Jvm.Pilot.@@N@@
