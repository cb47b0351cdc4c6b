import JvmDerived
import JvmDerived.Pilot.@@N@@Statement
import JvmDerived.Pilot.@@N@@Code
set_option linter.unusedVariables false
set_option linter.unusedSimpArgs false
@@BLOCK:LamKit.lean.txt@@
namespace Jvm.RoadKit
open Sem ClassFile Op Lib Jvm.Stand Jvm.Free Jvm.LawKit
section New
variable {p : Program} {l : Launch} {e : Env} {R : Room} {s : State} {m : MethodId} {args : Array Value} {below : List Frame} {meth : Method} {c : Code} {T : State} {locs : List Loc} {cells slots : Nat}
theorem retI (X : Stand p l e R s m args below meth c T locs cells slots) (hx : p.tables.exec = Jvm.exec) {pc : Nat} {Ls : Array Slot} {z : Int32} {rest : List Value} (hret : meth.sig.returnType = some .int) (hd : decode c.code pc = .ok (.ireturn, 1)) {fs : List Frame}
    (hl : ∀ (f : JFrame) (acts : List Action), f.method = m → f.locked = none → f.entered = [] → (doReturn e (T.setTop f) acts (some (.int z))).1 = T.setFrames fs) : Steps p.tables e below (T.setTop (mkF m pc Ls (.int z :: rest))) (T.setFrames fs) :=
  retOut X hx hret rfl (Or.inl ⟨rfl, Or.inl rfl, z, rfl⟩) hd hl
theorem own_retJ (X : Stand p l e R s m args below meth c T locs cells slots) (hx : p.tables.exec = Jvm.exec) {pc : Nat} {Ls : Array Slot} {z : Int64} {rest : List Value} (hret : meth.sig.returnType = some .long) (hd : decode c.code pc = .ok (.lreturn, 1)) {fs : List Frame}
    (hl : ∀ (f : JFrame) (acts : List Action), f.method = m → f.locked = none → f.entered = [] → (doReturn e (T.setTop f) acts (some (.long z))).1 = T.setFrames fs) : Steps p.tables e below (T.setTop (mkF m pc Ls (.long z :: rest))) (T.setFrames fs) :=
  retOut X hx hret rfl (Or.inr (Or.inl ⟨rfl, rfl, z, rfl⟩)) hd hl
theorem own_retA (X : Stand p l e R s m args below meth c T locs cells slots) (hx : p.tables.exec = Jvm.exec) {pc : Nat} {Ls : Array Slot} {w : Value} {t : FieldType} {rest : List Value} (hret : meth.sig.returnType = some t) (ht : t.isReference = true) (hw : w.isRef = true) (hd : decode c.code pc = .ok (.areturn, 1)) {fs : List Frame}
    (hl : ∀ (f : JFrame) (acts : List Action), f.method = m → f.locked = none → f.entered = [] → (doReturn e (T.setTop f) acts (some w)).1 = T.setFrames fs) : Steps p.tables e below (T.setTop (mkF m pc Ls (w :: rest))) (T.setFrames fs) :=
  retOut X hx hret (by cases t <;> first | rfl | cases ht) (Or.inr (Or.inr (Or.inr (Or.inr ⟨rfl, ht, hw⟩)))) hd hl
end New
end Jvm.RoadKit
namespace Jvm.Pilot.@@N@@
open Jvm Jvm.ClassFile Sem Op Lib Jvm.Free Jvm.Stand Jvm.LawKit Jvm.RoadKit Bundle Jvm.Pilot.@@N@@.Jvm.D
abbrev own_Go (tb : Tables) (e : Env) (below : List Frame) (S0 S1 : State) : Prop := ∀ t, Steps tb e below S1 t → Steps tb e below S0 t
theorem own_eqI {args : Array Value} {s : State} {t : Term} {k : Int32} (h : (Jvm.Cond.eq t (.int k)).value args s none s [] = some true) : t.eval args s none [] s = some (.int k) := by
  obtain ⟨x, y, e1, e2, -, -⟩ := cmp_v (Or.inl h)
  obtain rfl : y = .int k := (Option.some.inj e2).symm
  cases x <;> simp [Cond.value, e1, Term.eval] at h <;> simp_all
theorem own_eqL {args : Array Value} {s : State} {t : Term} {k : Int64} (h : (Jvm.Cond.eq t (.long k)).value args s none s [] = some true) : t.eval args s none [] s = some (.long k) := by
  obtain ⟨x, y, e1, e2, -, -⟩ := cmp_v (Or.inl h)
  obtain rfl : y = .long k := (Option.some.inj e2).symm
  cases x <;> simp [Cond.value, e1, Term.eval] at h <;> simp_all
theorem own_nar0 : nar .boolean (0 : Int32) = 0 := by decide
theorem own_nar1 : nar .boolean (1 : Int32) = 1 := by decide
theorem own_nar_ite {P : Prop} [Decidable P] {a b : Int32} (ha : nar .boolean a = a) (hb : nar .boolean b = b) : nar .boolean (if P then a else b) = if P then a else b := by split <;> assumption
theorem own_fld {args : Array Value} {s : State} {t : Term} {a : Addr} {C n d : String} {v : Value} (ht : t.eval args s none [] s = some (.ref a)) (h : (Term.field t C n d).eval args s none [] s = some v) : Fld s s.heap a C n d v :=
  Fld.start (by rw [← fld_at (args := args) (first := s) (o := none) (idx := []) ht]; exact h)

theorem own_wS {Z : State} {a0 : Array Value} (hw : ∀ d ∈ tables_1, d.before a0 Z = true) : ∀ a ∈ Bundle.stringAtoms, a.before a0 Z = true := by
  intro a ha
  simp only [Bundle.stringAtoms, Bundle.sN, List.mem_cons, List.not_mem_nil, or_false] at ha
  rcases ha with rfl | rfl | rfl | rfl | rfl | rfl | rfl
  · exact (hw _ (List.mem_of_getElem? (i := 21) rfl))
  · exact (hw _ (List.mem_of_getElem? (i := 22) rfl))
  · exact (hw _ (List.mem_of_getElem? (i := 23) rfl))
  · exact (hw _ (List.mem_of_getElem? (i := 24) rfl))
  · exact (hw _ (List.mem_of_getElem? (i := 25) rfl))
  · exact (hw _ (List.mem_of_getElem? (i := 26) rfl))
  · exact (hw _ (List.mem_of_getElem? (i := 27) rfl))
theorem own_lam {Z : State} {vm' : Vm} {a0 : Array Value} {y : MethodName} {pc index : Nat} {σ : Lambda.Shape} {m : MethodId} (hn : Z.methodNamed? y = some m) (hA : Z.vm.Alike vm') (w : (Jvm.Cond.lambdaSite y pc index σ).before a0 Z = true) (hc : σ.captured = []) :
    ∃ (a : Addr) (k : Class) (i0 p0 : Nat), vm'.classes[m.cls]? = some k ∧ (k.callSites.find? fun y => y.1 == m.idx && y.2.1 == pc) = some (i0, p0, .constant a) := by
  obtain ⟨c, one, hat⟩ := Cond.lambdaSite_spec w
  obtain ⟨m', k, cf, i0, p0, l, hm, hk, -, -, -, hf, -, -, hl⟩ := State.lambdaAt?_spec hat
  cases hn.symm.trans hm
  obtain ⟨k', hk', he⟩ := hA.2.2 _ _ hk
  rcases hl with ⟨a, cell, rfl, -⟩ | ⟨rfl, -, hcap⟩
  · exact ⟨a, k', i0, p0, hk', by rw [he]; exact hf⟩
  · exact absurd hc hcap
theorem own_named {Z s : State} {y : MethodName} {m : MethodId} (hZ : Z.Warmed39 s.vm) (h : s.methodNamed? y = some m) : Z.methodNamed? y = some m := by
  have q := State.methodNamed?_setVm (s := Z) hZ.alike y
  rw [← q]; exact h

def own_max (a b : Int32) : Int32 := if a < b then b else a
theorem own_max_pos (x : Int32) : ¬ own_max (1 : Int32) x < (1 : Int32) := by
  unfold own_max
  split
  · rename_i h; rw [Int32.lt_iff_toInt_lt] at *; omega
  · decide
theorem own_ge {p : Int32} (h : ¬ p < (1 : Int32)) : ¬ p < (0 : Int32) := by
  rw [Int32.lt_iff_toInt_lt] at *
  have e1 : (1 : Int32).toInt = 1 := by decide
  have e0 : (0 : Int32).toInt = 0 := by decide
  omega
theorem own_pos {p : Int32} (h : ¬ p < (1 : Int32)) : (0 : Int32) < p := by
  rw [Int32.lt_iff_toInt_lt] at *
  have e1 : (1 : Int32).toInt = 1 := by decide
  have e0 : (0 : Int32).toInt = 0 := by decide
  omega


theorem own_h (k x : Int32) : ¬ (if k = (0 : Int32) then (0 : Int32) else (if k = (1 : Int32) then (1 : Int32) else (if k = (2 : Int32) then (2147483647 : Int32) else (x &&& (2147483647 : Int32))))) < (0 : Int32) := by
  have h := (c_and x 2147483647 (by decide)).1
  split
  · decide
  · split
    · decide
    · split
      · decide
      · rw [Int32.lt_iff_toInt_lt]
        have e0 : (0 : Int32).toInt = 0 := by decide
        omega
theorem own_exp {h : Int32} (hge : ¬ h < (0 : Int32)) : (if (0 : Int32) < h then (1 : Int32) else (0 : Int32)) = (if h = (0 : Int32) then (0 : Int32) else (1 : Int32)) := by
  rw [Int32.lt_iff_toInt_lt] at hge
  have e0 : (0 : Int32).toInt = 0 := by decide
  simp only [Int32.lt_iff_toInt_lt, ← Int32.toInt_inj, e0]
  by_cases q : h.toInt = 0
  · rw [if_neg (by omega), if_pos q]
  · rw [if_pos (by omega), if_neg q]

theorem d1_0 : decode jdk_29_method_65_code 0 = .ok (.iload_n 0, 1) := by decide +kernel
theorem d1_1 : decode jdk_29_method_65_code 1 = .ok (.iload_n 1, 1) := by decide +kernel
theorem d1_2 : decode jdk_29_method_65_code 2 = .ok (.if_icmp .lt 7, 3) := by decide +kernel
theorem d1_5 : decode jdk_29_method_65_code 5 = .ok (.iload_n 0, 1) := by decide +kernel
theorem d1_6 : decode jdk_29_method_65_code 6 = .ok (.goto 4, 3) := by decide +kernel
theorem d1_9 : decode jdk_29_method_65_code 9 = .ok (.iload_n 1, 1) := by decide +kernel
theorem d1_10 : decode jdk_29_method_65_code 10 = .ok (.ireturn, 1) := by decide +kernel
theorem ef_1 (m : MethodId) (p0 : Int32) (p1 : Int32) : entryFrame m #[(.int p0), (.int p1)] 2 = mkF m 0 #[.val (.int p0), .val (.int p1)] [] := by first | (simp [entryFrame, mkF, argsToLocals, Value.category]; done) | rfl
def Q1 (Z : State) (p0 : Int32) (p1 : Int32)  (h0 : Heap) (v : Option Value) (h : Heap) (L : List Loc) : Prop := v = some (.int (own_max p0 p1)) ∧ L = [] ∧ h = h0
set_option maxRecDepth 65536 in
set_option maxHeartbeats 40000000 in
theorem rm1 (l : Launch) (Z : State) (aw : Array Value) (hw : ∀ d ∈ tables_1, d.before aw Z = true) (ws : List Jvm.Cond) (p0 : Int32) (p1 : Int32)  (h0 : Heap)  :
    MetFree l (⟨"java/lang/Math", "max", "(II)I"⟩ : MethodName) (head1 (Jvm.Cond.code (⟨"java/lang/Math", "max", "(II)I"⟩ : MethodName) jdk_29_method_65_code 2 (some .int) :: ws) ({ frames := 0, cells := 0, slots := 0, locals := 0 } : Room)) (fun a U => a = #[(.int p0), (.int p1)] ∧ Z.Warmed39 U.vm ∧ U.heap = h0) (fun _ _ _ _ _ => True) (fun _ U o U' => ∃ v L, o = .returned v ∧ Q1 Z p0 p1 h0 v U'.heap L ∧ FrameEnd U o U' L ({ frames := 0, cells := 0, slots := 0, locals := 0 } : Room).cells ({ frames := 0, cells := 0, slots := 0, locals := 0 } : Room).slots) := by
  refine MetFree.of_bodySF (Jvm.Free.JP.mathPlain rfl (by decide +kernel)) hisR ?_
  intro p e s m args below meth c s₁ Bd hml0 hP hK
  obtain ⟨rfl, hZ, hh⟩ := hP
  have hZ0 := hZ
  have hx := Bd.exec
  have hby := Bd.bytes
  have hml : c.maxLocals = 2 := hml0
  have hown : s.vm.findClass "java/lang/Math" = some m.cls := findClass_of_methodNamed Bd.named
  have hnm := (name_of_methodNamed Bd.named Bd.method).1
  have X0 : Stand p l e ({ frames := 0, cells := 0, slots := 0, locals := 0 } : Room) s m #[(.int p0), (.int p1)] below meth c s₁ [] 0 0 := Stand.of_body Bd
  have e0 : s₁.heap = h0 := by rw [← hh, Bd.state]; rfl
  have G0 : own_Go p.tables e below (s₁.setTop (entryFrame m #[(.int p0), (.int p1)] 2)) (s₁.setTop (mkF m 0 #[.val (.int p0), .val (.int p1)] [])) := fun t k => castTop (ef_1 m p0 p1) k
  have G1 : own_Go p.tables e below (s₁.setTop (entryFrame m #[(.int p0), (.int p1)] 2)) (s₁.setTop (mkF m 1 #[.val (.int p0), .val (.int p1)] [(.int p0)])) := fun t k => G0 t (XS.iloadN X0.here hx rfl (hb hby d1_0) rfl k)
  have G2 : own_Go p.tables e below (s₁.setTop (entryFrame m #[(.int p0), (.int p1)] 2)) (s₁.setTop (mkF m 2 #[.val (.int p0), .val (.int p1)] [(.int p1), (.int p0)])) := fun t k => G1 t (XS.iloadN X0.here hx rfl (hb hby d1_1) rfl k)
  obtain ⟨z3_0, hz3_0, G3⟩ : ∃ (z3_0 : Int32), z3_0 = (if p0 < p1 then p1 else p0) ∧ own_Go p.tables e below (s₁.setTop (entryFrame m #[(.int p0), (.int p1)] 2)) (s₁.setTop (mkF m 10 #[.val (.int p0), .val (.int p1)] [(.int z3_0)])) := by
    by_cases hc3 : p0 < p1
    · have G4 : own_Go p.tables e below (s₁.setTop (entryFrame m #[(.int p0), (.int p1)] 2)) (s₁.setTop (mkF m 9 #[.val (.int p0), .val (.int p1)] [])) := fun t k => G2 t (XS.icmpYes X0.here hx rfl (pc0 := 2) (pc' := 9) rfl (hb hby d1_2) rfl (tlt hc3).1 (by decide) (by decide) k)
      have G5 : own_Go p.tables e below (s₁.setTop (entryFrame m #[(.int p0), (.int p1)] 2)) (s₁.setTop (mkF m 10 #[.val (.int p0), .val (.int p1)] [(.int p1)])) := fun t k => G4 t (XS.iloadN X0.here hx rfl (hb hby d1_9) rfl k)
      exact ⟨_, (if_pos hc3).symm, G5⟩
    · have G6 : own_Go p.tables e below (s₁.setTop (entryFrame m #[(.int p0), (.int p1)] 2)) (s₁.setTop (mkF m 5 #[.val (.int p0), .val (.int p1)] [])) := fun t k => G2 t (XS.icmpNo X0.here hx rfl (hb hby d1_2) rfl (flt hc3).1 k)
      have G7 : own_Go p.tables e below (s₁.setTop (entryFrame m #[(.int p0), (.int p1)] 2)) (s₁.setTop (mkF m 6 #[.val (.int p0), .val (.int p1)] [(.int p0)])) := fun t k => G6 t (XS.iloadN X0.here hx rfl (hb hby d1_5) rfl k)
      have G8 : own_Go p.tables e below (s₁.setTop (entryFrame m #[(.int p0), (.int p1)] 2)) (s₁.setTop (mkF m 10 #[.val (.int p0), .val (.int p1)] [(.int p0)])) := fun t k => G7 t (XS.goto X0.here hx rfl (pc0 := 6) (pc' := 10) rfl (hb hby d1_6) (by decide) (by decide) k)
      exact ⟨_, (if_neg hc3).symm, G8⟩
  obtain ⟨fs, hr, hrun, hended, hW, hsame⟩ := X0.leave (v := some (.int z3_0)) (fun h => by rw [Bd.returns] at h; cases h)
  refine ⟨_, _, G3 _ ?_, hrun, hended, _, _, rfl, ?_, ⟨_, rfl⟩, hW, hsame.mono (by decide) (by decide)⟩
  · exact retI X0 hx Bd.returns (hb hby d1_10) hr
  · show Q1 Z p0 p1 h0 _ s₁.heap _
    rw [e0]
    exact ⟨congrArg (fun z => some (Value.int z)) (by rw [hz3_0]; rfl), rfl, rfl⟩
theorem d2_0 : decode jdk_32_method_1_code 0 = .ok (.getstatic 1, 3) := by decide +kernel
theorem d2_3 : decode jdk_32_method_1_code 3 = .ok (.astore_n 0, 1) := by decide +kernel
theorem d2_4 : decode jdk_32_method_1_code 4 = .ok (.aload_n 0, 1) := by decide +kernel
theorem d2_5 : decode jdk_32_method_1_code 5 = .ok (.areturn, 1) := by decide +kernel
theorem pn_2 : plainName "java/util/Optional" = true := by first | (simp [plainName, overriddenIn]; done) | decide +kernel
theorem ef_2 (m : MethodId)  : entryFrame m #[] 1 = mkF m 0 #[.unset] [] := by first | (simp [entryFrame, mkF, argsToLocals, Value.category]; done) | rfl
def Q2 (Z : State)  (aO : Addr) (h0 : Heap) (v : Option Value) (h : Heap) (L : List Loc) : Prop := v = some (.ref aO) ∧ L = [] ∧ h = h0
set_option maxRecDepth 65536 in
set_option maxHeartbeats 40000000 in
theorem rm2 (l : Launch) (Z : State) (aw : Array Value) (hw : ∀ d ∈ tables_1, d.before aw Z = true) (ws : List Jvm.Cond)  (aO : Addr) (h0 : Heap) (S_O : Sta Z h0 "java/util/Optional" "EMPTY" "Ljava/util/Optional;" (.ref aO)) :
    MetFree l (⟨"java/util/Optional", "empty", "()Ljava/util/Optional;"⟩ : MethodName) (head1 (Jvm.Cond.code (⟨"java/util/Optional", "empty", "()Ljava/util/Optional;"⟩ : MethodName) jdk_32_method_1_code 1 (some (.object "java/util/Optional")) :: ws) ({ frames := 0, cells := 0, slots := 0, locals := 0 } : Room)) (fun a U => a = #[] ∧ Z.Warmed39 U.vm ∧ U.heap = h0) (fun _ _ _ _ _ => True) (fun _ U o U' => ∃ v L, o = .returned v ∧ Q2 Z aO h0 v U'.heap L ∧ FrameEnd U o U' L ({ frames := 0, cells := 0, slots := 0, locals := 0 } : Room).cells ({ frames := 0, cells := 0, slots := 0, locals := 0 } : Room).slots) := by
  refine MetFree.of_bodySF (plainFor_of_name pn_2) hisR ?_
  intro p e s m args below meth c s₁ Bd hml0 hP hK
  obtain ⟨rfl, hZ, hh⟩ := hP
  have hZ0 := hZ
  have hx := Bd.exec
  have hby := Bd.bytes
  have hml : c.maxLocals = 1 := hml0
  have hown : s.vm.findClass "java/util/Optional" = some m.cls := findClass_of_methodNamed Bd.named
  have hnm := (name_of_methodNamed Bd.named Bd.method).1
  have X0 : Stand p l e ({ frames := 0, cells := 0, slots := 0, locals := 0 } : Room) s m #[] below meth c s₁ [] 0 0 := Stand.of_body Bd
  have e0 : s₁.heap = h0 := by rw [← hh, Bd.state]; rfl
  have G0 : own_Go p.tables e below (s₁.setTop (entryFrame m #[] 1)) (s₁.setTop (mkF m 0 #[.unset] [])) := fun t k => castTop (ef_2 m ) k
  obtain ⟨T1, X1, e1, st1⟩ := getS2 X0 hx hZ hown (host := "") (Or.inl (hw _ (List.mem_of_getElem? (i := 8) rfl))) Via.refl e0 S_O (g := (mkF m 0 #[.unset] [])) rfl (hb hby d2_0)
  have G1 : own_Go p.tables e below (s₁.setTop (entryFrame m #[] 1)) (T1.setTop (mkF m 3 #[.unset] [(.ref aO)])) := fun t k => G0 t (st1 t k)
  have G2 : own_Go p.tables e below (s₁.setTop (entryFrame m #[] 1)) (T1.setTop (mkF m 4 #[.val (.ref aO)] [])) := fun t k => G1 t (XS.astoreN X1.here hx rfl (hb hby d2_3) rfl rfl (l' := #[.val (.ref aO)]) rfl k)
  have G3 : own_Go p.tables e below (s₁.setTop (entryFrame m #[] 1)) (T1.setTop (mkF m 5 #[.val (.ref aO)] [(.ref aO)])) := fun t k => G2 t (XS.aloadN X1.here hx rfl (hb hby d2_4) rfl rfl k)
  obtain ⟨fs, hr, hrun, hended, hW, hsame⟩ := X1.leave (v := some (.ref aO)) (fun h => by rw [Bd.returns] at h; cases h)
  refine ⟨_, _, G3 _ ?_, hrun, hended, _, _, rfl, ?_, ⟨_, rfl⟩, hW, hsame.mono (by decide) (by decide)⟩
  · exact own_retA X1 hx Bd.returns rfl rfl (hb hby d2_5) hr
  · show Q2 Z aO h0 _ T1.heap _
    rw [e1]
    exact ⟨rfl, rfl, rfl⟩
theorem d3_0 : decode jdk_30_method_1_code 0 = .ok (.aload_n 0, 1) := by decide +kernel
theorem d3_1 : decode jdk_30_method_1_code 1 = .ok (.invokespecial 1, 3) := by decide +kernel
theorem d3_4 : decode jdk_30_method_1_code 4 = .ok (.return_, 1) := by decide +kernel
theorem pn_3 : plainName "java/lang/Record" = true := by first | (simp [plainName, overriddenIn]; done) | decide +kernel
theorem ef_3 (m : MethodId) (a0 : Addr) : entryFrame m #[(.ref a0)] 1 = mkF m 0 #[.val (.ref a0)] [] := by first | (simp [entryFrame, mkF, argsToLocals, Value.category]; done) | rfl
def Q3 (Z : State) (a0 : Addr)  (h0 : Heap) (v : Option Value) (h : Heap) (L : List Loc) : Prop := v = none ∧ Fr Z.heap.size L ∧ Keep h0 h []
set_option maxRecDepth 65536 in
set_option maxHeartbeats 40000000 in
theorem rm3 (l : Launch) (Z : State) (aw : Array Value) (hw : ∀ d ∈ tables_1, d.before aw Z = true) (ws : List Jvm.Cond) (a0 : Addr)  (h0 : Heap) (O0 : Old Z Z.heap.size h0)   :
    MetFree l (⟨"java/lang/Record", "<init>", "()V"⟩ : MethodName) (head1 (Jvm.Cond.code (⟨"java/lang/Record", "<init>", "()V"⟩ : MethodName) jdk_30_method_1_code 1 none :: ws) ({ frames := 1, cells := 0, slots := 0, locals := 12 } : Room)) (fun a U => a = #[(.ref a0)] ∧ Z.Warmed39 U.vm ∧ U.heap = h0) (fun _ _ _ _ _ => True) (fun _ U o U' => ∃ v L, o = .returned v ∧ Q3 Z a0 h0 v U'.heap L ∧ FrameEnd U o U' L ({ frames := 1, cells := 0, slots := 0, locals := 12 } : Room).cells ({ frames := 1, cells := 0, slots := 0, locals := 12 } : Room).slots) := by
  refine MetFree.of_bodySF (plainFor_of_name pn_3) hisR ?_
  intro p e s m args below meth c s₁ Bd hml0 hP hK
  obtain ⟨rfl, hZ, hh⟩ := hP
  have hZ0 := hZ
  have hx := Bd.exec
  have hby := Bd.bytes
  have hml : c.maxLocals = 1 := hml0
  have hown : s.vm.findClass "java/lang/Record" = some m.cls := findClass_of_methodNamed Bd.named
  have hnm := (name_of_methodNamed Bd.named Bd.method).1
  have X0 : Stand p l e ({ frames := 1, cells := 0, slots := 0, locals := 12 } : Room) s m #[(.ref a0)] below meth c s₁ [] 0 0 := Stand.of_body Bd
  have e0 : s₁.heap = h0 := by rw [← hh, Bd.state]; rfl
  have G0 : own_Go p.tables e below (s₁.setTop (entryFrame m #[(.ref a0)] 1)) (s₁.setTop (mkF m 0 #[.val (.ref a0)] [])) := fun t k => castTop (ef_3 m a0) k
  have N0 := Fr.nil Z.heap.size
  have K0 := Keep.refl h0 []
  have G1 : own_Go p.tables e below (s₁.setTop (entryFrame m #[(.ref a0)] 1)) (s₁.setTop (mkF m 1 #[.val (.ref a0)] [(.ref a0)])) := fun t k => G0 t (XS.aloadN X0.here hx rfl (hb hby d3_0) rfl rfl k)
  obtain ⟨T2, X2, e2, st2⟩ := initO X0 hx hZ hown (hw _ (List.mem_of_getElem? (i := 17) rfl)) (hw _ (List.mem_of_getElem? (i := 18) rfl)) (hw _ (List.mem_of_getElem? (i := 19) rfl)) e0 (g := (mkF m 1 #[.val (.ref a0)] [(.ref a0)])) rfl (by rw [hml]; rfl) rfl (hb hby d3_1) (by decide) (W := 0) (by show 2 * 0 + _ ≤ _; exact Nat.le_of_eq rfl) (by decide)
  have G2 : own_Go p.tables e below (s₁.setTop (entryFrame m #[(.ref a0)] 1)) (T2.setTop (mkF m 4 #[.val (.ref a0)] [])) := fun t k => G1 t (st2 t k)
  obtain ⟨fs, hr, hrun, hended, hW, hsame⟩ := X2.leave (v := none) (fun _ => rfl)
  refine ⟨_, _, G2 _ ?_, hrun, hended, _, _, rfl, ?_, ⟨_, rfl⟩, hW, hsame.mono (by decide) (by decide)⟩
  · exact X2.returnOut hx Bd.returns (hb hby d3_4) hr
  · show Q3 Z a0 h0 _ T2.heap _
    rw [e2]
    exact ⟨rfl, N0, K0⟩
theorem d4_0 : decode jdk_31_method_11_code 0 = .ok (.aload_n 0, 1) := by decide +kernel
theorem d4_1 : decode jdk_31_method_11_code 1 = .ok (.ifnonnull 12, 3) := by decide +kernel
theorem d4_13 : decode jdk_31_method_11_code 13 = .ok (.aload_n 0, 1) := by decide +kernel
theorem d4_14 : decode jdk_31_method_11_code 14 = .ok (.areturn, 1) := by decide +kernel
theorem pn_4 : plainName "java/util/Objects" = true := by first | (simp [plainName, overriddenIn]; done) | decide +kernel
theorem ef_4 (m : MethodId) (a0 : Addr) (a1 : Addr) : entryFrame m #[(.ref a0), (.ref a1)] 2 = mkF m 0 #[.val (.ref a0), .val (.ref a1)] [] := by first | (simp [entryFrame, mkF, argsToLocals, Value.category]; done) | rfl
def Q4 (Z : State) (a0 : Addr) (a1 : Addr)  (h0 : Heap) (v : Option Value) (h : Heap) (L : List Loc) : Prop := v = some (.ref a0) ∧ L = [] ∧ h = h0
set_option maxRecDepth 65536 in
set_option maxHeartbeats 40000000 in
theorem rm4 (l : Launch) (Z : State) (aw : Array Value) (hw : ∀ d ∈ tables_1, d.before aw Z = true) (ws : List Jvm.Cond) (a0 : Addr) (a1 : Addr)  (h0 : Heap)  :
    MetFree l (⟨"java/util/Objects", "requireNonNull", "(Ljava/lang/Object;Ljava/lang/String;)Ljava/lang/Object;"⟩ : MethodName) (head1 (Jvm.Cond.code (⟨"java/util/Objects", "requireNonNull", "(Ljava/lang/Object;Ljava/lang/String;)Ljava/lang/Object;"⟩ : MethodName) jdk_31_method_11_code 2 (some (.object "java/lang/Object")) :: ws) ({ frames := 0, cells := 0, slots := 0, locals := 0 } : Room)) (fun a U => a = #[(.ref a0), (.ref a1)] ∧ Z.Warmed39 U.vm ∧ U.heap = h0) (fun _ _ _ _ _ => True) (fun _ U o U' => ∃ v L, o = .returned v ∧ Q4 Z a0 a1 h0 v U'.heap L ∧ FrameEnd U o U' L ({ frames := 0, cells := 0, slots := 0, locals := 0 } : Room).cells ({ frames := 0, cells := 0, slots := 0, locals := 0 } : Room).slots) := by
  refine MetFree.of_bodySF (plainFor_of_name pn_4) hisR ?_
  intro p e s m args below meth c s₁ Bd hml0 hP hK
  obtain ⟨rfl, hZ, hh⟩ := hP
  have hZ0 := hZ
  have hx := Bd.exec
  have hby := Bd.bytes
  have hml : c.maxLocals = 2 := hml0
  have hown : s.vm.findClass "java/util/Objects" = some m.cls := findClass_of_methodNamed Bd.named
  have hnm := (name_of_methodNamed Bd.named Bd.method).1
  have X0 : Stand p l e ({ frames := 0, cells := 0, slots := 0, locals := 0 } : Room) s m #[(.ref a0), (.ref a1)] below meth c s₁ [] 0 0 := Stand.of_body Bd
  have e0 : s₁.heap = h0 := by rw [← hh, Bd.state]; rfl
  have G0 : own_Go p.tables e below (s₁.setTop (entryFrame m #[(.ref a0), (.ref a1)] 2)) (s₁.setTop (mkF m 0 #[.val (.ref a0), .val (.ref a1)] [])) := fun t k => castTop (ef_4 m a0 a1) k
  have G1 : own_Go p.tables e below (s₁.setTop (entryFrame m #[(.ref a0), (.ref a1)] 2)) (s₁.setTop (mkF m 1 #[.val (.ref a0), .val (.ref a1)] [(.ref a0)])) := fun t k => G0 t (XS.aloadN X0.here hx rfl (hb hby d4_0) rfl rfl k)
  have G2 : own_Go p.tables e below (s₁.setTop (entryFrame m #[(.ref a0), (.ref a1)] 2)) (s₁.setTop (mkF m 13 #[.val (.ref a0), .val (.ref a1)] [])) := fun t k => G1 t (XS.ifnonnullYes X0.here hx rfl (pc0 := 1) (pc' := 13) rfl (hb hby d4_1) rfl (by decide) (by decide) k)
  have G3 : own_Go p.tables e below (s₁.setTop (entryFrame m #[(.ref a0), (.ref a1)] 2)) (s₁.setTop (mkF m 14 #[.val (.ref a0), .val (.ref a1)] [(.ref a0)])) := fun t k => G2 t (XS.aloadN X0.here hx rfl (hb hby d4_13) rfl rfl k)
  obtain ⟨fs, hr, hrun, hended, hW, hsame⟩ := X0.leave (v := some (.ref a0)) (fun h => by rw [Bd.returns] at h; cases h)
  refine ⟨_, _, G3 _ ?_, hrun, hended, _, _, rfl, ?_, ⟨_, rfl⟩, hW, hsame.mono (by decide) (by decide)⟩
  · exact own_retA X0 hx Bd.returns rfl rfl (hb hby d4_14) hr
  · show Q4 Z a0 a1 h0 _ s₁.heap _
    rw [e0]
    exact ⟨rfl, rfl, rfl⟩
theorem d5_0 : decode jdk_31_method_10_code 0 = .ok (.aload_n 0, 1) := by decide +kernel
theorem d5_1 : decode jdk_31_method_10_code 1 = .ok (.ifnonnull 11, 3) := by decide +kernel
theorem d5_12 : decode jdk_31_method_10_code 12 = .ok (.aload_n 0, 1) := by decide +kernel
theorem d5_13 : decode jdk_31_method_10_code 13 = .ok (.areturn, 1) := by decide +kernel
theorem pn_5 : plainName "java/util/Objects" = true := by first | (simp [plainName, overriddenIn]; done) | decide +kernel
theorem ef_5 (m : MethodId) (a0 : Addr) : entryFrame m #[(.ref a0)] 1 = mkF m 0 #[.val (.ref a0)] [] := by first | (simp [entryFrame, mkF, argsToLocals, Value.category]; done) | rfl
def Q5 (Z : State) (a0 : Addr)  (h0 : Heap) (v : Option Value) (h : Heap) (L : List Loc) : Prop := v = some (.ref a0) ∧ L = [] ∧ h = h0
set_option maxRecDepth 65536 in
set_option maxHeartbeats 40000000 in
theorem rm5 (l : Launch) (Z : State) (aw : Array Value) (hw : ∀ d ∈ tables_1, d.before aw Z = true) (ws : List Jvm.Cond) (a0 : Addr)  (h0 : Heap)  :
    MetFree l (⟨"java/util/Objects", "requireNonNull", "(Ljava/lang/Object;)Ljava/lang/Object;"⟩ : MethodName) (head1 (Jvm.Cond.code (⟨"java/util/Objects", "requireNonNull", "(Ljava/lang/Object;)Ljava/lang/Object;"⟩ : MethodName) jdk_31_method_10_code 1 (some (.object "java/lang/Object")) :: ws) ({ frames := 0, cells := 0, slots := 0, locals := 0 } : Room)) (fun a U => a = #[(.ref a0)] ∧ Z.Warmed39 U.vm ∧ U.heap = h0) (fun _ _ _ _ _ => True) (fun _ U o U' => ∃ v L, o = .returned v ∧ Q5 Z a0 h0 v U'.heap L ∧ FrameEnd U o U' L ({ frames := 0, cells := 0, slots := 0, locals := 0 } : Room).cells ({ frames := 0, cells := 0, slots := 0, locals := 0 } : Room).slots) := by
  refine MetFree.of_bodySF (plainFor_of_name pn_5) hisR ?_
  intro p e s m args below meth c s₁ Bd hml0 hP hK
  obtain ⟨rfl, hZ, hh⟩ := hP
  have hZ0 := hZ
  have hx := Bd.exec
  have hby := Bd.bytes
  have hml : c.maxLocals = 1 := hml0
  have hown : s.vm.findClass "java/util/Objects" = some m.cls := findClass_of_methodNamed Bd.named
  have hnm := (name_of_methodNamed Bd.named Bd.method).1
  have X0 : Stand p l e ({ frames := 0, cells := 0, slots := 0, locals := 0 } : Room) s m #[(.ref a0)] below meth c s₁ [] 0 0 := Stand.of_body Bd
  have e0 : s₁.heap = h0 := by rw [← hh, Bd.state]; rfl
  have G0 : own_Go p.tables e below (s₁.setTop (entryFrame m #[(.ref a0)] 1)) (s₁.setTop (mkF m 0 #[.val (.ref a0)] [])) := fun t k => castTop (ef_5 m a0) k
  have G1 : own_Go p.tables e below (s₁.setTop (entryFrame m #[(.ref a0)] 1)) (s₁.setTop (mkF m 1 #[.val (.ref a0)] [(.ref a0)])) := fun t k => G0 t (XS.aloadN X0.here hx rfl (hb hby d5_0) rfl rfl k)
  have G2 : own_Go p.tables e below (s₁.setTop (entryFrame m #[(.ref a0)] 1)) (s₁.setTop (mkF m 12 #[.val (.ref a0)] [])) := fun t k => G1 t (XS.ifnonnullYes X0.here hx rfl (pc0 := 1) (pc' := 12) rfl (hb hby d5_1) rfl (by decide) (by decide) k)
  have G3 : own_Go p.tables e below (s₁.setTop (entryFrame m #[(.ref a0)] 1)) (s₁.setTop (mkF m 13 #[.val (.ref a0)] [(.ref a0)])) := fun t k => G2 t (XS.aloadN X0.here hx rfl (hb hby d5_12) rfl rfl k)
  obtain ⟨fs, hr, hrun, hended, hW, hsame⟩ := X0.leave (v := some (.ref a0)) (fun h => by rw [Bd.returns] at h; cases h)
  refine ⟨_, _, G3 _ ?_, hrun, hended, _, _, rfl, ?_, ⟨_, rfl⟩, hW, hsame.mono (by decide) (by decide)⟩
  · exact own_retA X0 hx Bd.returns rfl rfl (hb hby d5_13) hr
  · show Q5 Z a0 h0 _ s₁.heap _
    rw [e0]
    exact ⟨rfl, rfl, rfl⟩
theorem d6_0 : decode jdk_32_method_6_code 0 = .ok (.aload_n 0, 1) := by decide +kernel
theorem d6_1 : decode jdk_32_method_6_code 1 = .ok (.getfield 13, 3) := by decide +kernel
theorem d6_4 : decode jdk_32_method_6_code 4 = .ok (.ifnull 7, 3) := by decide +kernel
theorem d6_11 : decode jdk_32_method_6_code 11 = .ok (.iconst 0, 1) := by decide +kernel
theorem d6_12 : decode jdk_32_method_6_code 12 = .ok (.ireturn, 1) := by decide +kernel
theorem pn_6 : plainName "java/util/Optional" = true := by first | (simp [plainName, overriddenIn]; done) | decide +kernel
theorem ef_6 (m : MethodId) (a0 : Addr) : entryFrame m #[(.ref a0)] 1 = mkF m 0 #[.val (.ref a0)] [] := by first | (simp [entryFrame, mkF, argsToLocals, Value.category]; done) | rfl
def Q6 (Z : State) (a0 : Addr)  (h0 : Heap) (v : Option Value) (h : Heap) (L : List Loc) : Prop := v = some (.int 0) ∧ L = [] ∧ h = h0
set_option maxRecDepth 65536 in
set_option maxHeartbeats 40000000 in
theorem rm6 (l : Launch) (Z : State) (aw : Array Value) (hw : ∀ d ∈ tables_1, d.before aw Z = true) (ws : List Jvm.Cond) (a0 : Addr)  (h0 : Heap) (F_v : Fld Z h0 a0 "java/util/Optional" "value" "Ljava/lang/Object;" .null) :
    MetFree l (⟨"java/util/Optional", "isPresent", "()Z"⟩ : MethodName) (head1 (Jvm.Cond.code (⟨"java/util/Optional", "isPresent", "()Z"⟩ : MethodName) jdk_32_method_6_code 1 (some .boolean) :: ws) ({ frames := 0, cells := 0, slots := 0, locals := 0 } : Room)) (fun a U => a = #[(.ref a0)] ∧ Z.Warmed39 U.vm ∧ U.heap = h0) (fun _ _ _ _ _ => True) (fun _ U o U' => ∃ v L, o = .returned v ∧ Q6 Z a0 h0 v U'.heap L ∧ FrameEnd U o U' L ({ frames := 0, cells := 0, slots := 0, locals := 0 } : Room).cells ({ frames := 0, cells := 0, slots := 0, locals := 0 } : Room).slots) := by
  refine MetFree.of_bodySF (plainFor_of_name pn_6) hisR ?_
  intro p e s m args below meth c s₁ Bd hml0 hP hK
  obtain ⟨rfl, hZ, hh⟩ := hP
  have hZ0 := hZ
  have hx := Bd.exec
  have hby := Bd.bytes
  have hml : c.maxLocals = 1 := hml0
  have hown : s.vm.findClass "java/util/Optional" = some m.cls := findClass_of_methodNamed Bd.named
  have hnm := (name_of_methodNamed Bd.named Bd.method).1
  have X0 : Stand p l e ({ frames := 0, cells := 0, slots := 0, locals := 0 } : Room) s m #[(.ref a0)] below meth c s₁ [] 0 0 := Stand.of_body Bd
  have e0 : s₁.heap = h0 := by rw [← hh, Bd.state]; rfl
  have G0 : own_Go p.tables e below (s₁.setTop (entryFrame m #[(.ref a0)] 1)) (s₁.setTop (mkF m 0 #[.val (.ref a0)] [])) := fun t k => castTop (ef_6 m a0) k
  have G1 : own_Go p.tables e below (s₁.setTop (entryFrame m #[(.ref a0)] 1)) (s₁.setTop (mkF m 1 #[.val (.ref a0)] [(.ref a0)])) := fun t k => G0 t (XS.aloadN X0.here hx rfl (hb hby d6_0) rfl rfl k)
  obtain ⟨T2, X2, e2, st2⟩ := getF X0 hx hZ hown (host := "") (Or.inl (hw _ (List.mem_of_getElem? (i := 48) rfl))) Via.refl e0 F_v (g := (mkF m 1 #[.val (.ref a0)] [(.ref a0)])) rfl rfl (hb hby d6_1)
  have G2 : own_Go p.tables e below (s₁.setTop (entryFrame m #[(.ref a0)] 1)) (T2.setTop (mkF m 4 #[.val (.ref a0)] [.null])) := fun t k => G1 t (st2 t k)
  have G3 : own_Go p.tables e below (s₁.setTop (entryFrame m #[(.ref a0)] 1)) (T2.setTop (mkF m 11 #[.val (.ref a0)] [])) := fun t k => G2 t (XS.ifnullYes X2.here hx rfl (pc0 := 4) (pc' := 11) rfl (hb hby d6_4) rfl (by decide) (by decide) k)
  have G4 : own_Go p.tables e below (s₁.setTop (entryFrame m #[(.ref a0)] 1)) (T2.setTop (mkF m 12 #[.val (.ref a0)] [(.int (0 : Int32))])) := fun t k => G3 t (XT.iconstV X2.here hx rfl (0 : Int32) (hb hby d6_11) (by decide) k)
  obtain ⟨fs, hr, hrun, hended, hW, hsame⟩ := X2.leave (v := some (.int (nar .boolean (0 : Int32)))) (fun h => by rw [Bd.returns] at h; cases h)
  refine ⟨_, _, G4 _ ?_, hrun, hended, _, _, rfl, ?_, ⟨_, rfl⟩, hW, hsame.mono (by decide) (by decide)⟩
  · exact retN X2 hx (t := .boolean) Bd.returns (by simp) (hb hby d6_12) hr
  · show Q6 Z a0 h0 _ T2.heap _
    rw [e2]
    exact ⟨rfl, rfl, rfl⟩
theorem d7_0 : decode jdk_32_method_7_code 0 = .ok (.aload_n 0, 1) := by decide +kernel
theorem d7_1 : decode jdk_32_method_7_code 1 = .ok (.getfield 13, 3) := by decide +kernel
theorem d7_4 : decode jdk_32_method_7_code 4 = .ok (.ifnonnull 7, 3) := by decide +kernel
theorem d7_7 : decode jdk_32_method_7_code 7 = .ok (.iconst 1, 1) := by decide +kernel
theorem d7_8 : decode jdk_32_method_7_code 8 = .ok (.goto 4, 3) := by decide +kernel
theorem d7_12 : decode jdk_32_method_7_code 12 = .ok (.ireturn, 1) := by decide +kernel
theorem pn_7 : plainName "java/util/Optional" = true := by first | (simp [plainName, overriddenIn]; done) | decide +kernel
theorem ef_7 (m : MethodId) (a0 : Addr) : entryFrame m #[(.ref a0)] 1 = mkF m 0 #[.val (.ref a0)] [] := by first | (simp [entryFrame, mkF, argsToLocals, Value.category]; done) | rfl
def Q7 (Z : State) (a0 : Addr)  (h0 : Heap) (v : Option Value) (h : Heap) (L : List Loc) : Prop := v = some (.int 1) ∧ L = [] ∧ h = h0
set_option maxRecDepth 65536 in
set_option maxHeartbeats 40000000 in
theorem rm7 (l : Launch) (Z : State) (aw : Array Value) (hw : ∀ d ∈ tables_1, d.before aw Z = true) (ws : List Jvm.Cond) (a0 : Addr)  (h0 : Heap) (F_v : Fld Z h0 a0 "java/util/Optional" "value" "Ljava/lang/Object;" .null) :
    MetFree l (⟨"java/util/Optional", "isEmpty", "()Z"⟩ : MethodName) (head1 (Jvm.Cond.code (⟨"java/util/Optional", "isEmpty", "()Z"⟩ : MethodName) jdk_32_method_7_code 1 (some .boolean) :: ws) ({ frames := 0, cells := 0, slots := 0, locals := 0 } : Room)) (fun a U => a = #[(.ref a0)] ∧ Z.Warmed39 U.vm ∧ U.heap = h0) (fun _ _ _ _ _ => True) (fun _ U o U' => ∃ v L, o = .returned v ∧ Q7 Z a0 h0 v U'.heap L ∧ FrameEnd U o U' L ({ frames := 0, cells := 0, slots := 0, locals := 0 } : Room).cells ({ frames := 0, cells := 0, slots := 0, locals := 0 } : Room).slots) := by
  refine MetFree.of_bodySF (plainFor_of_name pn_7) hisR ?_
  intro p e s m args below meth c s₁ Bd hml0 hP hK
  obtain ⟨rfl, hZ, hh⟩ := hP
  have hZ0 := hZ
  have hx := Bd.exec
  have hby := Bd.bytes
  have hml : c.maxLocals = 1 := hml0
  have hown : s.vm.findClass "java/util/Optional" = some m.cls := findClass_of_methodNamed Bd.named
  have hnm := (name_of_methodNamed Bd.named Bd.method).1
  have X0 : Stand p l e ({ frames := 0, cells := 0, slots := 0, locals := 0 } : Room) s m #[(.ref a0)] below meth c s₁ [] 0 0 := Stand.of_body Bd
  have e0 : s₁.heap = h0 := by rw [← hh, Bd.state]; rfl
  have G0 : own_Go p.tables e below (s₁.setTop (entryFrame m #[(.ref a0)] 1)) (s₁.setTop (mkF m 0 #[.val (.ref a0)] [])) := fun t k => castTop (ef_7 m a0) k
  have G1 : own_Go p.tables e below (s₁.setTop (entryFrame m #[(.ref a0)] 1)) (s₁.setTop (mkF m 1 #[.val (.ref a0)] [(.ref a0)])) := fun t k => G0 t (XS.aloadN X0.here hx rfl (hb hby d7_0) rfl rfl k)
  obtain ⟨T2, X2, e2, st2⟩ := getF X0 hx hZ hown (host := "") (Or.inl (hw _ (List.mem_of_getElem? (i := 48) rfl))) Via.refl e0 F_v (g := (mkF m 1 #[.val (.ref a0)] [(.ref a0)])) rfl rfl (hb hby d7_1)
  have G2 : own_Go p.tables e below (s₁.setTop (entryFrame m #[(.ref a0)] 1)) (T2.setTop (mkF m 4 #[.val (.ref a0)] [.null])) := fun t k => G1 t (st2 t k)
  have G3 : own_Go p.tables e below (s₁.setTop (entryFrame m #[(.ref a0)] 1)) (T2.setTop (mkF m 7 #[.val (.ref a0)] [])) := fun t k => G2 t (XS.ifnonnullNo X2.here hx rfl (hb hby d7_4) rfl k)
  have G4 : own_Go p.tables e below (s₁.setTop (entryFrame m #[(.ref a0)] 1)) (T2.setTop (mkF m 8 #[.val (.ref a0)] [(.int (1 : Int32))])) := fun t k => G3 t (XT.iconstV X2.here hx rfl (1 : Int32) (hb hby d7_7) (by decide) k)
  have G5 : own_Go p.tables e below (s₁.setTop (entryFrame m #[(.ref a0)] 1)) (T2.setTop (mkF m 12 #[.val (.ref a0)] [(.int (1 : Int32))])) := fun t k => G4 t (XS.goto X2.here hx rfl (pc0 := 8) (pc' := 12) rfl (hb hby d7_8) (by decide) (by decide) k)
  obtain ⟨fs, hr, hrun, hended, hW, hsame⟩ := X2.leave (v := some (.int (nar .boolean (1 : Int32)))) (fun h => by rw [Bd.returns] at h; cases h)
  refine ⟨_, _, G5 _ ?_, hrun, hended, _, _, rfl, ?_, ⟨_, rfl⟩, hW, hsame.mono (by decide) (by decide)⟩
  · exact retN X2 hx (t := .boolean) Bd.returns (by simp) (hb hby d7_12) hr
  · show Q7 Z a0 h0 _ T2.heap _
    rw [e2]
    exact ⟨rfl, rfl, rfl⟩
theorem d8_0 : decode jdk_32_method_10_code 0 = .ok (.aload_n 1, 1) := by decide +kernel
theorem d8_1 : decode jdk_32_method_10_code 1 = .ok (.invokestatic 17, 3) := by decide +kernel
theorem d8_4 : decode jdk_32_method_10_code 4 = .ok (.pop, 1) := by decide +kernel
theorem d8_5 : decode jdk_32_method_10_code 5 = .ok (.aload_n 0, 1) := by decide +kernel
theorem d8_6 : decode jdk_32_method_10_code 6 = .ok (.invokevirtual 43, 3) := by decide +kernel
theorem d8_9 : decode jdk_32_method_10_code 9 = .ok (.ifCond .eq 5, 3) := by decide +kernel
theorem d8_12 : decode jdk_32_method_10_code 12 = .ok (.aload_n 0, 1) := by decide +kernel
theorem d8_13 : decode jdk_32_method_10_code 13 = .ok (.areturn, 1) := by decide +kernel
theorem pn_8 : plainName "java/util/Optional" = true := by first | (simp [plainName, overriddenIn]; done) | decide +kernel
theorem pd_8_0 : parseMethodDescriptor "(Ljava/lang/Object;)Ljava/lang/Object;" = some ⟨[(.object "java/lang/Object")], some (.object "java/lang/Object")⟩ := by decide +kernel
theorem pd_8_1 : parseMethodDescriptor "()Z" = some ⟨[], some .boolean⟩ := by decide +kernel
theorem ef_8 (m : MethodId) (a0 : Addr) (a1 : Addr) : entryFrame m #[(.ref a0), (.ref a1)] 2 = mkF m 0 #[.val (.ref a0), .val (.ref a1)] [] := by first | (simp [entryFrame, mkF, argsToLocals, Value.category]; done) | rfl
def Q8 (Z : State) (a0 : Addr) (a1 : Addr)  (h0 : Heap) (v : Option Value) (h : Heap) (L : List Loc) : Prop := v = some (.ref a0) ∧ L = [] ∧ h = h0
set_option maxRecDepth 65536 in
set_option maxHeartbeats 40000000 in
theorem rm8 (l : Launch) (Z : State) (aw : Array Value) (hw : ∀ d ∈ tables_1, d.before aw Z = true) (ws : List Jvm.Cond) (a0 : Addr) (a1 : Addr)  (h0 : Heap) (E_v : Exa Z h0 a0 "java/util/Optional") (F_v : Fld Z h0 a0 "java/util/Optional" "value" "Ljava/lang/Object;" .null) :
    MetFree l (⟨"java/util/Optional", "filter", "(Ljava/util/function/Predicate;)Ljava/util/Optional;"⟩ : MethodName) (head1 (Jvm.Cond.code (⟨"java/util/Optional", "filter", "(Ljava/util/function/Predicate;)Ljava/util/Optional;"⟩ : MethodName) jdk_32_method_10_code 2 (some (.object "java/util/Optional")) :: ws) ({ frames := 1, cells := 0, slots := 0, locals := 12 } : Room)) (fun a U => a = #[(.ref a0), (.ref a1)] ∧ Z.Warmed39 U.vm ∧ U.heap = h0) (fun _ _ _ _ _ => True) (fun _ U o U' => ∃ v L, o = .returned v ∧ Q8 Z a0 a1 h0 v U'.heap L ∧ FrameEnd U o U' L ({ frames := 1, cells := 0, slots := 0, locals := 12 } : Room).cells ({ frames := 1, cells := 0, slots := 0, locals := 12 } : Room).slots) := by
  refine MetFree.of_bodySF (plainFor_of_name pn_8) hisR ?_
  intro p e s m args below meth c s₁ Bd hml0 hP hK
  obtain ⟨rfl, hZ, hh⟩ := hP
  have hZ0 := hZ
  have hx := Bd.exec
  have hby := Bd.bytes
  have hml : c.maxLocals = 2 := hml0
  have hown : s.vm.findClass "java/util/Optional" = some m.cls := findClass_of_methodNamed Bd.named
  have hnm := (name_of_methodNamed Bd.named Bd.method).1
  have X0 : Stand p l e ({ frames := 1, cells := 0, slots := 0, locals := 12 } : Room) s m #[(.ref a0), (.ref a1)] below meth c s₁ [] 0 0 := Stand.of_body Bd
  have e0 : s₁.heap = h0 := by rw [← hh, Bd.state]; rfl
  have G0 : own_Go p.tables e below (s₁.setTop (entryFrame m #[(.ref a0), (.ref a1)] 2)) (s₁.setTop (mkF m 0 #[.val (.ref a0), .val (.ref a1)] [])) := fun t k => castTop (ef_8 m a0 a1) k
  have G1 : own_Go p.tables e below (s₁.setTop (entryFrame m #[(.ref a0), (.ref a1)] 2)) (s₁.setTop (mkF m 1 #[.val (.ref a0), .val (.ref a1)] [(.ref a1)])) := fun t k => G0 t (XS.aloadN X0.here hx rfl (hb hby d8_0) rfl rfl k)
  obtain ⟨vv2, _, ⟨T2, L2, k2, n2⟩, -, X2, ⟨Lc2, hQ2, l2, y2, z2⟩, st2⟩ := Jvm.LawKit.callS X0 hx (y := (⟨"java/util/Objects", "requireNonNull", "(Ljava/lang/Object;)Ljava/lang/Object;"⟩ : MethodName)) hown (mvT hZ (hw _ (List.mem_of_getElem? (i := 40) rfl))) (mvT hZ (hw _ (List.mem_of_getElem? (i := 41) rfl))) (mvT hZ (hw _ (List.mem_of_getElem? (i := 30) rfl))) (mvT hZ (hw _ (List.mem_of_getElem? (i := 42) rfl))) (by decide) (backOf (W := 0) (rm5 l Z aw hw [] a1  h0 ) hZ (hw _ (List.mem_of_getElem? (i := 42) rfl)) (hw _ (List.mem_of_getElem? (i := 30) rfl)) (by decide) (by decide)) (g := (mkF m 1 #[.val (.ref a0), .val (.ref a1)] [(.ref a1)])) rfl (by rw [hml]; rfl) (argsL := [(.ref a1)]) (rest := []) (lenOf pd_8_0 rfl) rfl (by show 2 * 0 + _ ≤ _; exact Nat.le_of_eq rfl) (hb hby d8_1) (fun _ _ => ⟨rfl, e0, (by decide : 0 + 0 ≤ _), (by decide : 0 + 0 ≤ _)⟩)
  dsimp only [Pt.U, Pt.locs, Pt.cells, Pt.slots] at X2 l2 y2 z2 st2 hQ2
  subst l2 y2 z2
  obtain ⟨rfl, rfl, e2⟩ := hQ2
  have Y2 : Stand p l e ({ frames := 1, cells := 0, slots := 0, locals := 12 } : Room) s m #[(.ref a0), (.ref a1)] below meth c T2 [] 0 0 := X2
  have G2 : own_Go p.tables e below (s₁.setTop (entryFrame m #[(.ref a0), (.ref a1)] 2)) (T2.setTop (mkF m 4 #[.val (.ref a0), .val (.ref a1)] [(.ref a1)])) := fun t k => G1 t (st2 t k)
  have G3 : own_Go p.tables e below (s₁.setTop (entryFrame m #[(.ref a0), (.ref a1)] 2)) (T2.setTop (mkF m 5 #[.val (.ref a0), .val (.ref a1)] [])) := fun t k => G2 t (XS.pop Y2.here hx rfl (hb hby d8_4) rfl rfl k)
  have G4 : own_Go p.tables e below (s₁.setTop (entryFrame m #[(.ref a0), (.ref a1)] 2)) (T2.setTop (mkF m 6 #[.val (.ref a0), .val (.ref a1)] [(.ref a0)])) := fun t k => G3 t (XS.aloadN Y2.here hx rfl (hb hby d8_5) rfl rfl k)
  obtain ⟨cq5, kq5, q5a, q5b, q5c⟩ := isOf hZ e2 E_v
  obtain ⟨vv5, _, ⟨T5, L5, k5, n5⟩, -, X5, ⟨Lc5, hQ5, l5, y5, z5⟩, st5⟩ := Y2.virtualBack hx (y := (⟨"java/util/Optional", "isEmpty", "()Z"⟩ : MethodName)) (z := (⟨"java/util/Optional", "isEmpty", "()Z"⟩ : MethodName)) hown (mvT hZ (hw _ (List.mem_of_getElem? (i := 43) rfl))) (mvT hZ (hw _ (List.mem_of_getElem? (i := 44) rfl))) (notFace_of_selects (args := #[]) (mvT hZ (hw _ (List.mem_of_getElem? (i := 46) rfl)))) (mvT hZ (hw _ (List.mem_of_getElem? (i := 46) rfl))) (mvT hZ (hw _ (List.mem_of_getElem? (i := 45) rfl))) (by decide) (backOf (W := 0) (rm7 l Z aw hw [] a0  h0 F_v) hZ (hw _ (List.mem_of_getElem? (i := 47) rfl)) (hw _ (List.mem_of_getElem? (i := 6) rfl)) (by decide) (by decide)) q5a q5c (g := (mkF m 6 #[.val (.ref a0), .val (.ref a1)] [(.ref a0)])) rfl (by rw [hml]; rfl) (Steps.refl _) (argsL := []) (rest := []) (lenOf pd_8_1 rfl) rfl (by show 2 * 0 + _ ≤ _; exact Nat.le_of_eq rfl) (hb hby d8_6) (fun _ _ => ⟨rfl, e2, (by decide : 0 + 0 ≤ _), (by decide : 0 + 0 ≤ _)⟩)
  dsimp only [Pt.U, Pt.locs, Pt.cells, Pt.slots] at X5 l5 y5 z5 st5 hQ5
  subst l5 y5 z5
  obtain ⟨rfl, rfl, e5⟩ := hQ5
  have Y5 : Stand p l e ({ frames := 1, cells := 0, slots := 0, locals := 12 } : Room) s m #[(.ref a0), (.ref a1)] below meth c T5 [] 0 0 := X5
  have G5 : own_Go p.tables e below (s₁.setTop (entryFrame m #[(.ref a0), (.ref a1)] 2)) (T5.setTop (mkF m 9 #[.val (.ref a0), .val (.ref a1)] [(.int (1 : Int32))])) := fun t k => G4 t (st5.trans k)
  have hk6 : ¬ ((1 : Int32) = (0 : Int32)) := by decide
  have G7 : own_Go p.tables e below (s₁.setTop (entryFrame m #[(.ref a0), (.ref a1)] 2)) (T5.setTop (mkF m 12 #[.val (.ref a0), .val (.ref a1)] [])) := fun t k => G5 t (XS.ifNo Y5.here hx rfl (hb hby d8_9) rfl ((if0 _ _).trans (feq hk6).1) k)
  have G8 : own_Go p.tables e below (s₁.setTop (entryFrame m #[(.ref a0), (.ref a1)] 2)) (T5.setTop (mkF m 13 #[.val (.ref a0), .val (.ref a1)] [(.ref a0)])) := fun t k => G7 t (XS.aloadN Y5.here hx rfl (hb hby d8_12) rfl rfl k)
  obtain ⟨fs, hr, hrun, hended, hW, hsame⟩ := Y5.leave (v := some (.ref a0)) (fun h => by rw [Bd.returns] at h; cases h)
  refine ⟨_, _, G8 _ ?_, hrun, hended, _, _, rfl, ?_, ⟨_, rfl⟩, hW, hsame.mono (by decide) (by decide)⟩
  · exact own_retA Y5 hx Bd.returns rfl rfl (hb hby d8_13) hr
  · show Q8 Z a0 a1 h0 _ T5.heap _
    rw [e5]
    exact ⟨rfl, rfl, rfl⟩
theorem d9_0 : decode prog_2_method_1_code 0 = .ok (.aload_n 0, 1) := by decide +kernel
theorem d9_1 : decode prog_2_method_1_code 1 = .ok (.invokespecial 1, 3) := by decide +kernel
theorem d9_4 : decode prog_2_method_1_code 4 = .ok (.aload_n 2, 1) := by decide +kernel
theorem d9_5 : decode prog_2_method_1_code 5 = .ok (.ldc 7, 2) := by decide +kernel
theorem d9_7 : decode prog_2_method_1_code 7 = .ok (.invokestatic 9, 3) := by decide +kernel
theorem d9_10 : decode prog_2_method_1_code 10 = .ok (.pop, 1) := by decide +kernel
theorem d9_11 : decode prog_2_method_1_code 11 = .ok (.iload_n 1, 1) := by decide +kernel
theorem d9_12 : decode prog_2_method_1_code 12 = .ok (.ifCond .ge 17, 3) := by decide +kernel
theorem d9_29 : decode prog_2_method_1_code 29 = .ok (.iload_n 1, 1) := by decide +kernel
theorem d9_30 : decode prog_2_method_1_code 30 = .ok (.ifCond .le 20, 3) := by decide +kernel
theorem d9_33 : decode prog_2_method_1_code 33 = .ok (.aload_n 2, 1) := by decide +kernel
theorem d9_34 : decode prog_2_method_1_code 34 = .ok (.invokevirtual 24, 3) := by decide +kernel
theorem d9_37 : decode prog_2_method_1_code 37 = .ok (.ifCond .eq 13, 3) := by decide +kernel
theorem d9_50 : decode prog_2_method_1_code 50 = .ok (.aload_n 2, 1) := by decide +kernel
theorem d9_51 : decode prog_2_method_1_code 51 = .ok (.invokedynamic 32, 5) := by decide +kernel
theorem d9_56 : decode prog_2_method_1_code 56 = .ok (.invokevirtual 36, 3) := by decide +kernel
theorem d9_59 : decode prog_2_method_1_code 59 = .ok (.invokevirtual 24, 3) := by decide +kernel
theorem d9_62 : decode prog_2_method_1_code 62 = .ok (.ifCond .eq 20, 3) := by decide +kernel
theorem d9_82 : decode prog_2_method_1_code 82 = .ok (.aload_n 0, 1) := by decide +kernel
theorem d9_83 : decode prog_2_method_1_code 83 = .ok (.iload_n 1, 1) := by decide +kernel
theorem d9_84 : decode prog_2_method_1_code 84 = .ok (.putfield 49, 3) := by decide +kernel
theorem d9_87 : decode prog_2_method_1_code 87 = .ok (.aload_n 0, 1) := by decide +kernel
theorem d9_88 : decode prog_2_method_1_code 88 = .ok (.aload_n 2, 1) := by decide +kernel
theorem d9_89 : decode prog_2_method_1_code 89 = .ok (.putfield 55, 3) := by decide +kernel
theorem d9_92 : decode prog_2_method_1_code 92 = .ok (.return_, 1) := by decide +kernel
theorem pn_9 : plainName "com/example/koord/koord/model/Attempt" = true := by first | (simp [plainName, overriddenIn]; done) | decide +kernel
theorem pd_9_2 : parseMethodDescriptor "()V" = some ⟨[], none⟩ := by decide +kernel
theorem pd_9_3 : parseMethodDescriptor "(Ljava/lang/Object;Ljava/lang/String;)Ljava/lang/Object;" = some ⟨[(.object "java/lang/Object"), (.object "java/lang/String")], some (.object "java/lang/Object")⟩ := by decide +kernel
theorem pd_9_1 : parseMethodDescriptor "()Z" = some ⟨[], some .boolean⟩ := by decide +kernel
theorem pd_9_4 : parseMethodDescriptor "(Ljava/util/function/Predicate;)Ljava/util/Optional;" = some ⟨[(.object "java/util/function/Predicate")], some (.object "java/util/Optional")⟩ := by decide +kernel
theorem ef_9 (m : MethodId) (a0 : Addr) (p1 : Int32) (aO : Addr) : entryFrame m #[(.ref a0), (.int p1), (.ref aO)] 3 = mkF m 0 #[.val (.ref a0), .val (.int p1), .val (.ref aO)] [] := by first | (simp [entryFrame, mkF, argsToLocals, Value.category]; done) | rfl
def Q9 (Z : State) (a0 : Addr) (p1 : Int32) (aO : Addr)  (h0 : Heap) (v : Option Value) (h : Heap) (L : List Loc) : Prop := v = none ∧ Fr Z.heap.size L ∧ Keep h0 h [a0] ∧ (Exa Z h a0 "com/example/koord/koord/model/Attempt") ∧ (Fld Z h a0 "com/example/koord/koord/model/Attempt" "holds" "I" (.int p1))
set_option maxRecDepth 65536 in
set_option maxHeartbeats 40000000 in
theorem rm9 (l : Launch) (Z : State) (aw : Array Value) (hw : ∀ d ∈ tables_1, d.before aw Z = true) (ws : List Jvm.Cond) (a0 : Addr) (p1 : Int32) (aO : Addr)  (h0 : Heap) (O0 : Old Z Z.heap.size h0) (gn_a0 : Z.heap.size ≤ a0) (E_a0 : Exa Z h0 a0 "com/example/koord/koord/model/Attempt") (F_h : Fld Z h0 a0 "com/example/koord/koord/model/Attempt" "holds" "I" (.int (0 : Int32))) (F_l : Fld Z h0 a0 "com/example/koord/koord/model/Attempt" "leaseLeft" "Ljava/util/Optional;" .null) (S_O : Sta Z Z.heap "java/util/Optional" "EMPTY" "Ljava/util/Optional;" (.ref aO)) (E_O : Exa Z Z.heap aO "java/util/Optional") (F_O : Fld Z Z.heap aO "java/util/Optional" "value" "Ljava/lang/Object;" .null) (hge : ¬ p1 < (0 : Int32)) :
    MetFree l (⟨"com/example/koord/koord/model/Attempt", "<init>", "(ILjava/util/Optional;)V"⟩ : MethodName) (head1 (Jvm.Cond.code (⟨"com/example/koord/koord/model/Attempt", "<init>", "(ILjava/util/Optional;)V"⟩ : MethodName) prog_2_method_1_code 3 none :: ws) ({ frames := 2, cells := 2, slots := 40, locals := 3073 } : Room)) (fun a U => a = #[(.ref a0), (.int p1), (.ref aO)] ∧ Z.Warmed39 U.vm ∧ U.heap = h0) (fun _ _ _ _ _ => True) (fun _ U o U' => ∃ v L, o = .returned v ∧ Q9 Z a0 p1 aO h0 v U'.heap L ∧ ReturnedEndW U o U' L ({ frames := 2, cells := 2, slots := 40, locals := 3073 } : Room).cells ({ frames := 2, cells := 2, slots := 40, locals := 3073 } : Room).slots) := by
  refine MetFree.of_bodySF (plainFor_of_name pn_9) hisR ?_
  intro p e s m args below meth c s₁ Bd hml0 hP hK
  obtain ⟨rfl, hZ, hh⟩ := hP
  have hZ0 := hZ
  have hx := Bd.exec
  have hby := Bd.bytes
  have hml : c.maxLocals = 3 := hml0
  have hown : s.vm.findClass "com/example/koord/koord/model/Attempt" = some m.cls := findClass_of_methodNamed Bd.named
  have hnm := (name_of_methodNamed Bd.named Bd.method).1
  have X0 : Stand p l e ({ frames := 2, cells := 2, slots := 40, locals := 3073 } : Room) (s.setVm s.vm) m #[(.ref a0), (.int p1), (.ref aO)] below meth c s₁ [] 0 0 := Stand.of_body Bd
  have e0 : s₁.heap = h0 := by rw [← hh, Bd.state]; rfl
  have G0 : own_Go p.tables e below (s₁.setTop (entryFrame m #[(.ref a0), (.int p1), (.ref aO)] 3)) (s₁.setTop (mkF m 0 #[.val (.ref a0), .val (.int p1), .val (.ref aO)] [])) := fun t k => castTop (ef_9 m a0 p1 aO) k
  have N0 := Fr.nil Z.heap.size
  have K0 := Keep.refl h0 [a0]
  have hS := State.WarmedH.since (State.WarmedH.refl s) 0
  have hk : 0 ≤ h0.size := Nat.zero_le _
  have G1 : own_Go p.tables e below (s₁.setTop (entryFrame m #[(.ref a0), (.int p1), (.ref aO)] 3)) (s₁.setTop (mkF m 1 #[.val (.ref a0), .val (.int p1), .val (.ref aO)] [(.ref a0)])) := fun t k => G0 t (XS.aloadN X0.here hx rfl (hb hby d9_0) rfl rfl k)
  obtain ⟨vv2, _, ⟨T2, L2, k2, n2⟩, -, X2, ⟨Lc2, hQ2, l2, y2, z2⟩, st2⟩ := X0.specialBack hx (y := (⟨"java/lang/Record", "<init>", "()V"⟩ : MethodName)) rfl hown (mvT hZ (hw _ (List.mem_of_getElem? (i := 12) rfl))) (mvT hZ (hw _ (List.mem_of_getElem? (i := 13) rfl))) (mvT hZ (hw _ (List.mem_of_getElem? (i := 16) rfl))) (by decide) (backOf (W := 0) (rm3 l Z aw hw [] a0  h0 O0   ) hZ (hw _ (List.mem_of_getElem? (i := 16) rfl)) (hw _ (List.mem_of_getElem? (i := 15) rfl)) (by decide) (by decide)) (g := (mkF m 1 #[.val (.ref a0), .val (.int p1), .val (.ref aO)] [(.ref a0)])) rfl (by rw [hml]; rfl) (Steps.refl _) (a := a0) (argsL := []) (rest := []) (lenOf pd_9_2 rfl) rfl (by show 2 * 0 + _ ≤ _; exact Nat.le_of_eq rfl) (hb hby d9_1) (fun _ _ => ⟨rfl, e0, (by decide : 0 + 0 ≤ _), (by decide : 0 + 0 ≤ _)⟩)
  dsimp only [Pt.U, Pt.locs, Pt.cells, Pt.slots] at X2 l2 y2 z2 st2 hQ2
  subst l2 y2 z2
  obtain ⟨rfl, Nq2, Kq2⟩ := hQ2
  have N2 := Fr.app N0 Nq2
  have O2 := O0.keep Kq2 all0
  have K2 := K0.trans Kq2 all0
  have hk := Nat.le_trans hk Kq2.1
  have G2 : own_Go p.tables e below (s₁.setTop (entryFrame m #[(.ref a0), (.int p1), (.ref aO)] 3)) (T2.setTop (mkF m 4 #[.val (.ref a0), .val (.int p1), .val (.ref aO)] [])) := fun t k => G1 t (st2.trans k)
  have G3 : own_Go p.tables e below (s₁.setTop (entryFrame m #[(.ref a0), (.int p1), (.ref aO)] 3)) (T2.setTop (mkF m 5 #[.val (.ref a0), .val (.int p1), .val (.ref aO)] [(.ref aO)])) := fun t k => G2 t (XS.aloadN X2.here hx rfl (hb hby d9_4) rfl rfl k)
  obtain ⟨u4, T4, h4, k4, X4, e4, E4, hS, hk4, hZ, hown, st4⟩ := ldcS X2 hx hZ hown (hw _ (List.mem_of_getElem? (i := 20) rfl)) (own_wS hw) rfl hS hk (g := (mkF m 5 #[.val (.ref a0), .val (.int p1), .val (.ref aO)] [(.ref aO)])) rfl (hb hby d9_5) (n := 36) (by decide) (by decide) (by decide) (by decide)
  have O4 := O2.ext E4
  have K4 := K2.ext E4
  have hk := hk4
  have G4 : own_Go p.tables e below (s₁.setTop (entryFrame m #[(.ref a0), (.int p1), (.ref aO)] 3)) (T4.setTop (mkF m 7 #[.val (.ref a0), .val (.int p1), .val (.ref aO)] [(.ref u4), (.ref aO)])) := fun t k => G3 t (st4 t k)
  obtain ⟨vv5, _, ⟨T5, L5, k5, n5⟩, -, X5, ⟨Lc5, hQ5, l5, y5, z5⟩, st5⟩ := Jvm.LawKit.callS X4 hx (y := (⟨"java/util/Objects", "requireNonNull", "(Ljava/lang/Object;Ljava/lang/String;)Ljava/lang/Object;"⟩ : MethodName)) hown (mvT hZ (hw _ (List.mem_of_getElem? (i := 28) rfl))) (mvT hZ (hw _ (List.mem_of_getElem? (i := 29) rfl))) (mvT hZ (hw _ (List.mem_of_getElem? (i := 30) rfl))) (mvT hZ (hw _ (List.mem_of_getElem? (i := 31) rfl))) (by decide) (backOf (W := 0) (rm4 l Z aw hw [] aO u4  h4 ) hZ (hw _ (List.mem_of_getElem? (i := 31) rfl)) (hw _ (List.mem_of_getElem? (i := 30) rfl)) (by decide) (by decide)) (g := (mkF m 7 #[.val (.ref a0), .val (.int p1), .val (.ref aO)] [(.ref u4), (.ref aO)])) rfl (by rw [hml]; rfl) (argsL := [(.ref aO), (.ref u4)]) (rest := []) (lenOf pd_9_3 rfl) rfl (by show 2 * 0 + _ ≤ _; exact Nat.le_of_eq rfl) (hb hby d9_7) (fun _ _ => ⟨rfl, e4, (by decide : 2 + 0 ≤ _), (by decide : 40 + 0 ≤ _)⟩)
  dsimp only [Pt.U, Pt.locs, Pt.cells, Pt.slots] at X5 l5 y5 z5 st5 hQ5
  subst l5 y5 z5
  obtain ⟨rfl, rfl, e5⟩ := hQ5
  try rw [List.append_nil] at X5
  have G5 : own_Go p.tables e below (s₁.setTop (entryFrame m #[(.ref a0), (.int p1), (.ref aO)] 3)) (T5.setTop (mkF m 10 #[.val (.ref a0), .val (.int p1), .val (.ref aO)] [(.ref aO)])) := fun t k => G4 t (st5 t k)
  have G6 : own_Go p.tables e below (s₁.setTop (entryFrame m #[(.ref a0), (.int p1), (.ref aO)] 3)) (T5.setTop (mkF m 11 #[.val (.ref a0), .val (.int p1), .val (.ref aO)] [])) := fun t k => G5 t (XS.pop X5.here hx rfl (hb hby d9_10) rfl rfl k)
  have G7 : own_Go p.tables e below (s₁.setTop (entryFrame m #[(.ref a0), (.int p1), (.ref aO)] 3)) (T5.setTop (mkF m 12 #[.val (.ref a0), .val (.int p1), .val (.ref aO)] [(.int p1)])) := fun t k => G6 t (XS.iloadN X5.here hx rfl (hb hby d9_11) rfl k)
  have hk8 : ¬ (p1 < (0 : Int32)) := hge
  have G9 : own_Go p.tables e below (s₁.setTop (entryFrame m #[(.ref a0), (.int p1), (.ref aO)] 3)) (T5.setTop (mkF m 29 #[.val (.ref a0), .val (.int p1), .val (.ref aO)] [])) := fun t k => G7 t (XS.ifYes X5.here hx rfl (pc0 := 12) (pc' := 29) rfl (hb hby d9_12) rfl ((if0 _ _).trans (flt hk8).2.1) (by decide) (by decide) k)
  have G10 : own_Go p.tables e below (s₁.setTop (entryFrame m #[(.ref a0), (.int p1), (.ref aO)] 3)) (T5.setTop (mkF m 30 #[.val (.ref a0), .val (.int p1), .val (.ref aO)] [(.int p1)])) := fun t k => G9 t (XS.iloadN X5.here hx rfl (hb hby d9_29) rfl k)
  by_cases hc11 : (0 : Int32) < p1
  · have G12 : own_Go p.tables e below (s₁.setTop (entryFrame m #[(.ref a0), (.int p1), (.ref aO)] 3)) (T5.setTop (mkF m 33 #[.val (.ref a0), .val (.int p1), .val (.ref aO)] [])) := fun t k => G10 t (XS.ifNo X5.here hx rfl (hb hby d9_30) rfl ((if0 _ _).trans (tlt hc11).2.2.2) k)
    have G13 : own_Go p.tables e below (s₁.setTop (entryFrame m #[(.ref a0), (.int p1), (.ref aO)] 3)) (T5.setTop (mkF m 34 #[.val (.ref a0), .val (.int p1), .val (.ref aO)] [(.ref aO)])) := fun t k => G12 t (XS.aloadN X5.here hx rfl (hb hby d9_33) rfl rfl k)
    obtain ⟨cq14, kq14, q14a, q14b, q14c⟩ := isOf hZ e5 (E_O.ext O4.2)
    obtain ⟨vv14, _, ⟨T14, L14, k14, n14⟩, -, X14, ⟨Lc14, hQ14, l14, y14, z14⟩, st14⟩ := X5.virtualBack hx (y := (⟨"java/util/Optional", "isPresent", "()Z"⟩ : MethodName)) (z := (⟨"java/util/Optional", "isPresent", "()Z"⟩ : MethodName)) hown (mvT hZ (hw _ (List.mem_of_getElem? (i := 50) rfl))) (mvT hZ (hw _ (List.mem_of_getElem? (i := 51) rfl))) (notFace_of_selects (args := #[]) (mvT hZ (hw _ (List.mem_of_getElem? (i := 53) rfl)))) (mvT hZ (hw _ (List.mem_of_getElem? (i := 53) rfl))) (mvT hZ (hw _ (List.mem_of_getElem? (i := 52) rfl))) (by decide) (backOf (W := 0) (rm6 l Z aw hw [] aO  h4 (F_O.ext O4.2)) hZ (hw _ (List.mem_of_getElem? (i := 54) rfl)) (hw _ (List.mem_of_getElem? (i := 6) rfl)) (by decide) (by decide)) q14a q14c (g := (mkF m 34 #[.val (.ref a0), .val (.int p1), .val (.ref aO)] [(.ref aO)])) rfl (by rw [hml]; rfl) (Steps.refl _) (argsL := []) (rest := []) (lenOf pd_9_1 rfl) rfl (by show 2 * 0 + _ ≤ _; exact Nat.le_of_eq rfl) (hb hby d9_34) (fun _ _ => ⟨rfl, e5, (by decide : 2 + 0 ≤ _), (by decide : 40 + 0 ≤ _)⟩)
    dsimp only [Pt.U, Pt.locs, Pt.cells, Pt.slots] at X14 l14 y14 z14 st14 hQ14
    subst l14 y14 z14
    obtain ⟨rfl, rfl, e14⟩ := hQ14
    try rw [List.append_nil] at X14
    have G14 : own_Go p.tables e below (s₁.setTop (entryFrame m #[(.ref a0), (.int p1), (.ref aO)] 3)) (T14.setTop (mkF m 37 #[.val (.ref a0), .val (.int p1), .val (.ref aO)] [(.int (0 : Int32))])) := fun t k => G13 t (st14.trans k)
    have hk15 : (0 : Int32) = (0 : Int32) := rfl
    have G16 : own_Go p.tables e below (s₁.setTop (entryFrame m #[(.ref a0), (.int p1), (.ref aO)] 3)) (T14.setTop (mkF m 50 #[.val (.ref a0), .val (.int p1), .val (.ref aO)] [])) := fun t k => G14 t (XS.ifYes X14.here hx rfl (pc0 := 37) (pc' := 50) rfl (hb hby d9_37) rfl ((if0 _ _).trans (teq hk15).1) (by decide) (by decide) k)
    have G17 : own_Go p.tables e below (s₁.setTop (entryFrame m #[(.ref a0), (.int p1), (.ref aO)] 3)) (T14.setTop (mkF m 51 #[.val (.ref a0), .val (.int p1), .val (.ref aO)] [(.ref aO)])) := fun t k => G16 t (XS.aloadN X14.here hx rfl (hb hby d9_50) rfl rfl k)
    have hnZ := own_named hZ0 Bd.named
    obtain ⟨u18, kL18, iL18, jL18, hkL18, hsL18⟩ := own_lam hnZ hZ.alike (hw _ (List.mem_of_getElem? (i := 32) rfl)) rfl
    have hwL18 : e.platform.lambdaLinkWords = 3072 := by rw [X14.admits.platform]
    have G18 : own_Go p.tables e below (s₁.setTop (entryFrame m #[(.ref a0), (.int p1), (.ref aO)] 3)) (T14.setTop (mkF m 56 #[.val (.ref a0), .val (.int p1), .val (.ref aO)] [(.ref u18), (.ref aO)])) := fun t k => G17 t (X14.lambdaConstant hx (g := (mkF m 51 #[.val (.ref a0), .val (.int p1), .val (.ref aO)] [(.ref aO)])) rfl (by rw [hml]; rfl) (hb hby d9_51) hkL18 hsL18 (by rw [hwL18]; exact Nat.le_of_ble_eq_true rfl) k)
    obtain ⟨cq19, kq19, q19a, q19b, q19c⟩ := isOf hZ e14 (E_O.ext O4.2)
    obtain ⟨vv19, _, ⟨T19, L19, k19, n19⟩, -, X19, ⟨Lc19, hQ19, l19, y19, z19⟩, st19⟩ := X14.virtualBack hx (y := (⟨"java/util/Optional", "filter", "(Ljava/util/function/Predicate;)Ljava/util/Optional;"⟩ : MethodName)) (z := (⟨"java/util/Optional", "filter", "(Ljava/util/function/Predicate;)Ljava/util/Optional;"⟩ : MethodName)) hown (mvT hZ (hw _ (List.mem_of_getElem? (i := 35) rfl))) (mvT hZ (hw _ (List.mem_of_getElem? (i := 36) rfl))) (notFace_of_selects (args := #[]) (mvT hZ (hw _ (List.mem_of_getElem? (i := 38) rfl)))) (mvT hZ (hw _ (List.mem_of_getElem? (i := 38) rfl))) (mvT hZ (hw _ (List.mem_of_getElem? (i := 37) rfl))) (by decide) (backOf (W := 0) (rm8 l Z aw hw [] aO u18  h4 (E_O.ext O4.2) (F_O.ext O4.2)) hZ (hw _ (List.mem_of_getElem? (i := 39) rfl)) (hw _ (List.mem_of_getElem? (i := 6) rfl)) (by decide) (by decide)) q19a q19c (g := (mkF m 56 #[.val (.ref a0), .val (.int p1), .val (.ref aO)] [(.ref u18), (.ref aO)])) rfl (by rw [hml]; rfl) (Steps.refl _) (argsL := [(.ref u18)]) (rest := []) (lenOf pd_9_4 rfl) rfl (by show 2 * 0 + _ ≤ _; exact Nat.le_of_eq rfl) (hb hby d9_56) (fun _ _ => ⟨rfl, e14, (by decide : 2 + 0 ≤ _), (by decide : 40 + 0 ≤ _)⟩)
    dsimp only [Pt.U, Pt.locs, Pt.cells, Pt.slots] at X19 l19 y19 z19 st19 hQ19
    subst l19 y19 z19
    obtain ⟨rfl, rfl, e19⟩ := hQ19
    try rw [List.append_nil] at X19
    have G19 : own_Go p.tables e below (s₁.setTop (entryFrame m #[(.ref a0), (.int p1), (.ref aO)] 3)) (T19.setTop (mkF m 59 #[.val (.ref a0), .val (.int p1), .val (.ref aO)] [(.ref aO)])) := fun t k => G18 t (st19.trans k)
    obtain ⟨cq20, kq20, q20a, q20b, q20c⟩ := isOf hZ e19 (E_O.ext O4.2)
    obtain ⟨vv20, _, ⟨T20, L20, k20, n20⟩, -, X20, ⟨Lc20, hQ20, l20, y20, z20⟩, st20⟩ := X19.virtualBack hx (y := (⟨"java/util/Optional", "isPresent", "()Z"⟩ : MethodName)) (z := (⟨"java/util/Optional", "isPresent", "()Z"⟩ : MethodName)) hown (mvT hZ (hw _ (List.mem_of_getElem? (i := 50) rfl))) (mvT hZ (hw _ (List.mem_of_getElem? (i := 51) rfl))) (notFace_of_selects (args := #[]) (mvT hZ (hw _ (List.mem_of_getElem? (i := 53) rfl)))) (mvT hZ (hw _ (List.mem_of_getElem? (i := 53) rfl))) (mvT hZ (hw _ (List.mem_of_getElem? (i := 52) rfl))) (by decide) (backOf (W := 0) (rm6 l Z aw hw [] aO  h4 (F_O.ext O4.2)) hZ (hw _ (List.mem_of_getElem? (i := 54) rfl)) (hw _ (List.mem_of_getElem? (i := 6) rfl)) (by decide) (by decide)) q20a q20c (g := (mkF m 59 #[.val (.ref a0), .val (.int p1), .val (.ref aO)] [(.ref aO)])) rfl (by rw [hml]; rfl) (Steps.refl _) (argsL := []) (rest := []) (lenOf pd_9_1 rfl) rfl (by show 2 * 0 + _ ≤ _; exact Nat.le_of_eq rfl) (hb hby d9_59) (fun _ _ => ⟨rfl, e19, (by decide : 2 + 0 ≤ _), (by decide : 40 + 0 ≤ _)⟩)
    dsimp only [Pt.U, Pt.locs, Pt.cells, Pt.slots] at X20 l20 y20 z20 st20 hQ20
    subst l20 y20 z20
    obtain ⟨rfl, rfl, e20⟩ := hQ20
    try rw [List.append_nil] at X20
    have G20 : own_Go p.tables e below (s₁.setTop (entryFrame m #[(.ref a0), (.int p1), (.ref aO)] 3)) (T20.setTop (mkF m 62 #[.val (.ref a0), .val (.int p1), .val (.ref aO)] [(.int (0 : Int32))])) := fun t k => G19 t (st20.trans k)
    have hk21 : (0 : Int32) = (0 : Int32) := rfl
    have G22 : own_Go p.tables e below (s₁.setTop (entryFrame m #[(.ref a0), (.int p1), (.ref aO)] 3)) (T20.setTop (mkF m 82 #[.val (.ref a0), .val (.int p1), .val (.ref aO)] [])) := fun t k => G20 t (XS.ifYes X20.here hx rfl (pc0 := 62) (pc' := 82) rfl (hb hby d9_62) rfl ((if0 _ _).trans (teq hk21).1) (by decide) (by decide) k)
    have G23 : own_Go p.tables e below (s₁.setTop (entryFrame m #[(.ref a0), (.int p1), (.ref aO)] 3)) (T20.setTop (mkF m 83 #[.val (.ref a0), .val (.int p1), .val (.ref aO)] [(.ref a0)])) := fun t k => G22 t (XS.aloadN X20.here hx rfl (hb hby d9_82) rfl rfl k)
    have G24 : own_Go p.tables e below (s₁.setTop (entryFrame m #[(.ref a0), (.int p1), (.ref aO)] 3)) (T20.setTop (mkF m 84 #[.val (.ref a0), .val (.int p1), .val (.ref aO)] [(.int p1), (.ref a0)])) := fun t k => G23 t (XS.iloadN X20.here hx rfl (hb hby d9_83) rfl k)
    have f25 : Exa Z h4 a0 "com/example/koord/koord/model/Attempt" := ((E_a0.keep Kq2).ext E4)
    have f26 : Fld Z h4 a0 "com/example/koord/koord/model/Attempt" "holds" "I" (.int (0 : Int32)) := ((F_h.keep Kq2 nin0).ext E4)
    obtain ⟨T27, h27, X27, e27, W27, st27⟩ := putF X20 hx hZ hown (host := "") (Or.inl (hw _ (List.mem_of_getElem? (i := 55) rfl))) Via.refl e20 f26 f25 (Or.inr ⟨(hw _ (List.mem_of_getElem? (i := 56) rfl)), rfl, hnm⟩) (hw _ (List.mem_of_getElem? (i := 2) rfl)) (ty := .int) (by decide) rfl rfl (g := (mkF m 84 #[.val (.ref a0), .val (.int p1), .val (.ref aO)] [(.int p1), (.ref a0)])) rfl rfl (hb hby d9_84)
    have Fw27 := f26.same W27
    have N27 := Fr.snoc X27 N2 gn_a0
    have O27 := O4.wr W27 gn_a0
    have K27 := K4.wr W27 (Or.inl (List.mem_of_getElem? (i := 0) rfl))
    have hk := Nat.le_trans hk (Keep.of_wr W27).1
    have G27 : own_Go p.tables e below (s₁.setTop (entryFrame m #[(.ref a0), (.int p1), (.ref aO)] 3)) (T27.setTop (mkF m 87 #[.val (.ref a0), .val (.int p1), .val (.ref aO)] [])) := fun t k => G24 t (st27 t k)
    have G28 : own_Go p.tables e below (s₁.setTop (entryFrame m #[(.ref a0), (.int p1), (.ref aO)] 3)) (T27.setTop (mkF m 88 #[.val (.ref a0), .val (.int p1), .val (.ref aO)] [(.ref a0)])) := fun t k => G27 t (XS.aloadN X27.here hx rfl (hb hby d9_87) rfl rfl k)
    have G29 : own_Go p.tables e below (s₁.setTop (entryFrame m #[(.ref a0), (.int p1), (.ref aO)] 3)) (T27.setTop (mkF m 89 #[.val (.ref a0), .val (.int p1), .val (.ref aO)] [(.ref aO), (.ref a0)])) := fun t k => G28 t (XS.aloadN X27.here hx rfl (hb hby d9_88) rfl rfl k)
    have f30 : Exa Z h27 a0 "com/example/koord/koord/model/Attempt" := (f25.wr W27)
    have f31 : Fld Z h27 a0 "com/example/koord/koord/model/Attempt" "leaseLeft" "Ljava/util/Optional;" .null := (((F_l.keep Kq2 nin0).ext E4).other W27 (Or.inr (slot_ne (Or.inr (hw _ (List.mem_of_getElem? (i := 58) rfl))) (Or.inr (hw _ (List.mem_of_getElem? (i := 56) rfl))) (by decide) (t := (.object "java/util/Optional")) (t' := .int) (by decide) (by decide))))
    obtain ⟨T32, h32, X32, e32, W32, st32⟩ := putF X27 hx hZ hown (host := "") (Or.inl (hw _ (List.mem_of_getElem? (i := 57) rfl))) Via.refl e27 f31 f30 (Or.inr ⟨(hw _ (List.mem_of_getElem? (i := 58) rfl)), rfl, hnm⟩) (hw _ (List.mem_of_getElem? (i := 2) rfl)) (ty := (.object "java/util/Optional")) (by decide) rfl rfl (g := (mkF m 89 #[.val (.ref a0), .val (.int p1), .val (.ref aO)] [(.ref aO), (.ref a0)])) rfl rfl (hb hby d9_89)
    have Fw32 := f31.same W32
    have N32 := Fr.snoc X32 N27 gn_a0
    have O32 := O27.wr W32 gn_a0
    have K32 := K27.wr W32 (Or.inl (List.mem_of_getElem? (i := 0) rfl))
    have hk := Nat.le_trans hk (Keep.of_wr W32).1
    have G32 : own_Go p.tables e below (s₁.setTop (entryFrame m #[(.ref a0), (.int p1), (.ref aO)] 3)) (T32.setTop (mkF m 92 #[.val (.ref a0), .val (.int p1), .val (.ref aO)] [])) := fun t k => G29 t (st32 t k)
    obtain ⟨fs, hr, hrun, hended, hW⟩ := X32.leaveW hS (by rw [e32]; exact hk) (v := none) (fun _ => rfl)
    refine ⟨_, _, G32 _ ?_, hrun, hended, _, _, rfl, ?_, ⟨_, rfl⟩, hW.2.1, hW.2.2.1, hW.2.2.2.mono (by decide) (by decide)⟩
    · exact X32.returnOut hx Bd.returns (hb hby d9_92) hr
    · show Q9 Z a0 p1 aO h0 _ T32.heap _
      rw [e32]
      have f33 : Exa Z h32 a0 "com/example/koord/koord/model/Attempt" := (f30.wr W32)
      have f34 : Fld Z h32 a0 "com/example/koord/koord/model/Attempt" "holds" "I" (.int p1) := (Fw27.other W32 (Or.inr (slot_ne (Or.inr (hw _ (List.mem_of_getElem? (i := 56) rfl))) (Or.inr (hw _ (List.mem_of_getElem? (i := 58) rfl))) (by decide) (t := .int) (t' := (.object "java/util/Optional")) (by decide) (by decide))))
      exact ⟨rfl, N32, K32, f33, f34⟩
  · have G35 : own_Go p.tables e below (s₁.setTop (entryFrame m #[(.ref a0), (.int p1), (.ref aO)] 3)) (T5.setTop (mkF m 50 #[.val (.ref a0), .val (.int p1), .val (.ref aO)] [])) := fun t k => G10 t (XS.ifYes X5.here hx rfl (pc0 := 30) (pc' := 50) rfl (hb hby d9_30) rfl ((if0 _ _).trans (flt hc11).2.2.2) (by decide) (by decide) k)
    have G36 : own_Go p.tables e below (s₁.setTop (entryFrame m #[(.ref a0), (.int p1), (.ref aO)] 3)) (T5.setTop (mkF m 51 #[.val (.ref a0), .val (.int p1), .val (.ref aO)] [(.ref aO)])) := fun t k => G35 t (XS.aloadN X5.here hx rfl (hb hby d9_50) rfl rfl k)
    have hnZ := own_named hZ0 Bd.named
    obtain ⟨u37, kL37, iL37, jL37, hkL37, hsL37⟩ := own_lam hnZ hZ.alike (hw _ (List.mem_of_getElem? (i := 32) rfl)) rfl
    have hwL37 : e.platform.lambdaLinkWords = 3072 := by rw [X5.admits.platform]
    have G37 : own_Go p.tables e below (s₁.setTop (entryFrame m #[(.ref a0), (.int p1), (.ref aO)] 3)) (T5.setTop (mkF m 56 #[.val (.ref a0), .val (.int p1), .val (.ref aO)] [(.ref u37), (.ref aO)])) := fun t k => G36 t (X5.lambdaConstant hx (g := (mkF m 51 #[.val (.ref a0), .val (.int p1), .val (.ref aO)] [(.ref aO)])) rfl (by rw [hml]; rfl) (hb hby d9_51) hkL37 hsL37 (by rw [hwL37]; exact Nat.le_of_ble_eq_true rfl) k)
    obtain ⟨cq38, kq38, q38a, q38b, q38c⟩ := isOf hZ e5 (E_O.ext O4.2)
    obtain ⟨vv38, _, ⟨T38, L38, k38, n38⟩, -, X38, ⟨Lc38, hQ38, l38, y38, z38⟩, st38⟩ := X5.virtualBack hx (y := (⟨"java/util/Optional", "filter", "(Ljava/util/function/Predicate;)Ljava/util/Optional;"⟩ : MethodName)) (z := (⟨"java/util/Optional", "filter", "(Ljava/util/function/Predicate;)Ljava/util/Optional;"⟩ : MethodName)) hown (mvT hZ (hw _ (List.mem_of_getElem? (i := 35) rfl))) (mvT hZ (hw _ (List.mem_of_getElem? (i := 36) rfl))) (notFace_of_selects (args := #[]) (mvT hZ (hw _ (List.mem_of_getElem? (i := 38) rfl)))) (mvT hZ (hw _ (List.mem_of_getElem? (i := 38) rfl))) (mvT hZ (hw _ (List.mem_of_getElem? (i := 37) rfl))) (by decide) (backOf (W := 0) (rm8 l Z aw hw [] aO u37  h4 (E_O.ext O4.2) (F_O.ext O4.2)) hZ (hw _ (List.mem_of_getElem? (i := 39) rfl)) (hw _ (List.mem_of_getElem? (i := 6) rfl)) (by decide) (by decide)) q38a q38c (g := (mkF m 56 #[.val (.ref a0), .val (.int p1), .val (.ref aO)] [(.ref u37), (.ref aO)])) rfl (by rw [hml]; rfl) (Steps.refl _) (argsL := [(.ref u37)]) (rest := []) (lenOf pd_9_4 rfl) rfl (by show 2 * 0 + _ ≤ _; exact Nat.le_of_eq rfl) (hb hby d9_56) (fun _ _ => ⟨rfl, e5, (by decide : 2 + 0 ≤ _), (by decide : 40 + 0 ≤ _)⟩)
    dsimp only [Pt.U, Pt.locs, Pt.cells, Pt.slots] at X38 l38 y38 z38 st38 hQ38
    subst l38 y38 z38
    obtain ⟨rfl, rfl, e38⟩ := hQ38
    try rw [List.append_nil] at X38
    have G38 : own_Go p.tables e below (s₁.setTop (entryFrame m #[(.ref a0), (.int p1), (.ref aO)] 3)) (T38.setTop (mkF m 59 #[.val (.ref a0), .val (.int p1), .val (.ref aO)] [(.ref aO)])) := fun t k => G37 t (st38.trans k)
    obtain ⟨cq39, kq39, q39a, q39b, q39c⟩ := isOf hZ e38 (E_O.ext O4.2)
    obtain ⟨vv39, _, ⟨T39, L39, k39, n39⟩, -, X39, ⟨Lc39, hQ39, l39, y39, z39⟩, st39⟩ := X38.virtualBack hx (y := (⟨"java/util/Optional", "isPresent", "()Z"⟩ : MethodName)) (z := (⟨"java/util/Optional", "isPresent", "()Z"⟩ : MethodName)) hown (mvT hZ (hw _ (List.mem_of_getElem? (i := 50) rfl))) (mvT hZ (hw _ (List.mem_of_getElem? (i := 51) rfl))) (notFace_of_selects (args := #[]) (mvT hZ (hw _ (List.mem_of_getElem? (i := 53) rfl)))) (mvT hZ (hw _ (List.mem_of_getElem? (i := 53) rfl))) (mvT hZ (hw _ (List.mem_of_getElem? (i := 52) rfl))) (by decide) (backOf (W := 0) (rm6 l Z aw hw [] aO  h4 (F_O.ext O4.2)) hZ (hw _ (List.mem_of_getElem? (i := 54) rfl)) (hw _ (List.mem_of_getElem? (i := 6) rfl)) (by decide) (by decide)) q39a q39c (g := (mkF m 59 #[.val (.ref a0), .val (.int p1), .val (.ref aO)] [(.ref aO)])) rfl (by rw [hml]; rfl) (Steps.refl _) (argsL := []) (rest := []) (lenOf pd_9_1 rfl) rfl (by show 2 * 0 + _ ≤ _; exact Nat.le_of_eq rfl) (hb hby d9_59) (fun _ _ => ⟨rfl, e38, (by decide : 2 + 0 ≤ _), (by decide : 40 + 0 ≤ _)⟩)
    dsimp only [Pt.U, Pt.locs, Pt.cells, Pt.slots] at X39 l39 y39 z39 st39 hQ39
    subst l39 y39 z39
    obtain ⟨rfl, rfl, e39⟩ := hQ39
    try rw [List.append_nil] at X39
    have G39 : own_Go p.tables e below (s₁.setTop (entryFrame m #[(.ref a0), (.int p1), (.ref aO)] 3)) (T39.setTop (mkF m 62 #[.val (.ref a0), .val (.int p1), .val (.ref aO)] [(.int (0 : Int32))])) := fun t k => G38 t (st39.trans k)
    have hk40 : (0 : Int32) = (0 : Int32) := rfl
    have G41 : own_Go p.tables e below (s₁.setTop (entryFrame m #[(.ref a0), (.int p1), (.ref aO)] 3)) (T39.setTop (mkF m 82 #[.val (.ref a0), .val (.int p1), .val (.ref aO)] [])) := fun t k => G39 t (XS.ifYes X39.here hx rfl (pc0 := 62) (pc' := 82) rfl (hb hby d9_62) rfl ((if0 _ _).trans (teq hk40).1) (by decide) (by decide) k)
    have G42 : own_Go p.tables e below (s₁.setTop (entryFrame m #[(.ref a0), (.int p1), (.ref aO)] 3)) (T39.setTop (mkF m 83 #[.val (.ref a0), .val (.int p1), .val (.ref aO)] [(.ref a0)])) := fun t k => G41 t (XS.aloadN X39.here hx rfl (hb hby d9_82) rfl rfl k)
    have G43 : own_Go p.tables e below (s₁.setTop (entryFrame m #[(.ref a0), (.int p1), (.ref aO)] 3)) (T39.setTop (mkF m 84 #[.val (.ref a0), .val (.int p1), .val (.ref aO)] [(.int p1), (.ref a0)])) := fun t k => G42 t (XS.iloadN X39.here hx rfl (hb hby d9_83) rfl k)
    have f44 : Exa Z h4 a0 "com/example/koord/koord/model/Attempt" := ((E_a0.keep Kq2).ext E4)
    have f45 : Fld Z h4 a0 "com/example/koord/koord/model/Attempt" "holds" "I" (.int (0 : Int32)) := ((F_h.keep Kq2 nin0).ext E4)
    obtain ⟨T46, h46, X46, e46, W46, st46⟩ := putF X39 hx hZ hown (host := "") (Or.inl (hw _ (List.mem_of_getElem? (i := 55) rfl))) Via.refl e39 f45 f44 (Or.inr ⟨(hw _ (List.mem_of_getElem? (i := 56) rfl)), rfl, hnm⟩) (hw _ (List.mem_of_getElem? (i := 2) rfl)) (ty := .int) (by decide) rfl rfl (g := (mkF m 84 #[.val (.ref a0), .val (.int p1), .val (.ref aO)] [(.int p1), (.ref a0)])) rfl rfl (hb hby d9_84)
    have Fw46 := f45.same W46
    have N46 := Fr.snoc X46 N2 gn_a0
    have O46 := O4.wr W46 gn_a0
    have K46 := K4.wr W46 (Or.inl (List.mem_of_getElem? (i := 0) rfl))
    have hk := Nat.le_trans hk (Keep.of_wr W46).1
    have G46 : own_Go p.tables e below (s₁.setTop (entryFrame m #[(.ref a0), (.int p1), (.ref aO)] 3)) (T46.setTop (mkF m 87 #[.val (.ref a0), .val (.int p1), .val (.ref aO)] [])) := fun t k => G43 t (st46 t k)
    have G47 : own_Go p.tables e below (s₁.setTop (entryFrame m #[(.ref a0), (.int p1), (.ref aO)] 3)) (T46.setTop (mkF m 88 #[.val (.ref a0), .val (.int p1), .val (.ref aO)] [(.ref a0)])) := fun t k => G46 t (XS.aloadN X46.here hx rfl (hb hby d9_87) rfl rfl k)
    have G48 : own_Go p.tables e below (s₁.setTop (entryFrame m #[(.ref a0), (.int p1), (.ref aO)] 3)) (T46.setTop (mkF m 89 #[.val (.ref a0), .val (.int p1), .val (.ref aO)] [(.ref aO), (.ref a0)])) := fun t k => G47 t (XS.aloadN X46.here hx rfl (hb hby d9_88) rfl rfl k)
    have f49 : Exa Z h46 a0 "com/example/koord/koord/model/Attempt" := (f44.wr W46)
    have f50 : Fld Z h46 a0 "com/example/koord/koord/model/Attempt" "leaseLeft" "Ljava/util/Optional;" .null := (((F_l.keep Kq2 nin0).ext E4).other W46 (Or.inr (slot_ne (Or.inr (hw _ (List.mem_of_getElem? (i := 58) rfl))) (Or.inr (hw _ (List.mem_of_getElem? (i := 56) rfl))) (by decide) (t := (.object "java/util/Optional")) (t' := .int) (by decide) (by decide))))
    obtain ⟨T51, h51, X51, e51, W51, st51⟩ := putF X46 hx hZ hown (host := "") (Or.inl (hw _ (List.mem_of_getElem? (i := 57) rfl))) Via.refl e46 f50 f49 (Or.inr ⟨(hw _ (List.mem_of_getElem? (i := 58) rfl)), rfl, hnm⟩) (hw _ (List.mem_of_getElem? (i := 2) rfl)) (ty := (.object "java/util/Optional")) (by decide) rfl rfl (g := (mkF m 89 #[.val (.ref a0), .val (.int p1), .val (.ref aO)] [(.ref aO), (.ref a0)])) rfl rfl (hb hby d9_89)
    have Fw51 := f50.same W51
    have N51 := Fr.snoc X51 N46 gn_a0
    have O51 := O46.wr W51 gn_a0
    have K51 := K46.wr W51 (Or.inl (List.mem_of_getElem? (i := 0) rfl))
    have hk := Nat.le_trans hk (Keep.of_wr W51).1
    have G51 : own_Go p.tables e below (s₁.setTop (entryFrame m #[(.ref a0), (.int p1), (.ref aO)] 3)) (T51.setTop (mkF m 92 #[.val (.ref a0), .val (.int p1), .val (.ref aO)] [])) := fun t k => G48 t (st51 t k)
    obtain ⟨fs, hr, hrun, hended, hW⟩ := X51.leaveW hS (by rw [e51]; exact hk) (v := none) (fun _ => rfl)
    refine ⟨_, _, G51 _ ?_, hrun, hended, _, _, rfl, ?_, ⟨_, rfl⟩, hW.2.1, hW.2.2.1, hW.2.2.2.mono (by decide) (by decide)⟩
    · exact X51.returnOut hx Bd.returns (hb hby d9_92) hr
    · show Q9 Z a0 p1 aO h0 _ T51.heap _
      rw [e51]
      have f52 : Exa Z h51 a0 "com/example/koord/koord/model/Attempt" := (f49.wr W51)
      have f53 : Fld Z h51 a0 "com/example/koord/koord/model/Attempt" "holds" "I" (.int p1) := (Fw46.other W51 (Or.inr (slot_ne (Or.inr (hw _ (List.mem_of_getElem? (i := 56) rfl))) (Or.inr (hw _ (List.mem_of_getElem? (i := 58) rfl))) (by decide) (t := .int) (t' := (.object "java/util/Optional")) (by decide) (by decide))))
      exact ⟨rfl, N51, K51, f52, f53⟩
theorem d10_0 : decode prog_2_method_2_code 0 = .ok (.iload_n 0, 1) := by decide +kernel
theorem d10_1 : decode prog_2_method_2_code 1 = .ok (.iconst 1, 1) := by decide +kernel
theorem d10_2 : decode prog_2_method_2_code 2 = .ok (.if_icmp .ge 17, 3) := by decide +kernel
theorem d10_19 : decode prog_2_method_2_code 19 = .ok (.new 50, 3) := by decide +kernel
theorem d10_22 : decode prog_2_method_2_code 22 = .ok (.dup, 1) := by decide +kernel
theorem d10_23 : decode prog_2_method_2_code 23 = .ok (.iload_n 0, 1) := by decide +kernel
theorem d10_24 : decode prog_2_method_2_code 24 = .ok (.invokestatic 59, 3) := by decide +kernel
theorem d10_27 : decode prog_2_method_2_code 27 = .ok (.invokespecial 63, 3) := by decide +kernel
theorem d10_30 : decode prog_2_method_2_code 30 = .ok (.areturn, 1) := by decide +kernel
theorem pn_10 : plainName "com/example/koord/koord/model/Attempt" = true := by first | (simp [plainName, overriddenIn]; done) | decide +kernel
theorem pd_10_5 : parseMethodDescriptor "()Ljava/util/Optional;" = some ⟨[], some (.object "java/util/Optional")⟩ := by decide +kernel
theorem pd_10_6 : parseMethodDescriptor "(ILjava/util/Optional;)V" = some ⟨[.int, (.object "java/util/Optional")], none⟩ := by decide +kernel
theorem ef_10 (m : MethodId) (p0 : Int32) : entryFrame m #[(.int p0)] 1 = mkF m 0 #[.val (.int p0)] [] := by first | (simp [entryFrame, mkF, argsToLocals, Value.category]; done) | rfl
def Q10 (Z : State) (p0 : Int32) (aO : Addr) (h0 : Heap) (v : Option Value) (h : Heap) (L : List Loc) : Prop := ∃ b : Addr, v = some (.ref b) ∧ Fr Z.heap.size L ∧ Keep h0 h [] ∧ Z.heap.size ≤ b ∧ h0.size ≤ b ∧ (Exa Z h b "com/example/koord/koord/model/Attempt") ∧ (Fld Z h b "com/example/koord/koord/model/Attempt" "holds" "I" (.int p0))
set_option maxRecDepth 65536 in
set_option maxHeartbeats 40000000 in
theorem rm10 (l : Launch) (Z : State) (aw : Array Value) (hw : ∀ d ∈ tables_1, d.before aw Z = true) (ws : List Jvm.Cond) (p0 : Int32) (aO : Addr) (h0 : Heap) (O0 : Old Z Z.heap.size h0)  (S_O : Sta Z Z.heap "java/util/Optional" "EMPTY" "Ljava/util/Optional;" (.ref aO)) (E_O : Exa Z Z.heap aO "java/util/Optional") (F_O : Fld Z Z.heap aO "java/util/Optional" "value" "Ljava/lang/Object;" .null) (hp1 : ¬ p0 < (1 : Int32)) :
    MetFree l (⟨"com/example/koord/koord/model/Attempt", "granted", "(I)Lcom/example/koord/koord/model/Attempt;"⟩ : MethodName) (head1 (Jvm.Cond.code (⟨"com/example/koord/koord/model/Attempt", "granted", "(I)Lcom/example/koord/koord/model/Attempt;"⟩ : MethodName) prog_2_method_2_code 1 (some (.object "com/example/koord/koord/model/Attempt")) :: ws) ({ frames := 3, cells := 3, slots := 42, locals := 3088 } : Room)) (fun a U => a = #[(.int p0)] ∧ Z.Warmed39 U.vm ∧ U.heap = h0) (fun _ _ _ _ _ => True) (fun _ U o U' => ∃ v L, o = .returned v ∧ Q10 Z p0 aO h0 v U'.heap L ∧ ReturnedEndW U o U' L ({ frames := 3, cells := 3, slots := 42, locals := 3088 } : Room).cells ({ frames := 3, cells := 3, slots := 42, locals := 3088 } : Room).slots) := by
  refine MetFree.of_bodySF (plainFor_of_name pn_10) hisR ?_
  intro p e s m args below meth c s₁ Bd hml0 hP hK
  obtain ⟨rfl, hZ, hh⟩ := hP
  have hZ0 := hZ
  have hx := Bd.exec
  have hby := Bd.bytes
  have hml : c.maxLocals = 1 := hml0
  have hown : s.vm.findClass "com/example/koord/koord/model/Attempt" = some m.cls := findClass_of_methodNamed Bd.named
  have hnm := (name_of_methodNamed Bd.named Bd.method).1
  have X0 : Stand p l e ({ frames := 3, cells := 3, slots := 42, locals := 3088 } : Room) (s.setVm s.vm) m #[(.int p0)] below meth c s₁ [] 0 0 := Stand.of_body Bd
  have e0 : s₁.heap = h0 := by rw [← hh, Bd.state]; rfl
  have G0 : own_Go p.tables e below (s₁.setTop (entryFrame m #[(.int p0)] 1)) (s₁.setTop (mkF m 0 #[.val (.int p0)] [])) := fun t k => castTop (ef_10 m p0) k
  have N0 := Fr.nil Z.heap.size
  have K0 := Keep.refl h0 []
  have hS := State.WarmedH.since (State.WarmedH.refl s) 0
  have hk : 0 ≤ h0.size := Nat.zero_le _
  have G1 : own_Go p.tables e below (s₁.setTop (entryFrame m #[(.int p0)] 1)) (s₁.setTop (mkF m 1 #[.val (.int p0)] [(.int p0)])) := fun t k => G0 t (XS.iloadN X0.here hx rfl (hb hby d10_0) rfl k)
  have G2 : own_Go p.tables e below (s₁.setTop (entryFrame m #[(.int p0)] 1)) (s₁.setTop (mkF m 2 #[.val (.int p0)] [(.int (1 : Int32)), (.int p0)])) := fun t k => G1 t (XT.iconstV X0.here hx rfl (1 : Int32) (hb hby d10_1) (by decide) k)
  have hk3 : ¬ (p0 < (1 : Int32)) := hp1
  have G4 : own_Go p.tables e below (s₁.setTop (entryFrame m #[(.int p0)] 1)) (s₁.setTop (mkF m 19 #[.val (.int p0)] [])) := fun t k => G2 t (XS.icmpYes X0.here hx rfl (pc0 := 2) (pc' := 19) rfl (hb hby d10_2) rfl (flt hk3).2.1 (by decide) (by decide) k)
  obtain ⟨T5, h5, X5, e5, E5, A5, D5, U5, st5⟩ := newO X0 hx hZ hown (hw _ (List.mem_of_getElem? (i := 66) rfl)) (hw _ (List.mem_of_getElem? (i := 2) rfl)) (hw _ (List.mem_of_getElem? (i := 3) rfl)) e0 (g := (mkF m 19 #[.val (.int p0)] [])) rfl (hb hby d10_19) (by decide) (by decide)
  obtain ⟨b5, g5⟩ : ∃ z, z = h0.size := ⟨_, rfl⟩
  rw [← g5] at A5 D5 U5 st5
  have gn_b5 : Z.heap.size ≤ b5 := Nat.le_trans O0.2.1 (Nat.le_of_eq g5.symm)
  have sz_b5 : h0.size ≤ b5 := Nat.le_trans K0.1 (Nat.le_of_eq g5.symm)
  have O5 := O0.ext E5
  have K5 := K0.ext E5
  have hk := Nat.le_trans hk E5.1
  have F5_holds : Fld Z h5 b5 "com/example/koord/koord/model/Attempt" "holds" "I" (.int (0 : Int32)) := D5 (Or.inr (hw _ (List.mem_of_getElem? (i := 56) rfl))) (ty := .int) (by decide)
  have F5_leaseLeft : Fld Z h5 b5 "com/example/koord/koord/model/Attempt" "leaseLeft" "Ljava/util/Optional;" .null := D5 (Or.inr (hw _ (List.mem_of_getElem? (i := 58) rfl))) (ty := (.object "java/util/Optional")) (by decide)
  have G5 : own_Go p.tables e below (s₁.setTop (entryFrame m #[(.int p0)] 1)) (T5.setTop (mkF m 22 #[.val (.int p0)] [(.ref b5)])) := fun t k => G4 t (st5 t k)
  have G6 : own_Go p.tables e below (s₁.setTop (entryFrame m #[(.int p0)] 1)) (T5.setTop (mkF m 23 #[.val (.int p0)] [(.ref b5), (.ref b5)])) := fun t k => G5 t (XS.dup X5.here hx rfl (hb hby d10_22) rfl rfl k)
  have G7 : own_Go p.tables e below (s₁.setTop (entryFrame m #[(.int p0)] 1)) (T5.setTop (mkF m 24 #[.val (.int p0)] [(.int p0), (.ref b5), (.ref b5)])) := fun t k => G6 t (XS.iloadN X5.here hx rfl (hb hby d10_23) rfl k)
  obtain ⟨vv8, _, ⟨T8, L8, k8, n8⟩, -, X8, ⟨Lc8, hQ8, l8, y8, z8⟩, st8⟩ := Jvm.LawKit.callS X5 hx (y := (⟨"java/util/Optional", "empty", "()Ljava/util/Optional;"⟩ : MethodName)) hown (mvT hZ (hw _ (List.mem_of_getElem? (i := 67) rfl))) (mvT hZ (hw _ (List.mem_of_getElem? (i := 5) rfl))) (mvT hZ (hw _ (List.mem_of_getElem? (i := 6) rfl))) (mvT hZ (hw _ (List.mem_of_getElem? (i := 7) rfl))) (by decide) (backOf (W := 3) (rm2 l Z aw hw []  aO h5 (S_O.ext O5.2)) hZ (hw _ (List.mem_of_getElem? (i := 7) rfl)) (hw _ (List.mem_of_getElem? (i := 6) rfl)) (by decide) (by decide)) (g := (mkF m 24 #[.val (.int p0)] [(.int p0), (.ref b5), (.ref b5)])) rfl (by rw [hml]; rfl) (argsL := []) (rest := [(.int p0), (.ref b5), (.ref b5)]) (lenOf pd_10_5 rfl) rfl (by show 2 * 0 + _ ≤ _; exact Nat.le_of_eq rfl) (hb hby d10_24) (fun _ _ => ⟨rfl, e5, (by decide : 1 + 0 ≤ _), (by decide : 2 + 0 ≤ _)⟩)
  dsimp only [Pt.U, Pt.locs, Pt.cells, Pt.slots] at X8 l8 y8 z8 st8 hQ8
  subst l8 y8 z8
  obtain ⟨rfl, rfl, e8⟩ := hQ8
  try rw [List.append_nil] at X8
  have G8 : own_Go p.tables e below (s₁.setTop (entryFrame m #[(.int p0)] 1)) (T8.setTop (mkF m 27 #[.val (.int p0)] [(.ref aO), (.int p0), (.ref b5), (.ref b5)])) := fun t k => G7 t (st8 t k)
  obtain ⟨vv9, _, ⟨T9, L9, k9, n9⟩, -, X9, hSq9, hgr9, ⟨Lc9, hQ9, l9, y9, z9⟩, st9⟩ := X8.specialBackS hx (y := (⟨"com/example/koord/koord/model/Attempt", "<init>", "(ILjava/util/Optional;)V"⟩ : MethodName)) rfl hown (mvT hZ (hw _ (List.mem_of_getElem? (i := 68) rfl))) (mvT hZ (hw _ (List.mem_of_getElem? (i := 10) rfl))) (mvT hZ (hw _ (List.mem_of_getElem? (i := 11) rfl))) (by decide) (backOfS (W := 1) (rm9 l Z aw hw [] b5 p0 aO  h5 O5 gn_b5 A5 F5_holds F5_leaseLeft S_O E_O F_O (own_ge hp1)) hZ (hw _ (List.mem_of_getElem? (i := 11) rfl)) (hw _ (List.mem_of_getElem? (i := 3) rfl)) (by decide) (by decide)) (g := (mkF m 27 #[.val (.int p0)] [(.ref aO), (.int p0), (.ref b5), (.ref b5)])) rfl (by rw [hml]; rfl) (Steps.refl _) (a := b5) (argsL := [(.int p0), (.ref aO)]) (rest := [(.ref b5)]) (lenOf pd_10_6 rfl) rfl (by show 2 * 0 + _ ≤ _; exact Nat.le_of_eq rfl) (hb hby d10_27) (fun _ _ => ⟨rfl, e8, (by decide : 1 + 2 ≤ _), (by decide : 2 + 40 ≤ _)⟩)
  dsimp only [Pt.U, Pt.locs, Pt.cells, Pt.slots] at X9 l9 y9 z9 st9 hQ9 hSq9 hgr9
  subst l9 y9 z9
  have hS := foldS hS (by rw [e8]; exact hk) hSq9 hgr9
  have hZ : Z.Warmed39 (s.setVm T9.vm).vm := State.Warmed39.trans (t := (s.setVm s.vm)) hZ hSq9.1
  have hown : (s.setVm T9.vm).vm.findClass "com/example/koord/koord/model/Attempt" = some m.cls := by rw [show (s.setVm T9.vm).vm = T9.vm from rfl, hSq9.1.alike.findClass]; exact hown
  obtain ⟨rfl, Nq9, Kq9, g9_0, g9_1⟩ := hQ9
  have N9 := Fr.app N0 Nq9
  have O9 := O5.keep Kq9 (allS gn_b5 all0)
  have K9 := K5.trans Kq9 (allS (Or.inr sz_b5) all0)
  have X9 : Stand p l e ({ frames := 3, cells := 3, slots := 42, locals := 3088 } : Room) (s.setVm T9.vm) m #[(.int p0)] below meth c T9 _ _ _ := X9
  have hk := Nat.le_refl T9.heap.size
  have G9 : own_Go p.tables e below (s₁.setTop (entryFrame m #[(.int p0)] 1)) (T9.setTop (mkF m 30 #[.val (.int p0)] [(.ref b5)])) := fun t k => G8 t (st9.trans k)
  obtain ⟨fs, hr, hrun, hended, hW⟩ := X9.leaveW hS hk (v := some (.ref b5)) (fun h => by rw [Bd.returns] at h; cases h)
  refine ⟨_, _, G9 _ ?_, hrun, hended, _, _, rfl, ?_, ⟨_, rfl⟩, hW.2.1, hW.2.2.1, hW.2.2.2.mono (by decide) (by decide)⟩
  · exact own_retA X9 hx Bd.returns rfl rfl (hb hby d10_30) hr
  · show Q10 Z p0 aO h0 _ T9.heap _
    exact ⟨_, rfl, N9, K9, gn_b5, sz_b5, g9_0, g9_1⟩
theorem d11_0 : decode prog_2_method_3_code 0 = .ok (.new 50, 3) := by decide +kernel
theorem d11_3 : decode prog_2_method_3_code 3 = .ok (.dup, 1) := by decide +kernel
theorem d11_4 : decode prog_2_method_3_code 4 = .ok (.iconst 0, 1) := by decide +kernel
theorem d11_5 : decode prog_2_method_3_code 5 = .ok (.aload_n 0, 1) := by decide +kernel
theorem d11_6 : decode prog_2_method_3_code 6 = .ok (.invokespecial 63, 3) := by decide +kernel
theorem d11_9 : decode prog_2_method_3_code 9 = .ok (.areturn, 1) := by decide +kernel
theorem pn_11 : plainName "com/example/koord/koord/model/Attempt" = true := by first | (simp [plainName, overriddenIn]; done) | decide +kernel
theorem pd_11_6 : parseMethodDescriptor "(ILjava/util/Optional;)V" = some ⟨[.int, (.object "java/util/Optional")], none⟩ := by decide +kernel
theorem ef_11 (m : MethodId) (aO : Addr) : entryFrame m #[(.ref aO)] 1 = mkF m 0 #[.val (.ref aO)] [] := by first | (simp [entryFrame, mkF, argsToLocals, Value.category]; done) | rfl
def Q11 (Z : State) (aO : Addr)  (h0 : Heap) (v : Option Value) (h : Heap) (L : List Loc) : Prop := ∃ b : Addr, v = some (.ref b) ∧ Fr Z.heap.size L ∧ Keep h0 h [] ∧ Z.heap.size ≤ b ∧ h0.size ≤ b ∧ (Exa Z h b "com/example/koord/koord/model/Attempt") ∧ (Fld Z h b "com/example/koord/koord/model/Attempt" "holds" "I" (.int (0 : Int32)))
set_option maxRecDepth 65536 in
set_option maxHeartbeats 40000000 in
theorem rm11 (l : Launch) (Z : State) (aw : Array Value) (hw : ∀ d ∈ tables_1, d.before aw Z = true) (ws : List Jvm.Cond) (aO : Addr)  (h0 : Heap) (O0 : Old Z Z.heap.size h0)  (S_O : Sta Z Z.heap "java/util/Optional" "EMPTY" "Ljava/util/Optional;" (.ref aO)) (E_O : Exa Z Z.heap aO "java/util/Optional") (F_O : Fld Z Z.heap aO "java/util/Optional" "value" "Ljava/lang/Object;" .null) :
    MetFree l (⟨"com/example/koord/koord/model/Attempt", "refused", "(Ljava/util/Optional;)Lcom/example/koord/koord/model/Attempt;"⟩ : MethodName) (head1 (Jvm.Cond.code (⟨"com/example/koord/koord/model/Attempt", "refused", "(Ljava/util/Optional;)Lcom/example/koord/koord/model/Attempt;"⟩ : MethodName) prog_2_method_3_code 1 (some (.object "com/example/koord/koord/model/Attempt")) :: ws) ({ frames := 3, cells := 3, slots := 42, locals := 3088 } : Room)) (fun a U => a = #[(.ref aO)] ∧ Z.Warmed39 U.vm ∧ U.heap = h0) (fun _ _ _ _ _ => True) (fun _ U o U' => ∃ v L, o = .returned v ∧ Q11 Z aO h0 v U'.heap L ∧ ReturnedEndW U o U' L ({ frames := 3, cells := 3, slots := 42, locals := 3088 } : Room).cells ({ frames := 3, cells := 3, slots := 42, locals := 3088 } : Room).slots) := by
  refine MetFree.of_bodySF (plainFor_of_name pn_11) hisR ?_
  intro p e s m args below meth c s₁ Bd hml0 hP hK
  obtain ⟨rfl, hZ, hh⟩ := hP
  have hZ0 := hZ
  have hx := Bd.exec
  have hby := Bd.bytes
  have hml : c.maxLocals = 1 := hml0
  have hown : s.vm.findClass "com/example/koord/koord/model/Attempt" = some m.cls := findClass_of_methodNamed Bd.named
  have hnm := (name_of_methodNamed Bd.named Bd.method).1
  have X0 : Stand p l e ({ frames := 3, cells := 3, slots := 42, locals := 3088 } : Room) (s.setVm s.vm) m #[(.ref aO)] below meth c s₁ [] 0 0 := Stand.of_body Bd
  have e0 : s₁.heap = h0 := by rw [← hh, Bd.state]; rfl
  have G0 : own_Go p.tables e below (s₁.setTop (entryFrame m #[(.ref aO)] 1)) (s₁.setTop (mkF m 0 #[.val (.ref aO)] [])) := fun t k => castTop (ef_11 m aO) k
  have N0 := Fr.nil Z.heap.size
  have K0 := Keep.refl h0 []
  have hS := State.WarmedH.since (State.WarmedH.refl s) 0
  have hk : 0 ≤ h0.size := Nat.zero_le _
  obtain ⟨T1, h1, X1, e1, E1, A1, D1, U1, st1⟩ := newO X0 hx hZ hown (hw _ (List.mem_of_getElem? (i := 66) rfl)) (hw _ (List.mem_of_getElem? (i := 2) rfl)) (hw _ (List.mem_of_getElem? (i := 3) rfl)) e0 (g := (mkF m 0 #[.val (.ref aO)] [])) rfl (hb hby d11_0) (by decide) (by decide)
  obtain ⟨b1, g1⟩ : ∃ z, z = h0.size := ⟨_, rfl⟩
  rw [← g1] at A1 D1 U1 st1
  have gn_b1 : Z.heap.size ≤ b1 := Nat.le_trans O0.2.1 (Nat.le_of_eq g1.symm)
  have sz_b1 : h0.size ≤ b1 := Nat.le_trans K0.1 (Nat.le_of_eq g1.symm)
  have O1 := O0.ext E1
  have K1 := K0.ext E1
  have hk := Nat.le_trans hk E1.1
  have F1_holds : Fld Z h1 b1 "com/example/koord/koord/model/Attempt" "holds" "I" (.int (0 : Int32)) := D1 (Or.inr (hw _ (List.mem_of_getElem? (i := 56) rfl))) (ty := .int) (by decide)
  have F1_leaseLeft : Fld Z h1 b1 "com/example/koord/koord/model/Attempt" "leaseLeft" "Ljava/util/Optional;" .null := D1 (Or.inr (hw _ (List.mem_of_getElem? (i := 58) rfl))) (ty := (.object "java/util/Optional")) (by decide)
  have G1 : own_Go p.tables e below (s₁.setTop (entryFrame m #[(.ref aO)] 1)) (T1.setTop (mkF m 3 #[.val (.ref aO)] [(.ref b1)])) := fun t k => G0 t (st1 t k)
  have G2 : own_Go p.tables e below (s₁.setTop (entryFrame m #[(.ref aO)] 1)) (T1.setTop (mkF m 4 #[.val (.ref aO)] [(.ref b1), (.ref b1)])) := fun t k => G1 t (XS.dup X1.here hx rfl (hb hby d11_3) rfl rfl k)
  have G3 : own_Go p.tables e below (s₁.setTop (entryFrame m #[(.ref aO)] 1)) (T1.setTop (mkF m 5 #[.val (.ref aO)] [(.int (0 : Int32)), (.ref b1), (.ref b1)])) := fun t k => G2 t (XT.iconstV X1.here hx rfl (0 : Int32) (hb hby d11_4) (by decide) k)
  have G4 : own_Go p.tables e below (s₁.setTop (entryFrame m #[(.ref aO)] 1)) (T1.setTop (mkF m 6 #[.val (.ref aO)] [(.ref aO), (.int (0 : Int32)), (.ref b1), (.ref b1)])) := fun t k => G3 t (XS.aloadN X1.here hx rfl (hb hby d11_5) rfl rfl k)
  obtain ⟨vv5, _, ⟨T5, L5, k5, n5⟩, -, X5, hSq5, hgr5, ⟨Lc5, hQ5, l5, y5, z5⟩, st5⟩ := X1.specialBackS hx (y := (⟨"com/example/koord/koord/model/Attempt", "<init>", "(ILjava/util/Optional;)V"⟩ : MethodName)) rfl hown (mvT hZ (hw _ (List.mem_of_getElem? (i := 68) rfl))) (mvT hZ (hw _ (List.mem_of_getElem? (i := 10) rfl))) (mvT hZ (hw _ (List.mem_of_getElem? (i := 11) rfl))) (by decide) (backOfS (W := 1) (rm9 l Z aw hw [] b1 (0 : Int32) aO  h1 O1 gn_b1 A1 F1_holds F1_leaseLeft S_O E_O F_O (by decide)) hZ (hw _ (List.mem_of_getElem? (i := 11) rfl)) (hw _ (List.mem_of_getElem? (i := 3) rfl)) (by decide) (by decide)) (g := (mkF m 6 #[.val (.ref aO)] [(.ref aO), (.int (0 : Int32)), (.ref b1), (.ref b1)])) rfl (by rw [hml]; rfl) (Steps.refl _) (a := b1) (argsL := [(.int (0 : Int32)), (.ref aO)]) (rest := [(.ref b1)]) (lenOf pd_11_6 rfl) rfl (by show 2 * 0 + _ ≤ _; exact Nat.le_of_eq rfl) (hb hby d11_6) (fun _ _ => ⟨rfl, e1, (by decide : 1 + 2 ≤ _), (by decide : 2 + 40 ≤ _)⟩)
  dsimp only [Pt.U, Pt.locs, Pt.cells, Pt.slots] at X5 l5 y5 z5 st5 hQ5 hSq5 hgr5
  subst l5 y5 z5
  have hS := foldS hS (by rw [e1]; exact hk) hSq5 hgr5
  have hZ : Z.Warmed39 (s.setVm T5.vm).vm := State.Warmed39.trans (t := (s.setVm s.vm)) hZ hSq5.1
  have hown : (s.setVm T5.vm).vm.findClass "com/example/koord/koord/model/Attempt" = some m.cls := by rw [show (s.setVm T5.vm).vm = T5.vm from rfl, hSq5.1.alike.findClass]; exact hown
  obtain ⟨rfl, Nq5, Kq5, g5_0, g5_1⟩ := hQ5
  have N5 := Fr.app N0 Nq5
  have O5 := O1.keep Kq5 (allS gn_b1 all0)
  have K5 := K1.trans Kq5 (allS (Or.inr sz_b1) all0)
  have X5 : Stand p l e ({ frames := 3, cells := 3, slots := 42, locals := 3088 } : Room) (s.setVm T5.vm) m #[(.ref aO)] below meth c T5 _ _ _ := X5
  have hk := Nat.le_refl T5.heap.size
  have G5 : own_Go p.tables e below (s₁.setTop (entryFrame m #[(.ref aO)] 1)) (T5.setTop (mkF m 9 #[.val (.ref aO)] [(.ref b1)])) := fun t k => G4 t (st5.trans k)
  obtain ⟨fs, hr, hrun, hended, hW⟩ := X5.leaveW hS hk (v := some (.ref b1)) (fun h => by rw [Bd.returns] at h; cases h)
  refine ⟨_, _, G5 _ ?_, hrun, hended, _, _, rfl, ?_, ⟨_, rfl⟩, hW.2.1, hW.2.2.1, hW.2.2.2.mono (by decide) (by decide)⟩
  · exact own_retA X5 hx Bd.returns rfl rfl (hb hby d11_9) hr
  · show Q11 Z aO h0 _ T5.heap _
    exact ⟨_, rfl, N5, K5, gn_b1, sz_b1, g5_0, g5_1⟩
theorem d13_0 : decode prog_2_method_4_code 0 = .ok (.aload_n 0, 1) := by decide +kernel
theorem d13_1 : decode prog_2_method_4_code 1 = .ok (.getfield 49, 3) := by decide +kernel
theorem d13_4 : decode prog_2_method_4_code 4 = .ok (.ifCond .le 7, 3) := by decide +kernel
theorem d13_7 : decode prog_2_method_4_code 7 = .ok (.iconst 1, 1) := by decide +kernel
theorem d13_8 : decode prog_2_method_4_code 8 = .ok (.goto 4, 3) := by decide +kernel
theorem d13_11 : decode prog_2_method_4_code 11 = .ok (.iconst 0, 1) := by decide +kernel
theorem d13_12 : decode prog_2_method_4_code 12 = .ok (.ireturn, 1) := by decide +kernel
theorem pn_13 : plainName "com/example/koord/koord/model/Attempt" = true := by first | (simp [plainName, overriddenIn]; done) | decide +kernel
theorem ef_13 (m : MethodId) (a0 : Addr) : entryFrame m #[(.ref a0)] 1 = mkF m 0 #[.val (.ref a0)] [] := by first | (simp [entryFrame, mkF, argsToLocals, Value.category]; done) | rfl
def Q13 (Z : State) (a0 : Addr) (ff : Int32) (h0 : Heap) (v : Option Value) (h : Heap) (L : List Loc) : Prop := v = some (.int (if (0 : Int32) < ff then (1 : Int32) else (0 : Int32))) ∧ L = [] ∧ h = h0
set_option maxRecDepth 65536 in
set_option maxHeartbeats 40000000 in
theorem rm13 (l : Launch) (Z : State) (aw : Array Value) (hw : ∀ d ∈ tables_1, d.before aw Z = true) (ws : List Jvm.Cond) (a0 : Addr) (ff : Int32) (h0 : Heap) (F_f : Fld Z h0 a0 "com/example/koord/koord/model/Attempt" "holds" "I" (.int ff)) :
    MetFree l (⟨"com/example/koord/koord/model/Attempt", "granted", "()Z"⟩ : MethodName) (head1 (Jvm.Cond.code (⟨"com/example/koord/koord/model/Attempt", "granted", "()Z"⟩ : MethodName) prog_2_method_4_code 1 (some .boolean) :: ws) ({ frames := 0, cells := 0, slots := 0, locals := 0 } : Room)) (fun a U => a = #[(.ref a0)] ∧ Z.Warmed39 U.vm ∧ U.heap = h0) (fun _ _ _ _ _ => True) (fun _ U o U' => ∃ v L, o = .returned v ∧ Q13 Z a0 ff h0 v U'.heap L ∧ FrameEnd U o U' L ({ frames := 0, cells := 0, slots := 0, locals := 0 } : Room).cells ({ frames := 0, cells := 0, slots := 0, locals := 0 } : Room).slots) := by
  refine MetFree.of_bodySF (plainFor_of_name pn_13) hisR ?_
  intro p e s m args below meth c s₁ Bd hml0 hP hK
  obtain ⟨rfl, hZ, hh⟩ := hP
  have hZ0 := hZ
  have hx := Bd.exec
  have hby := Bd.bytes
  have hml : c.maxLocals = 1 := hml0
  have hown : s.vm.findClass "com/example/koord/koord/model/Attempt" = some m.cls := findClass_of_methodNamed Bd.named
  have hnm := (name_of_methodNamed Bd.named Bd.method).1
  have X0 : Stand p l e ({ frames := 0, cells := 0, slots := 0, locals := 0 } : Room) s m #[(.ref a0)] below meth c s₁ [] 0 0 := Stand.of_body Bd
  have e0 : s₁.heap = h0 := by rw [← hh, Bd.state]; rfl
  have G0 : own_Go p.tables e below (s₁.setTop (entryFrame m #[(.ref a0)] 1)) (s₁.setTop (mkF m 0 #[.val (.ref a0)] [])) := fun t k => castTop (ef_13 m a0) k
  have G1 : own_Go p.tables e below (s₁.setTop (entryFrame m #[(.ref a0)] 1)) (s₁.setTop (mkF m 1 #[.val (.ref a0)] [(.ref a0)])) := fun t k => G0 t (XS.aloadN X0.here hx rfl (hb hby d13_0) rfl rfl k)
  obtain ⟨T2, X2, e2, st2⟩ := getF X0 hx hZ hown (host := "") (Or.inl (hw _ (List.mem_of_getElem? (i := 55) rfl))) Via.refl e0 F_f (g := (mkF m 1 #[.val (.ref a0)] [(.ref a0)])) rfl rfl (hb hby d13_1)
  have G2 : own_Go p.tables e below (s₁.setTop (entryFrame m #[(.ref a0)] 1)) (T2.setTop (mkF m 4 #[.val (.ref a0)] [(.int ff)])) := fun t k => G1 t (st2 t k)
  obtain ⟨z3_0, hz3_0, G3⟩ : ∃ (z3_0 : Int32), z3_0 = (if (0 : Int32) < ff then (1 : Int32) else (0 : Int32)) ∧ own_Go p.tables e below (s₁.setTop (entryFrame m #[(.ref a0)] 1)) (T2.setTop (mkF m 12 #[.val (.ref a0)] [(.int z3_0)])) := by
    by_cases hc3 : (0 : Int32) < ff
    · have G4 : own_Go p.tables e below (s₁.setTop (entryFrame m #[(.ref a0)] 1)) (T2.setTop (mkF m 7 #[.val (.ref a0)] [])) := fun t k => G2 t (XS.ifNo X2.here hx rfl (hb hby d13_4) rfl ((if0 _ _).trans (tlt hc3).2.2.2) k)
      have G5 : own_Go p.tables e below (s₁.setTop (entryFrame m #[(.ref a0)] 1)) (T2.setTop (mkF m 8 #[.val (.ref a0)] [(.int (1 : Int32))])) := fun t k => G4 t (XT.iconstV X2.here hx rfl (1 : Int32) (hb hby d13_7) (by decide) k)
      have G6 : own_Go p.tables e below (s₁.setTop (entryFrame m #[(.ref a0)] 1)) (T2.setTop (mkF m 12 #[.val (.ref a0)] [(.int (1 : Int32))])) := fun t k => G5 t (XS.goto X2.here hx rfl (pc0 := 8) (pc' := 12) rfl (hb hby d13_8) (by decide) (by decide) k)
      exact ⟨_, (if_pos hc3).symm, G6⟩
    · have G7 : own_Go p.tables e below (s₁.setTop (entryFrame m #[(.ref a0)] 1)) (T2.setTop (mkF m 11 #[.val (.ref a0)] [])) := fun t k => G2 t (XS.ifYes X2.here hx rfl (pc0 := 4) (pc' := 11) rfl (hb hby d13_4) rfl ((if0 _ _).trans (flt hc3).2.2.2) (by decide) (by decide) k)
      have G8 : own_Go p.tables e below (s₁.setTop (entryFrame m #[(.ref a0)] 1)) (T2.setTop (mkF m 12 #[.val (.ref a0)] [(.int (0 : Int32))])) := fun t k => G7 t (XT.iconstV X2.here hx rfl (0 : Int32) (hb hby d13_11) (by decide) k)
      exact ⟨_, (if_neg hc3).symm, G8⟩
  obtain ⟨fs, hr, hrun, hended, hW, hsame⟩ := X2.leave (v := some (.int (nar .boolean z3_0))) (fun h => by rw [Bd.returns] at h; cases h)
  refine ⟨_, _, G3 _ ?_, hrun, hended, _, _, rfl, ?_, ⟨_, rfl⟩, hW, hsame.mono (by decide) (by decide)⟩
  · exact retN X2 hx (t := .boolean) Bd.returns (by simp) (hb hby d13_12) hr
  · show Q13 Z a0 ff h0 _ T2.heap _
    rw [e2]
    exact ⟨congrArg (fun z => some (Value.int z)) (by rw [hz3_0]; (repeat (first | exact own_nar0 | exact own_nar1 | apply own_nar_ite))), rfl, rfl⟩
theorem pn_0 : plainName "com/example/koord/koord/model/AttemptGrantedPinLaw" = true := by first | (simp [plainName, overriddenIn]; done) | decide +kernel
theorem pd_0_5 : parseMethodDescriptor "()Ljava/util/Optional;" = some ⟨[], some (.object "java/util/Optional")⟩ := by decide +kernel
theorem pd_0_6 : parseMethodDescriptor "(ILjava/util/Optional;)V" = some ⟨[.int, (.object "java/util/Optional")], none⟩ := by decide +kernel
theorem pd_0_7 : parseMethodDescriptor "(II)I" = some ⟨[.int, .int], some .int⟩ := by decide +kernel
theorem pd_0_8 : parseMethodDescriptor "(I)Lcom/example/koord/koord/model/Attempt;" = some ⟨[.int], some (.object "com/example/koord/koord/model/Attempt")⟩ := by decide +kernel
theorem pd_0_9 : parseMethodDescriptor "(Ljava/util/Optional;)Lcom/example/koord/koord/model/Attempt;" = some ⟨[(.object "java/util/Optional")], some (.object "com/example/koord/koord/model/Attempt")⟩ := by decide +kernel
theorem pd_0_1 : parseMethodDescriptor "()Z" = some ⟨[], some .boolean⟩ := by decide +kernel
theorem ef_0 (m : MethodId) (p0 : Int32) (p1 : Int32) : entryFrame m #[(.int p0), (.int p1)] maxLocals = mkF m 0 #[.val (.int p0), .val (.int p1), .unset, .unset, .unset, .unset, .unset, .unset] [] := by first | (simp [entryFrame, mkF, argsToLocals, Value.category, maxLocals]; done) | rfl
def Q0 (Z : State) (p0 : Int32) (p1 : Int32) (aO : Addr) (h0 : Heap) (v : Option Value) (h : Heap) (L : List Loc) : Prop := v = some (.int 1) ∧ Fr Z.heap.size L ∧ Keep h0 h []
set_option maxRecDepth 65536 in
set_option maxHeartbeats 40000000 in
theorem rm0 (l : Launch) (Z : State) (aw : Array Value) (hw : ∀ d ∈ tables_1, d.before aw Z = true) (ws : List Jvm.Cond) (p0 : Int32) (p1 : Int32) (aO : Addr) (h0 : Heap) (O0 : Old Z Z.heap.size h0)  (S_O : Sta Z Z.heap "java/util/Optional" "EMPTY" "Ljava/util/Optional;" (.ref aO)) (E_O : Exa Z Z.heap aO "java/util/Optional") (F_O : Fld Z Z.heap aO "java/util/Optional" "value" "Ljava/lang/Object;" .null) :
    MetFree l x (head1 (Jvm.Cond.code x code maxLocals ret :: ws) room_1) (fun a U => a = #[(.int p0), (.int p1)] ∧ Z.Warmed39 U.vm ∧ U.heap = h0) (fun _ _ _ _ _ => True) (fun _ U o U' => ∃ v L, o = .returned v ∧ Q0 Z p0 p1 aO h0 v U'.heap L ∧ ReturnedEndW U o U' L room_1.cells room_1.slots) := by
  refine MetFree.of_bodySF (plainFor_of_name pn_0) hisR ?_
  intro p e s m args below meth c s₁ Bd hml0 hP hK
  obtain ⟨rfl, hZ, hh⟩ := hP
  have hZ0 := hZ
  have hx := Bd.exec
  have hby := Bd.bytes
  have hml : c.maxLocals = 8 := hml0
  have hown : s.vm.findClass "com/example/koord/koord/model/AttemptGrantedPinLaw" = some m.cls := findClass_of_methodNamed Bd.named
  have hnm := (name_of_methodNamed Bd.named Bd.method).1
  have X0 : Stand p l e room_1 (s.setVm s.vm) m #[(.int p0), (.int p1)] below meth c s₁ [] 0 0 := Stand.of_body Bd
  have e0 : s₁.heap = h0 := by rw [← hh, Bd.state]; rfl
  have G0 : own_Go p.tables e below (s₁.setTop (entryFrame m #[(.int p0), (.int p1)] maxLocals)) (s₁.setTop (mkF m 0 #[.val (.int p0), .val (.int p1), .unset, .unset, .unset, .unset, .unset, .unset] [])) := fun t k => castTop (ef_0 m p0 p1) k
  have N0 := Fr.nil Z.heap.size
  have K0 := Keep.refl h0 []
  have hS := State.WarmedH.since (State.WarmedH.refl s) 0
  have hk : 0 ≤ h0.size := Nat.zero_le _
  have G1 : own_Go p.tables e below (s₁.setTop (entryFrame m #[(.int p0), (.int p1)] maxLocals)) (s₁.setTop (mkF m 1 #[.val (.int p0), .val (.int p1), .unset, .unset, .unset, .unset, .unset, .unset] [(.int p1)])) := fun t k => G0 t (XS.iloadN X0.here hx rfl (hb hby at_0) rfl k)
  have G2 : own_Go p.tables e below (s₁.setTop (entryFrame m #[(.int p0), (.int p1)] maxLocals)) (s₁.setTop (mkF m 2 #[.val (.int p0), .val (.int p1), .unset, .unset, .unset, .unset, .unset, .unset] [(.int (3 : Int32)), (.int p1)])) := fun t k => G1 t (XT.iconstV X0.here hx rfl (3 : Int32) (hb hby at_1) (by decide) k)
  have G3 : own_Go p.tables e below (s₁.setTop (entryFrame m #[(.int p0), (.int p1)] maxLocals)) (s₁.setTop (mkF m 3 #[.val (.int p0), .val (.int p1), .unset, .unset, .unset, .unset, .unset, .unset] [(.int (p1 &&& (3 : Int32)))])) := fun t k => G2 t (XS.iand X0.here hx rfl (hb hby at_2) rfl k)
  have G4 : own_Go p.tables e below (s₁.setTop (entryFrame m #[(.int p0), (.int p1)] maxLocals)) (s₁.setTop (mkF m 4 #[.val (.int p0), .val (.int p1), .val (.int (p1 &&& (3 : Int32))), .unset, .unset, .unset, .unset, .unset] [])) := fun t k => G3 t (XS.istoreN X0.here hx rfl (hb hby at_3) rfl (l' := #[.val (.int p0), .val (.int p1), .val (.int (p1 &&& (3 : Int32))), .unset, .unset, .unset, .unset, .unset]) rfl k)
  obtain ⟨z5, hz5, G5⟩ : ∃ z5 : Int32, z5 = (p1 &&& (3 : Int32)) ∧ own_Go p.tables e below (s₁.setTop (entryFrame m #[(.int p0), (.int p1)] maxLocals)) (s₁.setTop (mkF m 4 #[.val (.int p0), .val (.int p1), .val (.int z5), .unset, .unset, .unset, .unset, .unset] [])) := ⟨_, rfl, G4⟩
  have G6 : own_Go p.tables e below (s₁.setTop (entryFrame m #[(.int p0), (.int p1)] maxLocals)) (s₁.setTop (mkF m 5 #[.val (.int p0), .val (.int p1), .val (.int z5), .unset, .unset, .unset, .unset, .unset] [(.int z5)])) := fun t k => G5 t (XS.iloadN X0.here hx rfl (hb hby at_4) rfl k)
  obtain ⟨z7_0, hz7_0, G7⟩ : ∃ (z7_0 : Int32), z7_0 = (if z5 = (0 : Int32) then (0 : Int32) else (if z5 = (1 : Int32) then (1 : Int32) else (if z5 = (2 : Int32) then (2147483647 : Int32) else (p0 &&& (2147483647 : Int32))))) ∧ own_Go p.tables e below (s₁.setTop (entryFrame m #[(.int p0), (.int p1)] maxLocals)) (s₁.setTop (mkF m 39 #[.val (.int p0), .val (.int p1), .val (.int z5), .val (.int z7_0), .unset, .unset, .unset, .unset] [])) := by
    by_cases hc7 : z5 = (0 : Int32)
    · have G8 : own_Go p.tables e below (s₁.setTop (entryFrame m #[(.int p0), (.int p1)] maxLocals)) (s₁.setTop (mkF m 8 #[.val (.int p0), .val (.int p1), .val (.int z5), .unset, .unset, .unset, .unset, .unset] [])) := fun t k => G6 t (XS.ifNo X0.here hx rfl (hb hby at_5) rfl ((if0 _ _).trans (teq hc7).2) k)
      have G9 : own_Go p.tables e below (s₁.setTop (entryFrame m #[(.int p0), (.int p1)] maxLocals)) (s₁.setTop (mkF m 9 #[.val (.int p0), .val (.int p1), .val (.int z5), .unset, .unset, .unset, .unset, .unset] [(.int (0 : Int32))])) := fun t k => G8 t (XT.iconstV X0.here hx rfl (0 : Int32) (hb hby at_8) (by decide) k)
      have G10 : own_Go p.tables e below (s₁.setTop (entryFrame m #[(.int p0), (.int p1)] maxLocals)) (s₁.setTop (mkF m 10 #[.val (.int p0), .val (.int p1), .val (.int z5), .val (.int (0 : Int32)), .unset, .unset, .unset, .unset] [])) := fun t k => G9 t (XS.istoreN X0.here hx rfl (hb hby at_9) rfl (l' := #[.val (.int p0), .val (.int p1), .val (.int z5), .val (.int (0 : Int32)), .unset, .unset, .unset, .unset]) rfl k)
      have G11 : own_Go p.tables e below (s₁.setTop (entryFrame m #[(.int p0), (.int p1)] maxLocals)) (s₁.setTop (mkF m 39 #[.val (.int p0), .val (.int p1), .val (.int z5), .val (.int (0 : Int32)), .unset, .unset, .unset, .unset] [])) := fun t k => G10 t (XS.goto X0.here hx rfl (pc0 := 10) (pc' := 39) rfl (hb hby at_10) (by decide) (by decide) k)
      exact ⟨_, (if_pos hc7).symm, G11⟩
    · have G12 : own_Go p.tables e below (s₁.setTop (entryFrame m #[(.int p0), (.int p1)] maxLocals)) (s₁.setTop (mkF m 13 #[.val (.int p0), .val (.int p1), .val (.int z5), .unset, .unset, .unset, .unset, .unset] [])) := fun t k => G6 t (XS.ifYes X0.here hx rfl (pc0 := 5) (pc' := 13) rfl (hb hby at_5) rfl ((if0 _ _).trans (feq hc7).2) (by decide) (by decide) k)
      have G13 : own_Go p.tables e below (s₁.setTop (entryFrame m #[(.int p0), (.int p1)] maxLocals)) (s₁.setTop (mkF m 14 #[.val (.int p0), .val (.int p1), .val (.int z5), .unset, .unset, .unset, .unset, .unset] [(.int z5)])) := fun t k => G12 t (XS.iloadN X0.here hx rfl (hb hby at_13) rfl k)
      have G14 : own_Go p.tables e below (s₁.setTop (entryFrame m #[(.int p0), (.int p1)] maxLocals)) (s₁.setTop (mkF m 15 #[.val (.int p0), .val (.int p1), .val (.int z5), .unset, .unset, .unset, .unset, .unset] [(.int (1 : Int32)), (.int z5)])) := fun t k => G13 t (XT.iconstV X0.here hx rfl (1 : Int32) (hb hby at_14) (by decide) k)
      obtain ⟨z15_0, rfl, G15⟩ : ∃ (z15_0 : Int32), z15_0 = (if z5 = (1 : Int32) then (1 : Int32) else (if z5 = (2 : Int32) then (2147483647 : Int32) else (p0 &&& (2147483647 : Int32)))) ∧ own_Go p.tables e below (s₁.setTop (entryFrame m #[(.int p0), (.int p1)] maxLocals)) (s₁.setTop (mkF m 39 #[.val (.int p0), .val (.int p1), .val (.int z5), .val (.int z15_0), .unset, .unset, .unset, .unset] [])) := by
        by_cases hc15 : z5 = (1 : Int32)
        · have G16 : own_Go p.tables e below (s₁.setTop (entryFrame m #[(.int p0), (.int p1)] maxLocals)) (s₁.setTop (mkF m 18 #[.val (.int p0), .val (.int p1), .val (.int z5), .unset, .unset, .unset, .unset, .unset] [])) := fun t k => G14 t (XS.icmpNo X0.here hx rfl (hb hby at_15) rfl (teq hc15).2 k)
          have G17 : own_Go p.tables e below (s₁.setTop (entryFrame m #[(.int p0), (.int p1)] maxLocals)) (s₁.setTop (mkF m 19 #[.val (.int p0), .val (.int p1), .val (.int z5), .unset, .unset, .unset, .unset, .unset] [(.int (1 : Int32))])) := fun t k => G16 t (XT.iconstV X0.here hx rfl (1 : Int32) (hb hby at_18) (by decide) k)
          have G18 : own_Go p.tables e below (s₁.setTop (entryFrame m #[(.int p0), (.int p1)] maxLocals)) (s₁.setTop (mkF m 20 #[.val (.int p0), .val (.int p1), .val (.int z5), .val (.int (1 : Int32)), .unset, .unset, .unset, .unset] [])) := fun t k => G17 t (XS.istoreN X0.here hx rfl (hb hby at_19) rfl (l' := #[.val (.int p0), .val (.int p1), .val (.int z5), .val (.int (1 : Int32)), .unset, .unset, .unset, .unset]) rfl k)
          have G19 : own_Go p.tables e below (s₁.setTop (entryFrame m #[(.int p0), (.int p1)] maxLocals)) (s₁.setTop (mkF m 39 #[.val (.int p0), .val (.int p1), .val (.int z5), .val (.int (1 : Int32)), .unset, .unset, .unset, .unset] [])) := fun t k => G18 t (XS.goto X0.here hx rfl (pc0 := 20) (pc' := 39) rfl (hb hby at_20) (by decide) (by decide) k)
          exact ⟨_, (if_pos hc15).symm, G19⟩
        · have G20 : own_Go p.tables e below (s₁.setTop (entryFrame m #[(.int p0), (.int p1)] maxLocals)) (s₁.setTop (mkF m 23 #[.val (.int p0), .val (.int p1), .val (.int z5), .unset, .unset, .unset, .unset, .unset] [])) := fun t k => G14 t (XS.icmpYes X0.here hx rfl (pc0 := 15) (pc' := 23) rfl (hb hby at_15) rfl (feq hc15).2 (by decide) (by decide) k)
          have G21 : own_Go p.tables e below (s₁.setTop (entryFrame m #[(.int p0), (.int p1)] maxLocals)) (s₁.setTop (mkF m 24 #[.val (.int p0), .val (.int p1), .val (.int z5), .unset, .unset, .unset, .unset, .unset] [(.int z5)])) := fun t k => G20 t (XS.iloadN X0.here hx rfl (hb hby at_23) rfl k)
          have G22 : own_Go p.tables e below (s₁.setTop (entryFrame m #[(.int p0), (.int p1)] maxLocals)) (s₁.setTop (mkF m 25 #[.val (.int p0), .val (.int p1), .val (.int z5), .unset, .unset, .unset, .unset, .unset] [(.int (2 : Int32)), (.int z5)])) := fun t k => G21 t (XT.iconstV X0.here hx rfl (2 : Int32) (hb hby at_24) (by decide) k)
          obtain ⟨z23_0, rfl, G23⟩ : ∃ (z23_0 : Int32), z23_0 = (if z5 = (2 : Int32) then (2147483647 : Int32) else (p0 &&& (2147483647 : Int32))) ∧ own_Go p.tables e below (s₁.setTop (entryFrame m #[(.int p0), (.int p1)] maxLocals)) (s₁.setTop (mkF m 39 #[.val (.int p0), .val (.int p1), .val (.int z5), .val (.int z23_0), .unset, .unset, .unset, .unset] [])) := by
            by_cases hc23 : z5 = (2 : Int32)
            · have G24 : own_Go p.tables e below (s₁.setTop (entryFrame m #[(.int p0), (.int p1)] maxLocals)) (s₁.setTop (mkF m 28 #[.val (.int p0), .val (.int p1), .val (.int z5), .unset, .unset, .unset, .unset, .unset] [])) := fun t k => G22 t (XS.icmpNo X0.here hx rfl (hb hby at_25) rfl (teq hc23).2 k)
              have G25 : own_Go p.tables e below (s₁.setTop (entryFrame m #[(.int p0), (.int p1)] maxLocals)) (s₁.setTop (mkF m 30 #[.val (.int p0), .val (.int p1), .val (.int z5), .unset, .unset, .unset, .unset, .unset] [(.int (2147483647 : Int32))])) := fun t k => G24 t (X0.ldcInt hx hown (mvT hZ (hw _ (List.mem_of_getElem? (i := 0) rfl))) (g := (mkF m 28 #[.val (.int p0), .val (.int p1), .val (.int z5), .unset, .unset, .unset, .unset, .unset] [])) rfl (hb hby at_28) t k)
              have G26 : own_Go p.tables e below (s₁.setTop (entryFrame m #[(.int p0), (.int p1)] maxLocals)) (s₁.setTop (mkF m 31 #[.val (.int p0), .val (.int p1), .val (.int z5), .val (.int (2147483647 : Int32)), .unset, .unset, .unset, .unset] [])) := fun t k => G25 t (XS.istoreN X0.here hx rfl (hb hby at_30) rfl (l' := #[.val (.int p0), .val (.int p1), .val (.int z5), .val (.int (2147483647 : Int32)), .unset, .unset, .unset, .unset]) rfl k)
              have G27 : own_Go p.tables e below (s₁.setTop (entryFrame m #[(.int p0), (.int p1)] maxLocals)) (s₁.setTop (mkF m 39 #[.val (.int p0), .val (.int p1), .val (.int z5), .val (.int (2147483647 : Int32)), .unset, .unset, .unset, .unset] [])) := fun t k => G26 t (XS.goto X0.here hx rfl (pc0 := 31) (pc' := 39) rfl (hb hby at_31) (by decide) (by decide) k)
              exact ⟨_, (if_pos hc23).symm, G27⟩
            · have G28 : own_Go p.tables e below (s₁.setTop (entryFrame m #[(.int p0), (.int p1)] maxLocals)) (s₁.setTop (mkF m 34 #[.val (.int p0), .val (.int p1), .val (.int z5), .unset, .unset, .unset, .unset, .unset] [])) := fun t k => G22 t (XS.icmpYes X0.here hx rfl (pc0 := 25) (pc' := 34) rfl (hb hby at_25) rfl (feq hc23).2 (by decide) (by decide) k)
              have G29 : own_Go p.tables e below (s₁.setTop (entryFrame m #[(.int p0), (.int p1)] maxLocals)) (s₁.setTop (mkF m 35 #[.val (.int p0), .val (.int p1), .val (.int z5), .unset, .unset, .unset, .unset, .unset] [(.int p0)])) := fun t k => G28 t (XS.iloadN X0.here hx rfl (hb hby at_34) rfl k)
              have G30 : own_Go p.tables e below (s₁.setTop (entryFrame m #[(.int p0), (.int p1)] maxLocals)) (s₁.setTop (mkF m 37 #[.val (.int p0), .val (.int p1), .val (.int z5), .unset, .unset, .unset, .unset, .unset] [(.int (2147483647 : Int32)), (.int p0)])) := fun t k => G29 t (X0.ldcInt hx hown (mvT hZ (hw _ (List.mem_of_getElem? (i := 0) rfl))) (g := (mkF m 35 #[.val (.int p0), .val (.int p1), .val (.int z5), .unset, .unset, .unset, .unset, .unset] [(.int p0)])) rfl (hb hby at_35) t k)
              have G31 : own_Go p.tables e below (s₁.setTop (entryFrame m #[(.int p0), (.int p1)] maxLocals)) (s₁.setTop (mkF m 38 #[.val (.int p0), .val (.int p1), .val (.int z5), .unset, .unset, .unset, .unset, .unset] [(.int (p0 &&& (2147483647 : Int32)))])) := fun t k => G30 t (XS.iand X0.here hx rfl (hb hby at_37) rfl k)
              have G32 : own_Go p.tables e below (s₁.setTop (entryFrame m #[(.int p0), (.int p1)] maxLocals)) (s₁.setTop (mkF m 39 #[.val (.int p0), .val (.int p1), .val (.int z5), .val (.int (p0 &&& (2147483647 : Int32))), .unset, .unset, .unset, .unset] [])) := fun t k => G31 t (XS.istoreN X0.here hx rfl (hb hby at_38) rfl (l' := #[.val (.int p0), .val (.int p1), .val (.int z5), .val (.int (p0 &&& (2147483647 : Int32))), .unset, .unset, .unset, .unset]) rfl k)
              exact ⟨_, (if_neg hc23).symm, G32⟩
          exact ⟨_, (if_neg hc15).symm, G23⟩
      exact ⟨_, (if_neg hc7).symm, G15⟩
  obtain ⟨T33, h33, X33, e33, E33, A33, D33, U33, st33⟩ := newO X0 hx hZ hown (hw _ (List.mem_of_getElem? (i := 1) rfl)) (hw _ (List.mem_of_getElem? (i := 2) rfl)) (hw _ (List.mem_of_getElem? (i := 3) rfl)) e0 (g := (mkF m 39 #[.val (.int p0), .val (.int p1), .val (.int z5), .val (.int z7_0), .unset, .unset, .unset, .unset] [])) rfl (hb hby at_39) (by decide) (by decide)
  obtain ⟨b33, g33⟩ : ∃ z, z = h0.size := ⟨_, rfl⟩
  rw [← g33] at A33 D33 U33 st33
  have gn_b33 : Z.heap.size ≤ b33 := Nat.le_trans O0.2.1 (Nat.le_of_eq g33.symm)
  have sz_b33 : h0.size ≤ b33 := Nat.le_trans K0.1 (Nat.le_of_eq g33.symm)
  have O33 := O0.ext E33
  have K33 := K0.ext E33
  have hk := Nat.le_trans hk E33.1
  have F33_holds : Fld Z h33 b33 "com/example/koord/koord/model/Attempt" "holds" "I" (.int (0 : Int32)) := D33 (Or.inr (hw _ (List.mem_of_getElem? (i := 56) rfl))) (ty := .int) (by decide)
  have F33_leaseLeft : Fld Z h33 b33 "com/example/koord/koord/model/Attempt" "leaseLeft" "Ljava/util/Optional;" .null := D33 (Or.inr (hw _ (List.mem_of_getElem? (i := 58) rfl))) (ty := (.object "java/util/Optional")) (by decide)
  have G33 : own_Go p.tables e below (s₁.setTop (entryFrame m #[(.int p0), (.int p1)] maxLocals)) (T33.setTop (mkF m 42 #[.val (.int p0), .val (.int p1), .val (.int z5), .val (.int z7_0), .unset, .unset, .unset, .unset] [(.ref b33)])) := fun t k => G7 t (st33 t k)
  have G34 : own_Go p.tables e below (s₁.setTop (entryFrame m #[(.int p0), (.int p1)] maxLocals)) (T33.setTop (mkF m 43 #[.val (.int p0), .val (.int p1), .val (.int z5), .val (.int z7_0), .unset, .unset, .unset, .unset] [(.ref b33), (.ref b33)])) := fun t k => G33 t (XS.dup X33.here hx rfl (hb hby at_42) rfl rfl k)
  have G35 : own_Go p.tables e below (s₁.setTop (entryFrame m #[(.int p0), (.int p1)] maxLocals)) (T33.setTop (mkF m 44 #[.val (.int p0), .val (.int p1), .val (.int z5), .val (.int z7_0), .unset, .unset, .unset, .unset] [(.int z7_0), (.ref b33), (.ref b33)])) := fun t k => G34 t (XS.iloadN X33.here hx rfl (hb hby at_43) rfl k)
  obtain ⟨vv36, _, ⟨T36, L36, k36, n36⟩, -, X36, ⟨Lc36, hQ36, l36, y36, z36⟩, st36⟩ := Jvm.LawKit.callS X33 hx (y := (⟨"java/util/Optional", "empty", "()Ljava/util/Optional;"⟩ : MethodName)) hown (mvT hZ (hw _ (List.mem_of_getElem? (i := 4) rfl))) (mvT hZ (hw _ (List.mem_of_getElem? (i := 5) rfl))) (mvT hZ (hw _ (List.mem_of_getElem? (i := 6) rfl))) (mvT hZ (hw _ (List.mem_of_getElem? (i := 7) rfl))) (by decide) (backOf (W := 3) (rm2 l Z aw hw []  aO h33 (S_O.ext O33.2)) hZ (hw _ (List.mem_of_getElem? (i := 7) rfl)) (hw _ (List.mem_of_getElem? (i := 6) rfl)) (by decide) (by decide)) (g := (mkF m 44 #[.val (.int p0), .val (.int p1), .val (.int z5), .val (.int z7_0), .unset, .unset, .unset, .unset] [(.int z7_0), (.ref b33), (.ref b33)])) rfl (by rw [hml]; rfl) (argsL := []) (rest := [(.int z7_0), (.ref b33), (.ref b33)]) (lenOf pd_0_5 rfl) rfl (by show 2 * 0 + _ ≤ _; exact Nat.le_of_eq rfl) (hb hby at_44) (fun _ _ => ⟨rfl, e33, (by decide : 1 + 0 ≤ _), (by decide : 2 + 0 ≤ _)⟩)
  dsimp only [Pt.U, Pt.locs, Pt.cells, Pt.slots] at X36 l36 y36 z36 st36 hQ36
  subst l36 y36 z36
  obtain ⟨rfl, rfl, e36⟩ := hQ36
  try rw [List.append_nil] at X36
  have G36 : own_Go p.tables e below (s₁.setTop (entryFrame m #[(.int p0), (.int p1)] maxLocals)) (T36.setTop (mkF m 47 #[.val (.int p0), .val (.int p1), .val (.int z5), .val (.int z7_0), .unset, .unset, .unset, .unset] [(.ref aO), (.int z7_0), (.ref b33), (.ref b33)])) := fun t k => G35 t (st36 t k)
  obtain ⟨vv37, _, ⟨T37, L37, k37, n37⟩, -, X37, hSq37, hgr37, ⟨Lc37, hQ37, l37, y37, z37⟩, st37⟩ := X36.specialBackS hx (y := (⟨"com/example/koord/koord/model/Attempt", "<init>", "(ILjava/util/Optional;)V"⟩ : MethodName)) rfl hown (mvT hZ (hw _ (List.mem_of_getElem? (i := 9) rfl))) (mvT hZ (hw _ (List.mem_of_getElem? (i := 10) rfl))) (mvT hZ (hw _ (List.mem_of_getElem? (i := 11) rfl))) (by decide) (backOfS (W := 1) (rm9 l Z aw hw [] b33 z7_0 aO  h33 O33 gn_b33 A33 F33_holds F33_leaseLeft S_O E_O F_O (by rw [hz7_0]; exact own_h _ _)) hZ (hw _ (List.mem_of_getElem? (i := 11) rfl)) (hw _ (List.mem_of_getElem? (i := 3) rfl)) (by decide) (by decide)) (g := (mkF m 47 #[.val (.int p0), .val (.int p1), .val (.int z5), .val (.int z7_0), .unset, .unset, .unset, .unset] [(.ref aO), (.int z7_0), (.ref b33), (.ref b33)])) rfl (by rw [hml]; rfl) (Steps.refl _) (a := b33) (argsL := [(.int z7_0), (.ref aO)]) (rest := [(.ref b33)]) (lenOf pd_0_6 rfl) rfl (by show 2 * 0 + _ ≤ _; exact Nat.le_of_eq rfl) (hb hby at_47) (fun _ _ => ⟨rfl, e36, (by decide : 1 + 2 ≤ _), (by decide : 2 + 40 ≤ _)⟩)
  dsimp only [Pt.U, Pt.locs, Pt.cells, Pt.slots] at X37 l37 y37 z37 st37 hQ37 hSq37 hgr37
  subst l37 y37 z37
  have hS := foldS hS (by rw [e36]; exact hk) hSq37 hgr37
  have hZ : Z.Warmed39 (s.setVm T37.vm).vm := State.Warmed39.trans (t := (s.setVm s.vm)) hZ hSq37.1
  have hown : (s.setVm T37.vm).vm.findClass "com/example/koord/koord/model/AttemptGrantedPinLaw" = some m.cls := by rw [show (s.setVm T37.vm).vm = T37.vm from rfl, hSq37.1.alike.findClass]; exact hown
  obtain ⟨rfl, Nq37, Kq37, g37_0, g37_1⟩ := hQ37
  have N37 := Fr.app N0 Nq37
  have O37 := O33.keep Kq37 (allS gn_b33 all0)
  have K37 := K33.trans Kq37 (allS (Or.inr sz_b33) all0)
  have X37 : Stand p l e room_1 (s.setVm T37.vm) m #[(.int p0), (.int p1)] below meth c T37 _ _ _ := X37
  have hk := Nat.le_refl T37.heap.size
  have G37 : own_Go p.tables e below (s₁.setTop (entryFrame m #[(.int p0), (.int p1)] maxLocals)) (T37.setTop (mkF m 50 #[.val (.int p0), .val (.int p1), .val (.int z5), .val (.int z7_0), .unset, .unset, .unset, .unset] [(.ref b33)])) := fun t k => G36 t (st37.trans k)
  have G38 : own_Go p.tables e below (s₁.setTop (entryFrame m #[(.int p0), (.int p1)] maxLocals)) (T37.setTop (mkF m 52 #[.val (.int p0), .val (.int p1), .val (.int z5), .val (.int z7_0), .val (.ref b33), .unset, .unset, .unset] [])) := fun t k => G37 t (XS.astore X37.here hx rfl (hb hby at_50) rfl rfl (l' := #[.val (.int p0), .val (.int p1), .val (.int z5), .val (.int z7_0), .val (.ref b33), .unset, .unset, .unset]) rfl k)
  have G39 : own_Go p.tables e below (s₁.setTop (entryFrame m #[(.int p0), (.int p1)] maxLocals)) (T37.setTop (mkF m 53 #[.val (.int p0), .val (.int p1), .val (.int z5), .val (.int z7_0), .val (.ref b33), .unset, .unset, .unset] [(.int z7_0)])) := fun t k => G38 t (XS.iloadN X37.here hx rfl (hb hby at_52) rfl k)
  obtain ⟨z40_0, hz40_0, G40⟩ : ∃ (z40_0 : Int32), z40_0 = (if z7_0 = (0 : Int32) then (0 : Int32) else (1 : Int32)) ∧ own_Go p.tables e below (s₁.setTop (entryFrame m #[(.int p0), (.int p1)] maxLocals)) (T37.setTop (mkF m 61 #[.val (.int p0), .val (.int p1), .val (.int z5), .val (.int z7_0), .val (.ref b33), .unset, .unset, .unset] [(.int z40_0)])) := by
    by_cases hc40 : z7_0 = (0 : Int32)
    · have G41 : own_Go p.tables e below (s₁.setTop (entryFrame m #[(.int p0), (.int p1)] maxLocals)) (T37.setTop (mkF m 60 #[.val (.int p0), .val (.int p1), .val (.int z5), .val (.int z7_0), .val (.ref b33), .unset, .unset, .unset] [])) := fun t k => G39 t (XS.ifYes X37.here hx rfl (pc0 := 53) (pc' := 60) rfl (hb hby at_53) rfl ((if0 _ _).trans (teq hc40).1) (by decide) (by decide) k)
      have G42 : own_Go p.tables e below (s₁.setTop (entryFrame m #[(.int p0), (.int p1)] maxLocals)) (T37.setTop (mkF m 61 #[.val (.int p0), .val (.int p1), .val (.int z5), .val (.int z7_0), .val (.ref b33), .unset, .unset, .unset] [(.int (0 : Int32))])) := fun t k => G41 t (XT.iconstV X37.here hx rfl (0 : Int32) (hb hby at_60) (by decide) k)
      exact ⟨_, (if_pos hc40).symm, G42⟩
    · have G43 : own_Go p.tables e below (s₁.setTop (entryFrame m #[(.int p0), (.int p1)] maxLocals)) (T37.setTop (mkF m 56 #[.val (.int p0), .val (.int p1), .val (.int z5), .val (.int z7_0), .val (.ref b33), .unset, .unset, .unset] [])) := fun t k => G39 t (XS.ifNo X37.here hx rfl (hb hby at_53) rfl ((if0 _ _).trans (feq hc40).1) k)
      have G44 : own_Go p.tables e below (s₁.setTop (entryFrame m #[(.int p0), (.int p1)] maxLocals)) (T37.setTop (mkF m 57 #[.val (.int p0), .val (.int p1), .val (.int z5), .val (.int z7_0), .val (.ref b33), .unset, .unset, .unset] [(.int (1 : Int32))])) := fun t k => G43 t (XT.iconstV X37.here hx rfl (1 : Int32) (hb hby at_56) (by decide) k)
      have G45 : own_Go p.tables e below (s₁.setTop (entryFrame m #[(.int p0), (.int p1)] maxLocals)) (T37.setTop (mkF m 61 #[.val (.int p0), .val (.int p1), .val (.int z5), .val (.int z7_0), .val (.ref b33), .unset, .unset, .unset] [(.int (1 : Int32))])) := fun t k => G44 t (XS.goto X37.here hx rfl (pc0 := 57) (pc' := 61) rfl (hb hby at_57) (by decide) (by decide) k)
      exact ⟨_, (if_neg hc40).symm, G45⟩
  have G46 : own_Go p.tables e below (s₁.setTop (entryFrame m #[(.int p0), (.int p1)] maxLocals)) (T37.setTop (mkF m 63 #[.val (.int p0), .val (.int p1), .val (.int z5), .val (.int z7_0), .val (.ref b33), .val (.int z40_0), .unset, .unset] [])) := fun t k => G40 t (XS.istore X37.here hx rfl (hb hby at_61) rfl (l' := #[.val (.int p0), .val (.int p1), .val (.int z5), .val (.int z7_0), .val (.ref b33), .val (.int z40_0), .unset, .unset]) rfl k)
  have G47 : own_Go p.tables e below (s₁.setTop (entryFrame m #[(.int p0), (.int p1)] maxLocals)) (T37.setTop (mkF m 64 #[.val (.int p0), .val (.int p1), .val (.int z5), .val (.int z7_0), .val (.ref b33), .val (.int z40_0), .unset, .unset] [(.int (1 : Int32))])) := fun t k => G46 t (XT.iconstV X37.here hx rfl (1 : Int32) (hb hby at_63) (by decide) k)
  have G48 : own_Go p.tables e below (s₁.setTop (entryFrame m #[(.int p0), (.int p1)] maxLocals)) (T37.setTop (mkF m 65 #[.val (.int p0), .val (.int p1), .val (.int z5), .val (.int z7_0), .val (.ref b33), .val (.int z40_0), .unset, .unset] [(.int p0), (.int (1 : Int32))])) := fun t k => G47 t (XS.iloadN X37.here hx rfl (hb hby at_64) rfl k)
  have G49 : own_Go p.tables e below (s₁.setTop (entryFrame m #[(.int p0), (.int p1)] maxLocals)) (T37.setTop (mkF m 67 #[.val (.int p0), .val (.int p1), .val (.int z5), .val (.int z7_0), .val (.ref b33), .val (.int z40_0), .unset, .unset] [(.int (2147483647 : Int32)), (.int p0), (.int (1 : Int32))])) := fun t k => G48 t (X37.ldcInt hx hown (mvT hZ (hw _ (List.mem_of_getElem? (i := 0) rfl))) (g := (mkF m 65 #[.val (.int p0), .val (.int p1), .val (.int z5), .val (.int z7_0), .val (.ref b33), .val (.int z40_0), .unset, .unset] [(.int p0), (.int (1 : Int32))])) rfl (hb hby at_65) t k)
  have G50 : own_Go p.tables e below (s₁.setTop (entryFrame m #[(.int p0), (.int p1)] maxLocals)) (T37.setTop (mkF m 68 #[.val (.int p0), .val (.int p1), .val (.int z5), .val (.int z7_0), .val (.ref b33), .val (.int z40_0), .unset, .unset] [(.int (p0 &&& (2147483647 : Int32))), (.int (1 : Int32))])) := fun t k => G49 t (XS.iand X37.here hx rfl (hb hby at_67) rfl k)
  obtain ⟨vv51, _, ⟨T51, L51, k51, n51⟩, -, X51, ⟨Lc51, hQ51, l51, y51, z51⟩, st51⟩ := Jvm.LawKit.callS X37 hx (y := (⟨"java/lang/Math", "max", "(II)I"⟩ : MethodName)) hown (mvT hZ (hw _ (List.mem_of_getElem? (i := 59) rfl))) (mvT hZ (hw _ (List.mem_of_getElem? (i := 60) rfl))) (mvT hZ (hw _ (List.mem_of_getElem? (i := 61) rfl))) (mvT hZ (hw _ (List.mem_of_getElem? (i := 62) rfl))) (by decide) (backOf (W := 0) (rm1 l Z aw hw [] (1 : Int32) (p0 &&& (2147483647 : Int32))  T37.heap ) hZ (hw _ (List.mem_of_getElem? (i := 62) rfl)) (hw _ (List.mem_of_getElem? (i := 61) rfl)) (by decide) (by decide)) (g := (mkF m 68 #[.val (.int p0), .val (.int p1), .val (.int z5), .val (.int z7_0), .val (.ref b33), .val (.int z40_0), .unset, .unset] [(.int (p0 &&& (2147483647 : Int32))), (.int (1 : Int32))])) rfl (by rw [hml]; rfl) (argsL := [(.int (1 : Int32)), (.int (p0 &&& (2147483647 : Int32)))]) (rest := []) (lenOf pd_0_7 rfl) rfl (by show 2 * 0 + _ ≤ _; exact Nat.le_of_eq rfl) (hb hby at_68) (fun _ _ => ⟨rfl, rfl, (by decide : 3 + 0 ≤ _), (by decide : 42 + 0 ≤ _)⟩)
  dsimp only [Pt.U, Pt.locs, Pt.cells, Pt.slots] at X51 l51 y51 z51 st51 hQ51
  subst l51 y51 z51
  obtain ⟨rfl, rfl, e51⟩ := hQ51
  try rw [List.append_nil] at X51
  have G51 : own_Go p.tables e below (s₁.setTop (entryFrame m #[(.int p0), (.int p1)] maxLocals)) (T51.setTop (mkF m 71 #[.val (.int p0), .val (.int p1), .val (.int z5), .val (.int z7_0), .val (.ref b33), .val (.int z40_0), .unset, .unset] [(.int (own_max (1 : Int32) (p0 &&& (2147483647 : Int32))))])) := fun t k => G50 t (st51 t k)
  obtain ⟨vv52, _, ⟨T52, L52, k52, n52⟩, -, X52, hSq52, hgr52, ⟨Lc52, hQ52, l52, y52, z52⟩, st52⟩ := Jvm.RoadKit.callSS X51 hx (y := (⟨"com/example/koord/koord/model/Attempt", "granted", "(I)Lcom/example/koord/koord/model/Attempt;"⟩ : MethodName)) hown (mvT hZ (hw _ (List.mem_of_getElem? (i := 63) rfl))) (mvT hZ (hw _ (List.mem_of_getElem? (i := 64) rfl))) (mvT hZ (hw _ (List.mem_of_getElem? (i := 3) rfl))) (mvT hZ (hw _ (List.mem_of_getElem? (i := 65) rfl))) (by decide) (backOfS (W := 0) (rm10 l Z aw hw [] (own_max (1 : Int32) (p0 &&& (2147483647 : Int32))) aO T37.heap O37   S_O E_O F_O (own_max_pos _)) hZ (hw _ (List.mem_of_getElem? (i := 65) rfl)) (hw _ (List.mem_of_getElem? (i := 3) rfl)) (by decide) (by decide)) (g := (mkF m 71 #[.val (.int p0), .val (.int p1), .val (.int z5), .val (.int z7_0), .val (.ref b33), .val (.int z40_0), .unset, .unset] [(.int (own_max (1 : Int32) (p0 &&& (2147483647 : Int32))))])) rfl (by rw [hml]; rfl) (argsL := [(.int (own_max (1 : Int32) (p0 &&& (2147483647 : Int32))))]) (rest := []) (lenOf pd_0_8 rfl) rfl (by show 2 * 0 + _ ≤ _; exact Nat.le_of_eq rfl) (hb hby at_71) (fun _ _ => ⟨rfl, e51, (by decide : 3 + 3 ≤ _), (by decide : 42 + 42 ≤ _)⟩)
  dsimp only [Pt.U, Pt.locs, Pt.cells, Pt.slots] at X52 l52 y52 z52 st52 hQ52 hSq52 hgr52
  subst l52 y52 z52
  have hS := foldS hS (by rw [e51]; exact hk) hSq52 hgr52
  have hZ : Z.Warmed39 (s.setVm T52.vm).vm := State.Warmed39.trans (t := (s.setVm T37.vm)) hZ hSq52.1
  have hown : (s.setVm T52.vm).vm.findClass "com/example/koord/koord/model/AttemptGrantedPinLaw" = some m.cls := by rw [show (s.setVm T52.vm).vm = T52.vm from rfl, hSq52.1.alike.findClass]; exact hown
  obtain ⟨r52, rfl, Nq52, Kq52, gn_r52, szq_r52, ra52_0, ra52_1⟩ := hQ52
  have ne_b33_r52 : b33 ≠ r52 := Nat.ne_of_lt (Nat.lt_of_lt_of_le g37_0.lt szq_r52)
  have sz_r52 : h0.size ≤ r52 := Nat.le_trans K37.1 szq_r52
  have N52 := Fr.app N37 Nq52
  have O52 := O37.keep Kq52 all0
  have K52 := K37.trans Kq52 all0
  have X52 : Stand p l e room_1 (s.setVm T52.vm) m #[(.int p0), (.int p1)] below meth c T52 _ _ _ := X52
  have hk := Nat.le_refl T52.heap.size
  have G52 : own_Go p.tables e below (s₁.setTop (entryFrame m #[(.int p0), (.int p1)] maxLocals)) (T52.setTop (mkF m 74 #[.val (.int p0), .val (.int p1), .val (.int z5), .val (.int z7_0), .val (.ref b33), .val (.int z40_0), .unset, .unset] [(.ref r52)])) := fun t k => G51 t (st52.trans k)
  have G53 : own_Go p.tables e below (s₁.setTop (entryFrame m #[(.int p0), (.int p1)] maxLocals)) (T52.setTop (mkF m 76 #[.val (.int p0), .val (.int p1), .val (.int z5), .val (.int z7_0), .val (.ref b33), .val (.int z40_0), .val (.ref r52), .unset] [])) := fun t k => G52 t (XS.astore X52.here hx rfl (hb hby at_74) rfl rfl (l' := #[.val (.int p0), .val (.int p1), .val (.int z5), .val (.int z7_0), .val (.ref b33), .val (.int z40_0), .val (.ref r52), .unset]) rfl k)
  obtain ⟨vv54, _, ⟨T54, L54, k54, n54⟩, -, X54, ⟨Lc54, hQ54, l54, y54, z54⟩, st54⟩ := Jvm.LawKit.callS X52 hx (y := (⟨"java/util/Optional", "empty", "()Ljava/util/Optional;"⟩ : MethodName)) hown (mvT hZ (hw _ (List.mem_of_getElem? (i := 4) rfl))) (mvT hZ (hw _ (List.mem_of_getElem? (i := 5) rfl))) (mvT hZ (hw _ (List.mem_of_getElem? (i := 6) rfl))) (mvT hZ (hw _ (List.mem_of_getElem? (i := 7) rfl))) (by decide) (backOf (W := 0) (rm2 l Z aw hw []  aO T52.heap (S_O.ext O52.2)) hZ (hw _ (List.mem_of_getElem? (i := 7) rfl)) (hw _ (List.mem_of_getElem? (i := 6) rfl)) (by decide) (by decide)) (g := (mkF m 76 #[.val (.int p0), .val (.int p1), .val (.int z5), .val (.int z7_0), .val (.ref b33), .val (.int z40_0), .val (.ref r52), .unset] [])) rfl (by rw [hml]; rfl) (argsL := []) (rest := []) (lenOf pd_0_5 rfl) rfl (by show 2 * 0 + _ ≤ _; exact Nat.le_of_eq rfl) (hb hby at_76) (fun _ _ => ⟨rfl, rfl, (by decide : 6 + 0 ≤ _), (by decide : 84 + 0 ≤ _)⟩)
  dsimp only [Pt.U, Pt.locs, Pt.cells, Pt.slots] at X54 l54 y54 z54 st54 hQ54
  subst l54 y54 z54
  obtain ⟨rfl, rfl, e54⟩ := hQ54
  try rw [List.append_nil] at X54
  have G54 : own_Go p.tables e below (s₁.setTop (entryFrame m #[(.int p0), (.int p1)] maxLocals)) (T54.setTop (mkF m 79 #[.val (.int p0), .val (.int p1), .val (.int z5), .val (.int z7_0), .val (.ref b33), .val (.int z40_0), .val (.ref r52), .unset] [(.ref aO)])) := fun t k => G53 t (st54 t k)
  obtain ⟨vv55, _, ⟨T55, L55, k55, n55⟩, -, X55, hSq55, hgr55, ⟨Lc55, hQ55, l55, y55, z55⟩, st55⟩ := Jvm.RoadKit.callSS X54 hx (y := (⟨"com/example/koord/koord/model/Attempt", "refused", "(Ljava/util/Optional;)Lcom/example/koord/koord/model/Attempt;"⟩ : MethodName)) hown (mvT hZ (hw _ (List.mem_of_getElem? (i := 69) rfl))) (mvT hZ (hw _ (List.mem_of_getElem? (i := 70) rfl))) (mvT hZ (hw _ (List.mem_of_getElem? (i := 3) rfl))) (mvT hZ (hw _ (List.mem_of_getElem? (i := 71) rfl))) (by decide) (backOfS (W := 0) (rm11 l Z aw hw [] aO  T52.heap O52   S_O E_O F_O) hZ (hw _ (List.mem_of_getElem? (i := 71) rfl)) (hw _ (List.mem_of_getElem? (i := 3) rfl)) (by decide) (by decide)) (g := (mkF m 79 #[.val (.int p0), .val (.int p1), .val (.int z5), .val (.int z7_0), .val (.ref b33), .val (.int z40_0), .val (.ref r52), .unset] [(.ref aO)])) rfl (by rw [hml]; rfl) (argsL := [(.ref aO)]) (rest := []) (lenOf pd_0_9 rfl) rfl (by show 2 * 0 + _ ≤ _; exact Nat.le_of_eq rfl) (hb hby at_79) (fun _ _ => ⟨rfl, e54, (by decide : 6 + 3 ≤ _), (by decide : 84 + 42 ≤ _)⟩)
  dsimp only [Pt.U, Pt.locs, Pt.cells, Pt.slots] at X55 l55 y55 z55 st55 hQ55 hSq55 hgr55
  subst l55 y55 z55
  have hS := foldS hS (by rw [e54]; exact hk) hSq55 hgr55
  have hZ : Z.Warmed39 (s.setVm T55.vm).vm := State.Warmed39.trans (t := (s.setVm T52.vm)) hZ hSq55.1
  have hown : (s.setVm T55.vm).vm.findClass "com/example/koord/koord/model/AttemptGrantedPinLaw" = some m.cls := by rw [show (s.setVm T55.vm).vm = T55.vm from rfl, hSq55.1.alike.findClass]; exact hown
  obtain ⟨r55, rfl, Nq55, Kq55, gn_r55, szq_r55, ra55_0, ra55_1⟩ := hQ55
  have f56 : Exa Z T52.heap b33 "com/example/koord/koord/model/Attempt" := (g37_0.keep Kq52)
  have ne_b33_r55 : b33 ≠ r55 := Nat.ne_of_lt (Nat.lt_of_lt_of_le f56.lt szq_r55)
  have ne_r52_r55 : r52 ≠ r55 := Nat.ne_of_lt (Nat.lt_of_lt_of_le ra52_0.lt szq_r55)
  have sz_r55 : h0.size ≤ r55 := Nat.le_trans K52.1 szq_r55
  have N55 := Fr.app N52 Nq55
  have O55 := O52.keep Kq55 all0
  have K55 := K52.trans Kq55 all0
  have X55 : Stand p l e room_1 (s.setVm T55.vm) m #[(.int p0), (.int p1)] below meth c T55 _ _ _ := X55
  have hk := Nat.le_refl T55.heap.size
  have G55 : own_Go p.tables e below (s₁.setTop (entryFrame m #[(.int p0), (.int p1)] maxLocals)) (T55.setTop (mkF m 82 #[.val (.int p0), .val (.int p1), .val (.int z5), .val (.int z7_0), .val (.ref b33), .val (.int z40_0), .val (.ref r52), .unset] [(.ref r55)])) := fun t k => G54 t (st55.trans k)
  have G57 : own_Go p.tables e below (s₁.setTop (entryFrame m #[(.int p0), (.int p1)] maxLocals)) (T55.setTop (mkF m 84 #[.val (.int p0), .val (.int p1), .val (.int z5), .val (.int z7_0), .val (.ref b33), .val (.int z40_0), .val (.ref r52), .val (.ref r55)] [])) := fun t k => G55 t (XS.astore X55.here hx rfl (hb hby at_82) rfl rfl (l' := #[.val (.int p0), .val (.int p1), .val (.int z5), .val (.int z7_0), .val (.ref b33), .val (.int z40_0), .val (.ref r52), .val (.ref r55)]) rfl k)
  have G58 : own_Go p.tables e below (s₁.setTop (entryFrame m #[(.int p0), (.int p1)] maxLocals)) (T55.setTop (mkF m 86 #[.val (.int p0), .val (.int p1), .val (.int z5), .val (.int z7_0), .val (.ref b33), .val (.int z40_0), .val (.ref r52), .val (.ref r55)] [(.ref b33)])) := fun t k => G57 t (XS.aload X55.here hx rfl (hb hby at_84) rfl rfl k)
  have f59 : Exa Z T55.heap b33 "com/example/koord/koord/model/Attempt" := (f56.keep Kq55)
  have f60 : Fld Z T55.heap b33 "com/example/koord/koord/model/Attempt" "holds" "I" (.int z7_0) := ((g37_1.keep Kq52 nin0).keep Kq55 nin0)
  obtain ⟨cq61, kq61, q61a, q61b, q61c⟩ := isOf hZ rfl f59
  obtain ⟨vv61, _, ⟨T61, L61, k61, n61⟩, -, X61, ⟨Lc61, hQ61, l61, y61, z61⟩, st61⟩ := X55.virtualBack hx (y := (⟨"com/example/koord/koord/model/Attempt", "granted", "()Z"⟩ : MethodName)) (z := (⟨"com/example/koord/koord/model/Attempt", "granted", "()Z"⟩ : MethodName)) hown (mvT hZ (hw _ (List.mem_of_getElem? (i := 72) rfl))) (mvT hZ (hw _ (List.mem_of_getElem? (i := 73) rfl))) (notFace_of_selects (args := #[]) (mvT hZ (hw _ (List.mem_of_getElem? (i := 75) rfl)))) (mvT hZ (hw _ (List.mem_of_getElem? (i := 75) rfl))) (mvT hZ (hw _ (List.mem_of_getElem? (i := 74) rfl))) (by decide) (backOf (W := 0) (rm13 l Z aw hw [] b33 z7_0 T55.heap f60) hZ (hw _ (List.mem_of_getElem? (i := 76) rfl)) (hw _ (List.mem_of_getElem? (i := 3) rfl)) (by decide) (by decide)) q61a q61c (g := (mkF m 86 #[.val (.int p0), .val (.int p1), .val (.int z5), .val (.int z7_0), .val (.ref b33), .val (.int z40_0), .val (.ref r52), .val (.ref r55)] [(.ref b33)])) rfl (by rw [hml]; rfl) (Steps.refl _) (argsL := []) (rest := []) (lenOf pd_0_1 rfl) rfl (by show 2 * 0 + _ ≤ _; exact Nat.le_of_eq rfl) (hb hby at_86) (fun _ _ => ⟨rfl, rfl, (by decide : 9 + 0 ≤ _), (by decide : 126 + 0 ≤ _)⟩)
  dsimp only [Pt.U, Pt.locs, Pt.cells, Pt.slots] at X61 l61 y61 z61 st61 hQ61
  subst l61 y61 z61
  obtain ⟨rfl, rfl, e61⟩ := hQ61
  try rw [List.append_nil] at X61
  have G61 : own_Go p.tables e below (s₁.setTop (entryFrame m #[(.int p0), (.int p1)] maxLocals)) (T61.setTop (mkF m 89 #[.val (.int p0), .val (.int p1), .val (.int z5), .val (.int z7_0), .val (.ref b33), .val (.int z40_0), .val (.ref r52), .val (.ref r55)] [(.int (if (0 : Int32) < z7_0 then (1 : Int32) else (0 : Int32)))])) := fun t k => G58 t (st61.trans k)
  have G62 : own_Go p.tables e below (s₁.setTop (entryFrame m #[(.int p0), (.int p1)] maxLocals)) (T61.setTop (mkF m 91 #[.val (.int p0), .val (.int p1), .val (.int z5), .val (.int z7_0), .val (.ref b33), .val (.int z40_0), .val (.ref r52), .val (.ref r55)] [(.int z40_0), (.int (if (0 : Int32) < z7_0 then (1 : Int32) else (0 : Int32)))])) := fun t k => G61 t (XS.iload X61.here hx rfl (hb hby at_89) rfl k)
  have hk63 : (if (0 : Int32) < z7_0 then (1 : Int32) else (0 : Int32)) = z40_0 := by rw [hz40_0]; exact own_exp (by rw [hz7_0]; exact own_h _ _)
  have G64 : own_Go p.tables e below (s₁.setTop (entryFrame m #[(.int p0), (.int p1)] maxLocals)) (T61.setTop (mkF m 94 #[.val (.int p0), .val (.int p1), .val (.int z5), .val (.int z7_0), .val (.ref b33), .val (.int z40_0), .val (.ref r52), .val (.ref r55)] [])) := fun t k => G62 t (XS.icmpNo X61.here hx rfl (hb hby at_91) rfl (teq hk63).2 k)
  have G65 : own_Go p.tables e below (s₁.setTop (entryFrame m #[(.int p0), (.int p1)] maxLocals)) (T61.setTop (mkF m 96 #[.val (.int p0), .val (.int p1), .val (.int z5), .val (.int z7_0), .val (.ref b33), .val (.int z40_0), .val (.ref r52), .val (.ref r55)] [(.ref r52)])) := fun t k => G64 t (XS.aload X61.here hx rfl (hb hby at_94) rfl rfl k)
  have f66 : Exa Z T55.heap r52 "com/example/koord/koord/model/Attempt" := (ra52_0.keep Kq55)
  have f67 : Fld Z T55.heap r52 "com/example/koord/koord/model/Attempt" "holds" "I" (.int (own_max (1 : Int32) (p0 &&& (2147483647 : Int32)))) := (ra52_1.keep Kq55 nin0)
  obtain ⟨cq68, kq68, q68a, q68b, q68c⟩ := isOf hZ e61 f66
  obtain ⟨vv68, _, ⟨T68, L68, k68, n68⟩, -, X68, ⟨Lc68, hQ68, l68, y68, z68⟩, st68⟩ := X61.virtualBack hx (y := (⟨"com/example/koord/koord/model/Attempt", "granted", "()Z"⟩ : MethodName)) (z := (⟨"com/example/koord/koord/model/Attempt", "granted", "()Z"⟩ : MethodName)) hown (mvT hZ (hw _ (List.mem_of_getElem? (i := 72) rfl))) (mvT hZ (hw _ (List.mem_of_getElem? (i := 73) rfl))) (notFace_of_selects (args := #[]) (mvT hZ (hw _ (List.mem_of_getElem? (i := 75) rfl)))) (mvT hZ (hw _ (List.mem_of_getElem? (i := 75) rfl))) (mvT hZ (hw _ (List.mem_of_getElem? (i := 74) rfl))) (by decide) (backOf (W := 0) (rm13 l Z aw hw [] r52 (own_max (1 : Int32) (p0 &&& (2147483647 : Int32))) T55.heap f67) hZ (hw _ (List.mem_of_getElem? (i := 76) rfl)) (hw _ (List.mem_of_getElem? (i := 3) rfl)) (by decide) (by decide)) q68a q68c (g := (mkF m 96 #[.val (.int p0), .val (.int p1), .val (.int z5), .val (.int z7_0), .val (.ref b33), .val (.int z40_0), .val (.ref r52), .val (.ref r55)] [(.ref r52)])) rfl (by rw [hml]; rfl) (Steps.refl _) (argsL := []) (rest := []) (lenOf pd_0_1 rfl) rfl (by show 2 * 0 + _ ≤ _; exact Nat.le_of_eq rfl) (hb hby at_96) (fun _ _ => ⟨rfl, e61, (by decide : 9 + 0 ≤ _), (by decide : 126 + 0 ≤ _)⟩)
  dsimp only [Pt.U, Pt.locs, Pt.cells, Pt.slots] at X68 l68 y68 z68 st68 hQ68
  subst l68 y68 z68
  obtain ⟨rfl, rfl, e68⟩ := hQ68
  try rw [List.append_nil] at X68
  have G68 : own_Go p.tables e below (s₁.setTop (entryFrame m #[(.int p0), (.int p1)] maxLocals)) (T68.setTop (mkF m 99 #[.val (.int p0), .val (.int p1), .val (.int z5), .val (.int z7_0), .val (.ref b33), .val (.int z40_0), .val (.ref r52), .val (.ref r55)] [(.int (if (0 : Int32) < (own_max (1 : Int32) (p0 &&& (2147483647 : Int32))) then (1 : Int32) else (0 : Int32)))])) := fun t k => G65 t (st68.trans k)
  have hk69 : ¬ ((if (0 : Int32) < (own_max (1 : Int32) (p0 &&& (2147483647 : Int32))) then (1 : Int32) else (0 : Int32)) = (0 : Int32)) := by rw [if_pos (own_pos (own_max_pos _))]; decide
  have G70 : own_Go p.tables e below (s₁.setTop (entryFrame m #[(.int p0), (.int p1)] maxLocals)) (T68.setTop (mkF m 102 #[.val (.int p0), .val (.int p1), .val (.int z5), .val (.int z7_0), .val (.ref b33), .val (.int z40_0), .val (.ref r52), .val (.ref r55)] [])) := fun t k => G68 t (XS.ifNo X68.here hx rfl (hb hby at_99) rfl ((if0 _ _).trans (feq hk69).1) k)
  have G71 : own_Go p.tables e below (s₁.setTop (entryFrame m #[(.int p0), (.int p1)] maxLocals)) (T68.setTop (mkF m 104 #[.val (.int p0), .val (.int p1), .val (.int z5), .val (.int z7_0), .val (.ref b33), .val (.int z40_0), .val (.ref r52), .val (.ref r55)] [(.ref r55)])) := fun t k => G70 t (XS.aload X68.here hx rfl (hb hby at_102) rfl rfl k)
  obtain ⟨cq72, kq72, q72a, q72b, q72c⟩ := isOf hZ e68 ra55_0
  obtain ⟨vv72, _, ⟨T72, L72, k72, n72⟩, -, X72, ⟨Lc72, hQ72, l72, y72, z72⟩, st72⟩ := X68.virtualBack hx (y := (⟨"com/example/koord/koord/model/Attempt", "granted", "()Z"⟩ : MethodName)) (z := (⟨"com/example/koord/koord/model/Attempt", "granted", "()Z"⟩ : MethodName)) hown (mvT hZ (hw _ (List.mem_of_getElem? (i := 72) rfl))) (mvT hZ (hw _ (List.mem_of_getElem? (i := 73) rfl))) (notFace_of_selects (args := #[]) (mvT hZ (hw _ (List.mem_of_getElem? (i := 75) rfl)))) (mvT hZ (hw _ (List.mem_of_getElem? (i := 75) rfl))) (mvT hZ (hw _ (List.mem_of_getElem? (i := 74) rfl))) (by decide) (backOf (W := 0) (rm13 l Z aw hw [] r55 (0 : Int32) T55.heap ra55_1) hZ (hw _ (List.mem_of_getElem? (i := 76) rfl)) (hw _ (List.mem_of_getElem? (i := 3) rfl)) (by decide) (by decide)) q72a q72c (g := (mkF m 104 #[.val (.int p0), .val (.int p1), .val (.int z5), .val (.int z7_0), .val (.ref b33), .val (.int z40_0), .val (.ref r52), .val (.ref r55)] [(.ref r55)])) rfl (by rw [hml]; rfl) (Steps.refl _) (argsL := []) (rest := []) (lenOf pd_0_1 rfl) rfl (by show 2 * 0 + _ ≤ _; exact Nat.le_of_eq rfl) (hb hby at_104) (fun _ _ => ⟨rfl, e68, (by decide : 9 + 0 ≤ _), (by decide : 126 + 0 ≤ _)⟩)
  dsimp only [Pt.U, Pt.locs, Pt.cells, Pt.slots] at X72 l72 y72 z72 st72 hQ72
  subst l72 y72 z72
  obtain ⟨rfl, rfl, e72⟩ := hQ72
  try rw [List.append_nil] at X72
  have G72 : own_Go p.tables e below (s₁.setTop (entryFrame m #[(.int p0), (.int p1)] maxLocals)) (T72.setTop (mkF m 107 #[.val (.int p0), .val (.int p1), .val (.int z5), .val (.int z7_0), .val (.ref b33), .val (.int z40_0), .val (.ref r52), .val (.ref r55)] [(.int (if (0 : Int32) < (0 : Int32) then (1 : Int32) else (0 : Int32)))])) := fun t k => G71 t (st72.trans k)
  have hk73 : (if (0 : Int32) < (0 : Int32) then (1 : Int32) else (0 : Int32)) = (0 : Int32) := by decide
  have G74 : own_Go p.tables e below (s₁.setTop (entryFrame m #[(.int p0), (.int p1)] maxLocals)) (T72.setTop (mkF m 110 #[.val (.int p0), .val (.int p1), .val (.int z5), .val (.int z7_0), .val (.ref b33), .val (.int z40_0), .val (.ref r52), .val (.ref r55)] [])) := fun t k => G72 t (XS.ifNo X72.here hx rfl (hb hby at_107) rfl ((if0 _ _).trans (teq hk73).2) k)
  have G75 : own_Go p.tables e below (s₁.setTop (entryFrame m #[(.int p0), (.int p1)] maxLocals)) (T72.setTop (mkF m 111 #[.val (.int p0), .val (.int p1), .val (.int z5), .val (.int z7_0), .val (.ref b33), .val (.int z40_0), .val (.ref r52), .val (.ref r55)] [(.int (1 : Int32))])) := fun t k => G74 t (XT.iconstV X72.here hx rfl (1 : Int32) (hb hby at_110) (by decide) k)
  have G76 : own_Go p.tables e below (s₁.setTop (entryFrame m #[(.int p0), (.int p1)] maxLocals)) (T72.setTop (mkF m 115 #[.val (.int p0), .val (.int p1), .val (.int z5), .val (.int z7_0), .val (.ref b33), .val (.int z40_0), .val (.ref r52), .val (.ref r55)] [(.int (1 : Int32))])) := fun t k => G75 t (XS.goto X72.here hx rfl (pc0 := 111) (pc' := 115) rfl (hb hby at_111) (by decide) (by decide) k)
  obtain ⟨fs, hr, hrun, hended, hW⟩ := X72.leaveW hS (by rw [e72]; exact hk) (v := some (.int (nar .boolean (1 : Int32)))) (fun h => by rw [Bd.returns] at h; cases h)
  refine ⟨_, _, G76 _ ?_, hrun, hended, _, _, rfl, ?_, ⟨_, rfl⟩, hW.2.1, hW.2.2.1, hW.2.2.2.mono (by decide) (by decide)⟩
  · exact retN X72 hx (t := .boolean) Bd.returns (by simp) (hb hby at_115) hr
  · show Q0 Z p0 p1 aO h0 _ T72.heap _
    rw [e72]
    exact ⟨rfl, N55, K55⟩
set_option maxRecDepth 65536 in
set_option maxHeartbeats 40000000 in
theorem comes_1 {Post : Tables → Env → Array Value → State → Outcome → State → Prop} (hpost : ∀ tb e args s v u, (limb_1_1.after args s (.returned v) u = true ∧ limb_1_2.after args s (.returned v) u = true ∧ True) → ReturnedEndW s (.returned v) u (Jvm.fieldLocs frame_1_writes args s ++ Jvm.arrayLocs frame_1_arrays args s ++ Jvm.staticLocs frame_1_statics s) 16 1152 → Post tb e args s (.returned v) u) :
    ArmFor flags0 classFile x code maxLocals ret World_1 tables_1 room_1 Calls_1 rest_1 Pre_1 Post := by
  intro l hfl _ _ p e ha hc hk s m args below hf hA hF happ hP
  obtain ⟨hcalls, hrest, hpre⟩ := hP
  obtain ⟨-, -, -, hnamed, -, -, -, hat⟩ := (Spec.applies_iff hf).mp happ
  obtain ⟨hg, hn⟩ := and_e (Cond.before_iff.mp (show (Jvm.Cond.and given_1 narrow_1).before args s = true from hpre))
  obtain ⟨ga1, gb1⟩ := and_e hg
  obtain ⟨ga2, gb2⟩ := and_e gb1
  obtain ⟨w0, w1, rfl⟩ : ∃ w0 w1 : Value, args = #[w0, w1] := by
    have hs : args.size = 2 := by simpa [Cond.value, given_1] using ga1
    obtain ⟨L⟩ := args
    match L, hs with
    | [w0, w1], _ => exact ⟨w0, w1, rfl⟩
  have hw := fun d (hd : d ∈ tables_1) => atoms_spec (ws := Jvm.Cond.code x code maxLocals ret :: tables_1) hat d (List.mem_cons_of_mem _ hd)
  have hfit : Fit s := fun {y c} hc i hi => by
    obtain ⟨ha, rfl⟩ := Array.getElem?_eq_some_iff.mp hc
    have q := List.all_eq_true.mp ((Array.all_eq_true_iff_forall_mem.mp hF) _ (Array.getElem_mem ha)) i (List.mem_range.mpr hi)
    simpa [Array.getElem?_eq_getElem hi] using q
  obtain ⟨hsets, hown0⟩ := atoms_of _ (rest_1_c_eq ▸ (show rest_1_c.before _ s = true from hrest))
  have hr0 := Cond.before_iff.mp hown0
  obtain ⟨i0, ei0⟩ := is_v ga2
  obtain rfl : w0 = (.int i0) := Option.some.inj ei0
  obtain ⟨i1, ei1⟩ := is_v gb2
  obtain rfl : w1 = (.int i1) := Option.some.inj ei1
  obtain ⟨aO, evO⟩ := exa_v (Cond.before_iff.mp (hsets _ (List.mem_of_getElem? (i := 2) rfl)))
  have S_O : Sta s s.heap "java/util/Optional" "EMPTY" "Ljava/util/Optional;" (.ref aO) := Sta.start evO (Or.inl (hsets _ (List.mem_of_getElem? (i := 1) rfl)))
  have E_O : Exa s s.heap aO "java/util/Optional" := Exa.start evO (Cond.before_iff.mp (hsets _ (List.mem_of_getElem? (i := 2) rfl)))
  have F_O : Fld s s.heap aO "java/util/Optional" "value" "Ljava/lang/Object;" .null := own_fld evO (null_v (Cond.before_iff.mp (hsets _ (List.mem_of_getElem? (i := 3) rfl))))
  obtain ⟨n, o, h1, h2, h3, _, L, rfl, ⟨rfl, N, -⟩, hq⟩ := rm0 l s _ hw tables_1 i0 i1 aO s.heap (Old.start s) S_O E_O F_O p e ha hc hk s m _ below hf ((Spec.applies_iff_loose hf).mp happ).1 ⟨rfl, State.Warmed39.refl s, rfl⟩ trivial
  refine ⟨n, _, h1, h2, h3, hpost _ _ _ _ _ _ ⟨Cond.after_iff.mpr rfl, Cond.after_iff.mpr (eq_i res_at (Term.int_eval (1)) rfl), trivial⟩ ⟨hq.1, hq.2.1, hq.2.2.1, (hq.2.2.2.sift fun y hy => Or.inr (N y hy)).mono (by decide) (by decide)⟩⟩
theorem main_1_1 : Claimed_1_1 := comes_1 fun _ _ _ _ _ _ h hF => ⟨h.1, hF⟩
theorem main_1_2 : Claimed_1_2 := comes_1 fun _ _ _ _ _ _ h hF => ⟨h.2.1, hF⟩
end Jvm.Pilot.@@N@@
namespace Jvm.Pilot.@@N@@
open Jvm Jvm.ClassFile Sem Op Lib Jvm.Free Jvm.Stand Jvm.Pilot.@@N@@.Jvm.D
/-! MADE BY PROGRAM (witnessworld.py) out of the Statement's table words and the real class files: 22 classes; the members and pool entries that the words name. The judged class is class 1, her method 1. -/
namespace start1
open Jvm.ClassFile
def u (s : String) : CpInfo := .utf8 (stringToUtf16 s)
/-- a pool by its gaps: so many unusable entries, then the entry; so many at the end -/
def gap : Nat → List CpInfo → List CpInfo
  | 0, r => r
  | n + 1, r => .unusable :: gap n r
def poolList (es : List (Nat × CpInfo)) (last : Nat) : List CpInfo := es.foldr (fun e r => gap e.1 (e.2 :: r)) (gap last [])
def pool (es : List (Nat × CpInfo)) (last : Nat) : Array CpInfo := ⟨poolList es last⟩
def fileOf (pool : Array CpInfo) (this : Nat) (attrs : Array Attribute := #[]) (ms : Array MethodInfo := #[]) (fl : Nat := 33) (sup : Nat := 0) (ifs : Array Nat := #[]) (fds : Array FieldInfo := #[]) : ClassFile where
  minorVersion := 0
  majorVersion := 65
  constantPool := pool
  accessFlags := fl
  thisClass := this
  superClass := sup
  interfaces := ifs
  fields := fds
  methods := ms
  attributes := attrs
def plain (name : String) (sup : Option ClassId) : Class where
  name := name
  kind := .ordinary
  loader := none
  accessFlags := 33
  super := sup
  interfaces := #[]
  cf := none
  fields := #[]
  methods := #[]
  instanceTypes := #[]
  staticTypes := #[]
  resolved := #[]
  callSites := []
  init := .initialized
  statics := none
  mirror := none

def pool0 : Array CpInfo := pool [(5, u "<init>"), (0, u "()V"), (1, .class_ 10), (1, u "java/lang/Object")] 113

def k0c0 : Code := { maxStack := 0, maxLocals := 1, code := object_method_1_code, exceptionTable := #[], attributes := #[] }
def k0m0 : Method := { name := "<init>", desc := "()V", sig := { parameters := [], returnType := none }, accessFlags := 1, code := some k0c0 }
/-- java/lang/Object -/
def k0 : Class := { plain "java/lang/Object" none with
  accessFlags := 33
  interfaces := #[]
  cf := some (fileOf pool0 8 #[] #[{ accessFlags := 1, nameIndex := 5, descriptorIndex := 6, attributes := #[] }] 33 0 #[] #[])
  fields := #[]
  methods := #[k0m0]
  instanceTypes := #[]
  staticTypes := #[]
  resolved := Array.replicate 124 none
  statics := none }

def pool1 : Array CpInfo := pool [(2, .class_ 4), (1, u "java/lang/Object"), (0, u "<init>"), (0, u "()V"), (2, .integer 2147483647), (0, .class_ 11), (0, u "com/example/koord/koord/model/Attempt"), (0, .methodref 13 14), (0, .class_ 15), (0, .nameAndType 16 17), (0, u "java/util/Optional"), (0, u "empty"), (0, u "()Ljava/util/Optional;"), (0, .methodref 10 19), (0, .nameAndType 5 20), (0, u "(ILjava/util/Optional;)V"), (0, .methodref 22 23), (0, .class_ 24), (0, .nameAndType 25 26), (0, u "java/lang/Math"), (0, u "max"), (0, u "(II)I"), (0, .methodref 10 28), (0, .nameAndType 29 30), (0, u "granted"), (0, u "(I)Lcom/example/koord/koord/model/Attempt;"), (0, .methodref 10 32), (0, .nameAndType 33 34), (0, u "refused"), (0, u "(Ljava/util/Optional;)Lcom/example/koord/koord/model/Attempt;"), (0, .methodref 10 36), (0, .nameAndType 29 37), (0, u "()Z"), (0, .class_ 39), (0, u "com/example/koord/koord/model/AttemptGrantedPinLaw"), (2, u "law"), (0, u "(II)Z")] 3

def k1m0 : Method := { name := "<init>", desc := "()V", sig := { parameters := [], returnType := none }, accessFlags := 1, code := none }
def k1c1 : Code := { maxStack := 4, maxLocals := 8, code := code, exceptionTable := #[], attributes := #[] }
def k1m1 : Method := { name := "law", desc := "(II)Z", sig := { parameters := [.int, .int], returnType := some .boolean }, accessFlags := 9, code := some k1c1 }
/-- com/example/koord/koord/model/AttemptGrantedPinLaw -/
def k1 : Class := { plain "com/example/koord/koord/model/AttemptGrantedPinLaw" (some 0) with
  accessFlags := 49
  interfaces := #[]
  cf := some (fileOf pool1 38 #[] #[{ accessFlags := 1, nameIndex := 5, descriptorIndex := 6, attributes := #[] }, { accessFlags := 9, nameIndex := 42, descriptorIndex := 43, attributes := #[] }] 49 2 #[] #[])
  fields := #[]
  methods := #[k1m0, k1m1]
  instanceTypes := #[]
  staticTypes := #[]
  resolved := Array.replicate 47 none
  statics := none }

def pool2 : Array CpInfo := pool [(1, .methodref 2 3), (0, .class_ 4), (0, .nameAndType 5 6), (0, u "java/lang/Object"), (0, u "<init>"), (0, u "()V"), (0, .class_ 8), (0, u "java/lang/Record")] 13

def k2c0 : Code := { maxStack := 1, maxLocals := 1, code := jdk_30_method_1_code, exceptionTable := #[], attributes := #[] }
def k2m0 : Method := { name := "<init>", desc := "()V", sig := { parameters := [], returnType := none }, accessFlags := 4, code := some k2c0 }
/-- java/lang/Record -/
def k2 : Class := { plain "java/lang/Record" (some 0) with
  accessFlags := 1057
  interfaces := #[]
  cf := some (fileOf pool2 7 #[] #[{ accessFlags := 4, nameIndex := 5, descriptorIndex := 6, attributes := #[] }] 1057 2 #[] #[])
  fields := #[]
  methods := #[k2m0]
  instanceTypes := #[]
  staticTypes := #[]
  resolved := Array.replicate 22 none
  statics := none }

def pool3 : Array CpInfo := pool [(1, .methodref 2 3), (0, .class_ 4), (0, .nameAndType 5 6), (0, u "java/lang/Record"), (0, u "<init>"), (0, u "()V"), (0, .string 8), (0, u "leaseLeft"), (0, .methodref 10 11), (0, .class_ 12), (0, .nameAndType 13 14), (0, u "java/util/Objects"), (0, u "requireNonNull"), (0, u "(Ljava/lang/Object;Ljava/lang/String;)Ljava/lang/Object;"), (9, .methodref 25 26), (0, .class_ 27), (0, .nameAndType 28 29), (0, u "java/util/Optional"), (0, u "isPresent"), (0, u "()Z"), (2, .invokeDynamic 1 33), (0, .nameAndType 34 35), (0, u "test"), (0, u "()Ljava/util/function/Predicate;"), (0, .methodref 25 37), (0, .nameAndType 38 39), (0, u "filter"), (0, u "(Ljava/util/function/Predicate;)Ljava/util/Optional;"), (9, .fieldref 50 51), (0, .class_ 52), (0, .nameAndType 53 54), (0, u "com/example/koord/koord/model/Attempt"), (0, u "holds"), (0, u "I"), (0, .fieldref 50 56), (0, .nameAndType 8 57), (0, u "Ljava/util/Optional;"), (1, .methodref 25 60), (0, .nameAndType 61 62), (0, u "empty"), (0, u "()Ljava/util/Optional;"), (0, .methodref 50 64), (0, .nameAndType 5 65), (0, u "(ILjava/util/Optional;)V"), (19, u "granted"), (0, u "(I)Lcom/example/koord/koord/model/Attempt;"), (0, u "refused"), (0, u "(Ljava/util/Optional;)Lcom/example/koord/koord/model/Attempt;"), (3, u "(Ljava/lang/Object;)Z"), (7, .methodType 92), (0, .methodHandle 5 102), (0, .methodref 103 104), (0, .class_ 105), (0, .nameAndType 106 29), (0, u "java/time/Duration"), (0, u "isNegative"), (0, .methodType 108), (0, u "(Ljava/time/Duration;)Z"), (14, .methodHandle 6 124), (0, .methodref 125 126), (0, .class_ 127), (0, .nameAndType 128 129), (0, u "java/lang/invoke/LambdaMetafactory"), (0, u "metafactory"), (0, u "(Ljava/lang/invoke/MethodHandles$Lookup;Ljava/lang/String;Ljava/lang/invoke/MethodType;Ljava/lang/invoke/MethodType;Ljava/lang/invoke/MethodHandle;Ljava/lang/invoke/MethodType;)Ljava/lang/invoke/CallSite;")] 13

def k3c0 : Code := { maxStack := 3, maxLocals := 3, code := prog_2_method_1_code, exceptionTable := #[], attributes := #[] }
def k3m0 : Method := { name := "<init>", desc := "(ILjava/util/Optional;)V", sig := { parameters := [.int, (.object "java/util/Optional")], returnType := none }, accessFlags := 1, code := some k3c0 }
def k3c1 : Code := { maxStack := 4, maxLocals := 1, code := prog_2_method_2_code, exceptionTable := #[], attributes := #[] }
def k3m1 : Method := { name := "granted", desc := "(I)Lcom/example/koord/koord/model/Attempt;", sig := { parameters := [.int], returnType := some (.object "com/example/koord/koord/model/Attempt") }, accessFlags := 9, code := some k3c1 }
def k3c2 : Code := { maxStack := 4, maxLocals := 1, code := prog_2_method_3_code, exceptionTable := #[], attributes := #[] }
def k3m2 : Method := { name := "refused", desc := "(Ljava/util/Optional;)Lcom/example/koord/koord/model/Attempt;", sig := { parameters := [(.object "java/util/Optional")], returnType := some (.object "com/example/koord/koord/model/Attempt") }, accessFlags := 9, code := some k3c2 }
def k3c3 : Code := { maxStack := 1, maxLocals := 1, code := prog_2_method_4_code, exceptionTable := #[], attributes := #[] }
def k3m3 : Method := { name := "granted", desc := "()Z", sig := { parameters := [], returnType := some .boolean }, accessFlags := 1, code := some k3c3 }
/-- com/example/koord/koord/model/Attempt -/
def k3 : Class := { plain "com/example/koord/koord/model/Attempt" (some 2) with
  accessFlags := 49
  interfaces := #[]
  cf := some (fileOf pool3 50 #[.bootstrapMethods #[⟨0, #[]⟩, ⟨123, #[100, 101, 107]⟩, ⟨0, #[]⟩, ⟨0, #[]⟩, ⟨0, #[]⟩]] #[{ accessFlags := 1, nameIndex := 5, descriptorIndex := 65, attributes := #[] }, { accessFlags := 9, nameIndex := 85, descriptorIndex := 86, attributes := #[] }, { accessFlags := 9, nameIndex := 87, descriptorIndex := 88, attributes := #[] }, { accessFlags := 1, nameIndex := 85, descriptorIndex := 29, attributes := #[] }] 49 2 #[] #[{ accessFlags := 18, nameIndex := 53, descriptorIndex := 54, attributes := #[] }, { accessFlags := 18, nameIndex := 8, descriptorIndex := 57, attributes := #[] }])
  fields := #[{ name := "holds", type := .int, accessFlags := 18, slot := 0, constantValue := 0 }, { name := "leaseLeft", type := (.object "java/util/Optional"), accessFlags := 18, slot := 1, constantValue := 0 }]
  methods := #[k3m0, k3m1, k3m2, k3m3]
  instanceTypes := #[.int, (.object "java/util/Optional")]
  staticTypes := #[]
  resolved := Array.replicate 143 none
  callSites := [(0, 51, .constant 1)]
  statics := none }

def pool4 : Array CpInfo := pool [(1, .fieldref 2 3), (0, .class_ 4), (0, .nameAndType 5 6), (0, u "java/util/Optional"), (0, u "EMPTY"), (0, u "Ljava/util/Optional;"), (1, .class_ 10), (1, u "java/lang/Object"), (2, .fieldref 2 14), (0, .nameAndType 15 16), (0, u "value"), (0, u "Ljava/lang/Object;"), (0, .methodref 18 19), (0, .class_ 20), (0, .nameAndType 21 22), (0, u "java/util/Objects"), (0, u "requireNonNull"), (0, u "(Ljava/lang/Object;)Ljava/lang/Object;"), (20, .methodref 2 44), (0, .nameAndType 45 46), (0, u "isEmpty"), (0, u "()Z"), (8, u "empty"), (0, u "()Ljava/util/Optional;"), (11, u "isPresent"), (71, u "filter"), (0, u "(Ljava/util/function/Predicate;)Ljava/util/Optional;")] 45

def k4c0 : Code := { maxStack := 1, maxLocals := 1, code := jdk_32_method_1_code, exceptionTable := #[], attributes := #[] }
def k4m0 : Method := { name := "empty", desc := "()Ljava/util/Optional;", sig := { parameters := [], returnType := some (.object "java/util/Optional") }, accessFlags := 9, code := some k4c0 }
def k4c1 : Code := { maxStack := 1, maxLocals := 1, code := jdk_32_method_6_code, exceptionTable := #[], attributes := #[] }
def k4m1 : Method := { name := "isPresent", desc := "()Z", sig := { parameters := [], returnType := some .boolean }, accessFlags := 1, code := some k4c1 }
def k4c2 : Code := { maxStack := 1, maxLocals := 1, code := jdk_32_method_7_code, exceptionTable := #[], attributes := #[] }
def k4m2 : Method := { name := "isEmpty", desc := "()Z", sig := { parameters := [], returnType := some .boolean }, accessFlags := 1, code := some k4c2 }
def k4c3 : Code := { maxStack := 2, maxLocals := 2, code := jdk_32_method_10_code, exceptionTable := #[], attributes := #[] }
def k4m3 : Method := { name := "filter", desc := "(Ljava/util/function/Predicate;)Ljava/util/Optional;", sig := { parameters := [(.object "java/util/function/Predicate")], returnType := some (.object "java/util/Optional") }, accessFlags := 1, code := some k4c3 }
/-- java/util/Optional -/
def k4 : Class := { plain "java/util/Optional" (some 0) with
  accessFlags := 49
  interfaces := #[]
  cf := some (fileOf pool4 2 #[] #[{ accessFlags := 9, nameIndex := 55, descriptorIndex := 56, attributes := #[] }, { accessFlags := 1, nameIndex := 68, descriptorIndex := 46, attributes := #[] }, { accessFlags := 1, nameIndex := 45, descriptorIndex := 46, attributes := #[] }, { accessFlags := 1, nameIndex := 140, descriptorIndex := 141, attributes := #[] }] 49 8 #[] #[{ accessFlags := 26, nameIndex := 5, descriptorIndex := 6, attributes := #[] }, { accessFlags := 18, nameIndex := 15, descriptorIndex := 16, attributes := #[] }])
  fields := #[{ name := "EMPTY", type := (.object "java/util/Optional"), accessFlags := 26, slot := 0, constantValue := 0 }, { name := "value", type := (.object "java/lang/Object"), accessFlags := 18, slot := 0, constantValue := 0 }]
  methods := #[k4m0, k4m1, k4m2, k4m3]
  instanceTypes := #[(.object "java/lang/Object")]
  staticTypes := #[(.object "java/util/Optional")]
  resolved := Array.replicate 187 none
  statics := some 0 }

def pool5 : Array CpInfo := pool [(1, .class_ 2), (0, u "java/io/Serializable"), (0, .class_ 4), (0, u "java/lang/Object")] 2

/-- java/io/Serializable -/
def k5 : Class := { plain "java/io/Serializable" (some 0) with
  accessFlags := 1537
  interfaces := #[]
  cf := some (fileOf pool5 1 #[] #[] 1537 3 #[] #[])
  fields := #[]
  methods := #[]
  instanceTypes := #[]
  staticTypes := #[]
  resolved := Array.replicate 7 none
  statics := none }

def pool6 : Array CpInfo := pool [(1, .class_ 2), (0, u "java/lang/Comparable"), (0, .class_ 4), (0, u "java/lang/Object")] 7

/-- java/lang/Comparable -/
def k6 : Class := { plain "java/lang/Comparable" (some 0) with
  accessFlags := 1537
  interfaces := #[]
  cf := some (fileOf pool6 1 #[] #[] 1537 3 #[] #[])
  fields := #[]
  methods := #[]
  instanceTypes := #[]
  staticTypes := #[]
  resolved := Array.replicate 12 none
  statics := none }

def pool7 : Array CpInfo := pool [(2, .class_ 4), (1, u "java/lang/CharSequence"), (42, .class_ 48), (0, u "java/lang/CharSequence$1CodePointIterator"), (10, .class_ 60), (0, u "java/lang/CharSequence$1CharIterator"), (5, .class_ 67), (0, u "java/lang/Object")] 63

/-- java/lang/CharSequence -/
def k7 : Class := { plain "java/lang/CharSequence" (some 0) with
  accessFlags := 1537
  interfaces := #[]
  cf := some (fileOf pool7 2 #[.nestMembers #[47, 59]] #[] 1537 66 #[] #[])
  fields := #[]
  methods := #[]
  instanceTypes := #[]
  staticTypes := #[]
  resolved := Array.replicate 131 none
  statics := none }

def pool8 : Array CpInfo := pool [(1, .class_ 2), (0, u "java/lang/constant/Constable"), (0, .class_ 4), (0, u "java/lang/Object")] 6

/-- java/lang/constant/Constable -/
def k8 : Class := { plain "java/lang/constant/Constable" (some 0) with
  accessFlags := 1537
  interfaces := #[]
  cf := some (fileOf pool8 1 #[] #[] 1537 3 #[] #[])
  fields := #[]
  methods := #[]
  instanceTypes := #[]
  staticTypes := #[]
  resolved := Array.replicate 11 none
  statics := none }

def pool9 : Array CpInfo := pool [(1, .class_ 2), (0, u "java/lang/constant/ConstantDesc"), (0, .class_ 4), (0, u "java/lang/Object")] 32

/-- java/lang/constant/ConstantDesc -/
def k9 : Class := { plain "java/lang/constant/ConstantDesc" (some 0) with
  accessFlags := 1537
  interfaces := #[]
  cf := some (fileOf pool9 1 #[] #[] 1537 3 #[] #[])
  fields := #[]
  methods := #[]
  instanceTypes := #[]
  staticTypes := #[]
  resolved := Array.replicate 37 none
  statics := none }

def pool10 : Array CpInfo := pool [(2, .class_ 4), (1, u "java/lang/Object"), (0, u "<init>"), (0, u "()V"), (3, .class_ 12), (1, u "java/lang/String"), (0, u "value"), (0, u "[B"), (2, u "coder"), (0, u "B"), (2, u "hash"), (0, u "I"), (2, u "hashIsZero"), (0, u "Z"), (13, u "COMPACT_STRINGS"), (534, .class_ 576), (0, u "java/lang/CharSequence"), (22, u "CASE_INSENSITIVE_ORDER"), (0, u "Ljava/util/Comparator;"), (500, u "serialPersistentFields"), (0, u "[Ljava/io/ObjectStreamField;"), (0, .class_ 1104), (0, u "java/lang/String$CaseInsensitiveComparator"), (1, .class_ 1107), (0, u "java/io/Serializable"), (0, .class_ 1109), (0, u "java/lang/Comparable"), (0, .class_ 1111), (0, u "java/lang/constant/Constable"), (0, .class_ 1113), (0, u "java/lang/constant/ConstantDesc"), (2, u "serialVersionUID"), (0, u "J"), (3, u "REPL"), (0, u "C"), (2, u "LATIN1"), (1, u "UTF16")] 323

def k10m0 : Method := { name := "<init>", desc := "()V", sig := { parameters := [], returnType := none }, accessFlags := 1, code := none }
/-- java/lang/String -/
def k10 : Class := { plain "java/lang/String" (some 0) with
  accessFlags := 49
  interfaces := #[5, 6, 7, 8, 9]
  cf := some (fileOf pool10 10 #[.nestMembers #[1103]] #[{ accessFlags := 1, nameIndex := 5, descriptorIndex := 6, attributes := #[] }] 49 2 #[1106, 1108, 575, 1110, 1112] #[{ accessFlags := 18, nameIndex := 13, descriptorIndex := 14, attributes := #[] }, { accessFlags := 18, nameIndex := 17, descriptorIndex := 18, attributes := #[] }, { accessFlags := 2, nameIndex := 21, descriptorIndex := 22, attributes := #[] }, { accessFlags := 2, nameIndex := 25, descriptorIndex := 26, attributes := #[] }, { accessFlags := 26, nameIndex := 1116, descriptorIndex := 1117, attributes := #[] }, { accessFlags := 24, nameIndex := 40, descriptorIndex := 26, attributes := #[] }, { accessFlags := 26, nameIndex := 1101, descriptorIndex := 1102, attributes := #[] }, { accessFlags := 26, nameIndex := 1121, descriptorIndex := 1122, attributes := #[] }, { accessFlags := 25, nameIndex := 599, descriptorIndex := 600, attributes := #[] }, { accessFlags := 24, nameIndex := 1125, descriptorIndex := 18, attributes := #[] }, { accessFlags := 24, nameIndex := 1127, descriptorIndex := 18, attributes := #[] }])
  fields := #[{ name := "value", type := (.array .byte), accessFlags := 18, slot := 0, constantValue := 0 }, { name := "coder", type := .byte, accessFlags := 18, slot := 1, constantValue := 0 }, { name := "hash", type := .int, accessFlags := 2, slot := 2, constantValue := 0 }, { name := "hashIsZero", type := .boolean, accessFlags := 2, slot := 3, constantValue := 0 }, { name := "serialVersionUID", type := .long, accessFlags := 26, slot := 0, constantValue := 0 }, { name := "COMPACT_STRINGS", type := .boolean, accessFlags := 24, slot := 1, constantValue := 0 }, { name := "serialPersistentFields", type := (.array (.object "java/io/ObjectStreamField")), accessFlags := 26, slot := 2, constantValue := 0 }, { name := "REPL", type := .char, accessFlags := 26, slot := 3, constantValue := 0 }, { name := "CASE_INSENSITIVE_ORDER", type := (.object "java/util/Comparator"), accessFlags := 25, slot := 4, constantValue := 0 }, { name := "LATIN1", type := .byte, accessFlags := 24, slot := 5, constantValue := 0 }, { name := "UTF16", type := .byte, accessFlags := 24, slot := 6, constantValue := 0 }]
  methods := #[k10m0]
  instanceTypes := #[(.array .byte), .byte, .int, .boolean]
  staticTypes := #[.long, .boolean, (.array (.object "java/io/ObjectStreamField")), .char, (.object "java/util/Comparator"), .byte, .byte]
  resolved := Array.replicate 1451 none
  statics := none }

def pool11 : Array CpInfo := pool [(2, .class_ 4), (1, u "java/lang/Object"), (0, u "<init>"), (0, u "()V"), (35, .class_ 44), (1, u "java/util/Objects"), (0, u "requireNonNull"), (0, u "(Ljava/lang/Object;)Ljava/lang/Object;"), (47, u "(Ljava/lang/Object;Ljava/lang/String;)Ljava/lang/Object;")] 89

def k11m0 : Method := { name := "<init>", desc := "()V", sig := { parameters := [], returnType := none }, accessFlags := 2, code := none }
def k11c1 : Code := { maxStack := 2, maxLocals := 1, code := jdk_31_method_10_code, exceptionTable := #[], attributes := #[] }
def k11m1 : Method := { name := "requireNonNull", desc := "(Ljava/lang/Object;)Ljava/lang/Object;", sig := { parameters := [(.object "java/lang/Object")], returnType := some (.object "java/lang/Object") }, accessFlags := 9, code := some k11c1 }
def k11c2 : Code := { maxStack := 3, maxLocals := 2, code := jdk_31_method_11_code, exceptionTable := #[], attributes := #[] }
def k11m2 : Method := { name := "requireNonNull", desc := "(Ljava/lang/Object;Ljava/lang/String;)Ljava/lang/Object;", sig := { parameters := [(.object "java/lang/Object"), (.object "java/lang/String")], returnType := some (.object "java/lang/Object") }, accessFlags := 9, code := some k11c2 }
/-- java/util/Objects -/
def k11 : Class := { plain "java/util/Objects" (some 0) with
  accessFlags := 49
  interfaces := #[]
  cf := some (fileOf pool11 42 #[] #[{ accessFlags := 2, nameIndex := 5, descriptorIndex := 6, attributes := #[] }, { accessFlags := 9, nameIndex := 45, descriptorIndex := 46, attributes := #[] }, { accessFlags := 9, nameIndex := 45, descriptorIndex := 94, attributes := #[] }] 49 2 #[] #[])
  fields := #[]
  methods := #[k11m0, k11m1, k11m2]
  instanceTypes := #[]
  staticTypes := #[]
  resolved := Array.replicate 184 none
  statics := none }

def pool12 : Array CpInfo := pool [(9, u "test"), (12, .class_ 24), (1, u "java/util/function/Predicate"), (2, .class_ 29), (1, u "java/lang/Object"), (1, u "(Ljava/lang/Object;)Z")] 69

def k12m0 : Method := { name := "test", desc := "(Ljava/lang/Object;)Z", sig := { parameters := [(.object "java/lang/Object")], returnType := some .boolean }, accessFlags := 1025, code := none }
/-- java/util/function/Predicate -/
def k12 : Class := { plain "java/util/function/Predicate" (some 0) with
  accessFlags := 1537
  interfaces := #[]
  cf := some (fileOf pool12 22 #[] #[{ accessFlags := 1025, nameIndex := 9, descriptorIndex := 31, attributes := #[] }] 1537 27 #[] #[])
  fields := #[]
  methods := #[k12m0]
  instanceTypes := #[]
  staticTypes := #[]
  resolved := Array.replicate 101 none
  statics := none }

def pool13 : Array CpInfo := pool [(1, .class_ 2), (0, u "java/time/temporal/TemporalAmount"), (0, .class_ 4), (0, u "java/lang/Object")] 11

/-- java/time/temporal/TemporalAmount -/
def k13 : Class := { plain "java/time/temporal/TemporalAmount" (some 0) with
  accessFlags := 1537
  interfaces := #[]
  cf := some (fileOf pool13 1 #[] #[] 1537 3 #[] #[])
  fields := #[]
  methods := #[]
  instanceTypes := #[]
  staticTypes := #[]
  resolved := Array.replicate 16 none
  statics := none }

def pool14 : Array CpInfo := pool [(11, .class_ 13), (1, u "java/time/Duration"), (20, u "ZERO"), (0, u "Ljava/time/Duration;"), (13, .class_ 51), (1, u "java/time/temporal/TemporalAmount"), (13, u "()Z"), (13, .class_ 81), (1, u "java/time/Duration$Lazy"), (35, u "seconds"), (101, .class_ 220), (0, u "java/lang/Object"), (2, u "J"), (2, u "nanos"), (0, u "I"), (11, .class_ 241), (1, u "java/time/Duration$DurationUnits"), (27, .class_ 271), (1, u "java/time/Duration$1"), (91, u "BI_NANOS_PER_SECOND"), (0, u "Ljava/math/BigInteger;"), (21, u "isNegative"), (98, .class_ 486), (0, u "java/lang/Comparable"), (0, .class_ 488), (0, u "java/io/Serializable"), (0, u "serialVersionUID")] 166

def k14c0 : Code := { maxStack := 4, maxLocals := 1, code := ⟨#[0x2a, 0xb4, 0x00, 0xdd, 0x09, 0x94, 0x9c, 0x00, 0x07, 0x04, 0xa7, 0x00, 0x04, 0x03, 0xac]⟩, exceptionTable := #[], attributes := #[] }
def k14m0 : Method := { name := "isNegative", desc := "()Z", sig := { parameters := [], returnType := some .boolean }, accessFlags := 1, code := some k14c0 }
/-- java/time/Duration -/
def k14 : Class := { plain "java/time/Duration" (some 0) with
  accessFlags := 49
  interfaces := #[13, 6, 5]
  cf := some (fileOf pool14 11 #[.nestMembers #[269, 239, 79]] #[{ accessFlags := 1, nameIndex := 386, descriptorIndex := 65, attributes := #[] }] 49 219 #[49, 485, 487] #[{ accessFlags := 25, nameIndex := 34, descriptorIndex := 35, attributes := #[] }, { accessFlags := 26, nameIndex := 489, descriptorIndex := 223, attributes := #[] }, { accessFlags := 26, nameIndex := 363, descriptorIndex := 364, attributes := #[] }, { accessFlags := 18, nameIndex := 117, descriptorIndex := 223, attributes := #[] }, { accessFlags := 18, nameIndex := 226, descriptorIndex := 227, attributes := #[] }])
  fields := #[{ name := "ZERO", type := (.object "java/time/Duration"), accessFlags := 25, slot := 0, constantValue := 0 }, { name := "serialVersionUID", type := .long, accessFlags := 26, slot := 1, constantValue := 0 }, { name := "BI_NANOS_PER_SECOND", type := (.object "java/math/BigInteger"), accessFlags := 26, slot := 2, constantValue := 0 }, { name := "seconds", type := .long, accessFlags := 18, slot := 0, constantValue := 0 }, { name := "nanos", type := .int, accessFlags := 18, slot := 1, constantValue := 0 }]
  methods := #[k14m0]
  instanceTypes := #[.long, .int]
  staticTypes := #[(.object "java/time/Duration"), .long, (.object "java/math/BigInteger")]
  resolved := Array.replicate 656 none
  statics := none }

def pool15 : Array CpInfo := pool [(1, .class_ 2), (0, u "java/lang/Math"), (1, .class_ 6), (1, u "java/lang/Object"), (0, u "<init>"), (0, u "()V"), (89, .class_ 100), (1, u "java/lang/Math$RandomNumberGeneratorHolder"), (71, u "negativeZeroFloatBits"), (0, u "J"), (2, u "negativeZeroDoubleBits"), (21, u "max"), (46, u "$assertionsDisabled"), (0, u "Z"), (88, u "(II)I"), (2, u "twoToTheDoubleScaleDown"), (0, u "D"), (4, u "twoToTheDoubleScaleUp"), (9, u "E"), (3, u "PI"), (2, u "TAU"), (2, u "DEGREES_TO_RADIANS"), (0, u "RADIANS_TO_DEGREES")] 94

def k15m0 : Method := { name := "<init>", desc := "()V", sig := { parameters := [], returnType := none }, accessFlags := 2, code := none }
def k15c1 : Code := { maxStack := 2, maxLocals := 2, code := jdk_29_method_65_code, exceptionTable := #[], attributes := #[] }
def k15m1 : Method := { name := "max", desc := "(II)I", sig := { parameters := [.int, .int], returnType := some .int }, accessFlags := 9, code := some k15c1 }
/-- java/lang/Math -/
def k15 : Class := { plain "java/lang/Math" (some 0) with
  accessFlags := 49
  interfaces := #[]
  cf := some (fileOf pool15 1 #[.nestMembers #[98]] #[{ accessFlags := 2, nameIndex := 7, descriptorIndex := 8, attributes := #[] }, { accessFlags := 9, nameIndex := 198, descriptorIndex := 335, attributes := #[] }] 49 4 #[] #[{ accessFlags := 25, nameIndex := 354, descriptorIndex := 339, attributes := #[] }, { accessFlags := 25, nameIndex := 358, descriptorIndex := 339, attributes := #[] }, { accessFlags := 25, nameIndex := 361, descriptorIndex := 339, attributes := #[] }, { accessFlags := 26, nameIndex := 364, descriptorIndex := 339, attributes := #[] }, { accessFlags := 26, nameIndex := 365, descriptorIndex := 339, attributes := #[] }, { accessFlags := 26, nameIndex := 172, descriptorIndex := 173, attributes := #[] }, { accessFlags := 26, nameIndex := 176, descriptorIndex := 173, attributes := #[] }, { accessFlags := 8, nameIndex := 344, descriptorIndex := 339, attributes := #[] }, { accessFlags := 8, nameIndex := 338, descriptorIndex := 339, attributes := #[] }, { accessFlags := 4120, nameIndex := 245, descriptorIndex := 246, attributes := #[] }])
  fields := #[{ name := "E", type := .double, accessFlags := 25, slot := 0, constantValue := 0 }, { name := "PI", type := .double, accessFlags := 25, slot := 1, constantValue := 0 }, { name := "TAU", type := .double, accessFlags := 25, slot := 2, constantValue := 0 }, { name := "DEGREES_TO_RADIANS", type := .double, accessFlags := 26, slot := 3, constantValue := 0 }, { name := "RADIANS_TO_DEGREES", type := .double, accessFlags := 26, slot := 4, constantValue := 0 }, { name := "negativeZeroFloatBits", type := .long, accessFlags := 26, slot := 5, constantValue := 0 }, { name := "negativeZeroDoubleBits", type := .long, accessFlags := 26, slot := 6, constantValue := 0 }, { name := "twoToTheDoubleScaleUp", type := .double, accessFlags := 8, slot := 7, constantValue := 0 }, { name := "twoToTheDoubleScaleDown", type := .double, accessFlags := 8, slot := 8, constantValue := 0 }, { name := "$assertionsDisabled", type := .boolean, accessFlags := 4120, slot := 9, constantValue := 0 }]
  methods := #[k15m0, k15m1]
  instanceTypes := #[]
  staticTypes := #[.double, .double, .double, .double, .double, .long, .long, .double, .double, .boolean]
  resolved := Array.replicate 460 none
  statics := none }

def pool16 : Array CpInfo := pool [(1, u "java/lang/Cloneable"), (0, .class_ 1), (0, u "java/lang/Object"), (0, .class_ 3)] 3

/-- java/lang/Cloneable -/
def k16 : Class := { plain "java/lang/Cloneable" (some 0) with
  accessFlags := 1537
  interfaces := #[]
  cf := some (fileOf pool16 2 #[] #[] 1537 4 #[] #[])
  fields := #[]
  methods := #[]
  instanceTypes := #[]
  staticTypes := #[]
  resolved := Array.replicate 8 none
  statics := none }

/-- the primitive byte -/
def k17 : Class := { plain "byte" none with kind := .primitive 'B', accessFlags := 0x411 }
/-- [B -/
def k18 : Class := { plain "[B" (some 0) with kind := .array 17 .byte, interfaces := #[16, 5], accessFlags := 1041 }

/-- the primitive int -/
def k19 : Class := { plain "int" none with kind := .primitive 'I', accessFlags := 0x411 }
/-- [I -/
def k20 : Class := { plain "[I" (some 0) with kind := .array 19 .int, interfaces := #[16, 5], accessFlags := 1041 }

def classes0 : Array Class := #[k0, k1, k2, k3, k4, k5, k6, k7, k8, k9, k10, k11, k12, k13, k14, k15, k16, k17, k18, k19, k20]
/-- the class that the rule has made for the site at 51 of com/example/koord/koord/model/Attempt.<init> -/
def k21 : Class := Jvm.LamKit.madeRec { classes := classes0 } "com/example/koord/koord/model/Attempt" (Jvm.Lambda.Shape.mk "java/util/function/Predicate" "test" (Jvm.ClassFile.MethodDescriptor.mk ([(Jvm.ClassFile.FieldType.object "java/lang/Object")] : List Jvm.ClassFile.FieldType) (Option.some Jvm.ClassFile.FieldType.boolean)) ([] : List Jvm.ClassFile.FieldType) (5 : Nat) "java/time/Duration" "isNegative" (Jvm.ClassFile.MethodDescriptor.mk ([] : List Jvm.ClassFile.FieldType) (Option.some Jvm.ClassFile.FieldType.boolean)) false (Jvm.ClassFile.MethodDescriptor.mk ([(Jvm.ClassFile.FieldType.object "java/time/Duration")] : List Jvm.ClassFile.FieldType) (Option.some Jvm.ClassFile.FieldType.boolean))) 21

def heap : Heap := #[{ cls := 4, slots := #[.ref 2], vm := .statics 4 },
  { cls := 21, slots := #[], vm := .none },
  { cls := 4, slots := #[.null], vm := .none }]
def classes : Array Class := #[k0, k1, k2, k3, k4, k5, k6, k7, k8, k9, k10, k11, k12, k13, k14, k15, k16, k17, k18, k19, k20, k21]
def interned : List (Array UInt16 × Addr) := []
def slotsUsed : Nat := 2
def theMethod : MethodId := ⟨1, 1⟩
def args0 : Array Value := #[.int 1, .int 2]
def aboutOver (below : List Frame) : State where
  vm := { classes := classes, interned := interned.toArray }
  heap := heap
  slotsUsed := slotsUsed
  threads := #[{ frames := .invoking theMethod args0 :: below }]
def below0 : List Frame := [.native { method := ⟨0, 0⟩, args := #[] }]
def about1 : State := aboutOver below0
def p0 : Program := .bare "" "" ""
def e0 : Env := launch0.env 0 0 0
theorem w_frames : about1.frames = Frame.invoking theMethod args0 :: below0 := rfl
set_option maxRecDepth 65536 in
theorem w_args : argsFit about1.vm theMethod args0 = true := by decide +kernel
set_option maxRecDepth 65536 in
theorem w_heap : heapFits about1 = true := by decide +kernel
set_option maxRecDepth 65536 in
theorem w_runnable : about1.curStatus? = some .runnable := by decide +kernel
set_option maxRecDepth 65536 in
theorem w_alone : about1.alone = true := by decide +kernel
set_option maxRecDepth 65536 in
theorem w_named : about1.methodNamed? x = some theMethod := by decide +kernel
set_option maxRecDepth 65536 in
theorem w_hears : about1.hears theMethod below0 = true := by decide +kernel
set_option maxRecDepth 65536 in
theorem w_ripe : about1.ripe theMethod args0 below0 = true := by decide +kernel
theorem w_running : about1.status = .running := rfl
set_option maxRecDepth 65536 in
theorem w_room : about1.hasRoom e0.platform room_1 = true :=
  launch0.hasRoom_least _ room_1 (by decide +kernel) (by decide +kernel) (by decide +kernel) (by decide +kernel) (by decide +kernel) (by decide +kernel)
theorem allAtoms_all (ts : List Jvm.Cond) (a : Array Jvm.Value) (st : Jvm.State) : (allAtoms ts).before a st = ts.all (fun c => c.before a st) := by
  induction ts with
  | nil => rfl
  | cons c t ih =>
    show (Jvm.Cond.and c (allAtoms t)).before a st = _
    rw [Jvm.Cond.before_and, ih, List.all_cons]
def words1 : List Jvm.Cond := Jvm.Cond.code x code maxLocals ret :: tables_1
/-- a 'code' word, met by the world's own term for the bytes: nothing is compared byte by byte -/
theorem code_word {y : MethodName} {bytes : ByteArray} {mx : Nat} {rt : Option FieldType} {a : Array Value} {s : State} {m : MethodId} {meth : Method} {c : Code} (h1 : s.methodNamed? y = some m) (h2 : s.vm.method? m = some meth) (h3 : meth.code = some c) (h4 : c.code = bytes)
    (h5 : (c.maxLocals == mx && c.exceptionTable.isEmpty && decide (c.maxStack ≤ mostOperands) && decide (meth.sig.returnType = rt) && !meth.locks && decide (parseMethodDescriptor y.desc = some meth.sig)) = true) : (Jvm.Cond.code y bytes mx rt).before a s = true := by
  simp only [Bool.and_eq_true, beq_iff_eq, Bool.not_eq_true', decide_eq_true_eq] at h5
  obtain ⟨⟨⟨⟨⟨g1, g2⟩, g3⟩, g4⟩, g5⟩, g6⟩ := h5
  simp [Cond.before, Cond.holds, Cond.value, h1, h2, h3, h4, g1, g2, g3, g4, g5, g6]
def isCode : Jvm.Cond → Bool
  | .code _ _ _ _ => true
  | _ => false
theorem all_split {L : List Jvm.Cond} {P : Jvm.Cond → Bool} (h1 : L.all (fun c => isCode c || P c) = true) (h2 : ∀ c ∈ L.filter isCode, P c = true) : L.all P = true := by
  refine List.all_eq_true.mpr fun c hc => ?_
  have h := List.all_eq_true.mp h1 c hc
  rcases Bool.eq_false_or_eq_true (isCode c) with hi | hi
  · exact h2 c (List.mem_filter.mpr ⟨hc, hi⟩)
  · simpa [hi] using h
set_option maxRecDepth 65536 in
theorem w_c0 : (Jvm.Cond.code x code maxLocals ret).before args0 about1 = true := code_word (m := ⟨1, 1⟩) (meth := k1m1) (c := k1c1) (by decide +kernel) rfl rfl rfl (by decide +kernel)
set_option maxRecDepth 65536 in
theorem w_c1 : (Jvm.Cond.code ({ cls := "java/util/Optional", name := "empty", desc := "()Ljava/util/Optional;" } : Jvm.MethodName) jdk_32_method_1_code (1 : Nat) (Option.some (Jvm.ClassFile.FieldType.object "java/util/Optional"))).before args0 about1 = true := code_word (m := ⟨4, 0⟩) (meth := k4m0) (c := k4c0) (by decide +kernel) rfl rfl rfl (by decide +kernel)
set_option maxRecDepth 65536 in
theorem w_c2 : (Jvm.Cond.code ({ cls := "com/example/koord/koord/model/Attempt", name := "<init>", desc := "(ILjava/util/Optional;)V" } : Jvm.MethodName) prog_2_method_1_code (3 : Nat) (Option.none : Option Jvm.ClassFile.FieldType)).before args0 about1 = true := code_word (m := ⟨3, 0⟩) (meth := k3m0) (c := k3c0) (by decide +kernel) rfl rfl rfl (by decide +kernel)
set_option maxRecDepth 65536 in
theorem w_c3 : (Jvm.Cond.code ({ cls := "java/lang/Record", name := "<init>", desc := "()V" } : Jvm.MethodName) jdk_30_method_1_code (1 : Nat) (Option.none : Option Jvm.ClassFile.FieldType)).before args0 about1 = true := code_word (m := ⟨2, 0⟩) (meth := k2m0) (c := k2c0) (by decide +kernel) rfl rfl rfl (by decide +kernel)
set_option maxRecDepth 65536 in
theorem w_c4 : (Jvm.Cond.code ({ cls := "java/lang/Object", name := "<init>", desc := "()V" } : Jvm.MethodName) object_method_1_code (1 : Nat) (Option.none : Option Jvm.ClassFile.FieldType)).before args0 about1 = true := code_word (m := ⟨0, 0⟩) (meth := k0m0) (c := k0c0) (by decide +kernel) rfl rfl rfl (by decide +kernel)
set_option maxRecDepth 65536 in
theorem w_c5 : (Jvm.Cond.code ({ cls := "java/util/Objects", name := "requireNonNull", desc := "(Ljava/lang/Object;Ljava/lang/String;)Ljava/lang/Object;" } : Jvm.MethodName) jdk_31_method_11_code (2 : Nat) (Option.some (Jvm.ClassFile.FieldType.object "java/lang/Object"))).before args0 about1 = true := code_word (m := ⟨11, 2⟩) (meth := k11m2) (c := k11c2) (by decide +kernel) rfl rfl rfl (by decide +kernel)
set_option maxRecDepth 65536 in
theorem w_c6 : (Jvm.Cond.code ({ cls := "java/util/Optional", name := "filter", desc := "(Ljava/util/function/Predicate;)Ljava/util/Optional;" } : Jvm.MethodName) jdk_32_method_10_code (2 : Nat) (Option.some (Jvm.ClassFile.FieldType.object "java/util/Optional"))).before args0 about1 = true := code_word (m := ⟨4, 3⟩) (meth := k4m3) (c := k4c3) (by decide +kernel) rfl rfl rfl (by decide +kernel)
set_option maxRecDepth 65536 in
theorem w_c7 : (Jvm.Cond.code ({ cls := "java/util/Objects", name := "requireNonNull", desc := "(Ljava/lang/Object;)Ljava/lang/Object;" } : Jvm.MethodName) jdk_31_method_10_code (1 : Nat) (Option.some (Jvm.ClassFile.FieldType.object "java/lang/Object"))).before args0 about1 = true := code_word (m := ⟨11, 1⟩) (meth := k11m1) (c := k11c1) (by decide +kernel) rfl rfl rfl (by decide +kernel)
set_option maxRecDepth 65536 in
theorem w_c8 : (Jvm.Cond.code ({ cls := "java/util/Optional", name := "isEmpty", desc := "()Z" } : Jvm.MethodName) jdk_32_method_7_code (1 : Nat) (Option.some Jvm.ClassFile.FieldType.boolean)).before args0 about1 = true := code_word (m := ⟨4, 2⟩) (meth := k4m2) (c := k4c2) (by decide +kernel) rfl rfl rfl (by decide +kernel)
set_option maxRecDepth 65536 in
theorem w_c9 : (Jvm.Cond.code ({ cls := "java/util/Optional", name := "isPresent", desc := "()Z" } : Jvm.MethodName) jdk_32_method_6_code (1 : Nat) (Option.some Jvm.ClassFile.FieldType.boolean)).before args0 about1 = true := code_word (m := ⟨4, 1⟩) (meth := k4m1) (c := k4c1) (by decide +kernel) rfl rfl rfl (by decide +kernel)
set_option maxRecDepth 65536 in
theorem w_c10 : (Jvm.Cond.code ({ cls := "java/lang/Math", name := "max", desc := "(II)I" } : Jvm.MethodName) jdk_29_method_65_code (2 : Nat) (Option.some Jvm.ClassFile.FieldType.int)).before args0 about1 = true := code_word (m := ⟨15, 1⟩) (meth := k15m1) (c := k15c1) (by decide +kernel) rfl rfl rfl (by decide +kernel)
set_option maxRecDepth 65536 in
theorem w_c11 : (Jvm.Cond.code ({ cls := "com/example/koord/koord/model/Attempt", name := "granted", desc := "(I)Lcom/example/koord/koord/model/Attempt;" } : Jvm.MethodName) prog_2_method_2_code (1 : Nat) (Option.some (Jvm.ClassFile.FieldType.object "com/example/koord/koord/model/Attempt"))).before args0 about1 = true := code_word (m := ⟨3, 1⟩) (meth := k3m1) (c := k3c1) (by decide +kernel) rfl rfl rfl (by decide +kernel)
set_option maxRecDepth 65536 in
theorem w_c12 : (Jvm.Cond.code ({ cls := "com/example/koord/koord/model/Attempt", name := "refused", desc := "(Ljava/util/Optional;)Lcom/example/koord/koord/model/Attempt;" } : Jvm.MethodName) prog_2_method_3_code (1 : Nat) (Option.some (Jvm.ClassFile.FieldType.object "com/example/koord/koord/model/Attempt"))).before args0 about1 = true := code_word (m := ⟨3, 2⟩) (meth := k3m2) (c := k3c2) (by decide +kernel) rfl rfl rfl (by decide +kernel)
set_option maxRecDepth 65536 in
theorem w_c13 : (Jvm.Cond.code ({ cls := "com/example/koord/koord/model/Attempt", name := "granted", desc := "()Z" } : Jvm.MethodName) prog_2_method_4_code (1 : Nat) (Option.some Jvm.ClassFile.FieldType.boolean)).before args0 about1 = true := code_word (m := ⟨3, 3⟩) (meth := k3m3) (c := k3c3) (by decide +kernel) rfl rfl rfl (by decide +kernel)
def codes1 : List Jvm.Cond := [Jvm.Cond.code x code maxLocals ret, Jvm.Cond.code ({ cls := "java/util/Optional", name := "empty", desc := "()Ljava/util/Optional;" } : Jvm.MethodName) jdk_32_method_1_code (1 : Nat) (Option.some (Jvm.ClassFile.FieldType.object "java/util/Optional")), Jvm.Cond.code ({ cls := "com/example/koord/koord/model/Attempt", name := "<init>", desc := "(ILjava/util/Optional;)V" } : Jvm.MethodName) prog_2_method_1_code (3 : Nat) (Option.none : Option Jvm.ClassFile.FieldType), Jvm.Cond.code ({ cls := "java/lang/Record", name := "<init>", desc := "()V" } : Jvm.MethodName) jdk_30_method_1_code (1 : Nat) (Option.none : Option Jvm.ClassFile.FieldType), Jvm.Cond.code ({ cls := "java/lang/Object", name := "<init>", desc := "()V" } : Jvm.MethodName) object_method_1_code (1 : Nat) (Option.none : Option Jvm.ClassFile.FieldType), Jvm.Cond.code ({ cls := "java/util/Objects", name := "requireNonNull", desc := "(Ljava/lang/Object;Ljava/lang/String;)Ljava/lang/Object;" } : Jvm.MethodName) jdk_31_method_11_code (2 : Nat) (Option.some (Jvm.ClassFile.FieldType.object "java/lang/Object")), Jvm.Cond.code ({ cls := "java/util/Optional", name := "filter", desc := "(Ljava/util/function/Predicate;)Ljava/util/Optional;" } : Jvm.MethodName) jdk_32_method_10_code (2 : Nat) (Option.some (Jvm.ClassFile.FieldType.object "java/util/Optional")), Jvm.Cond.code ({ cls := "java/util/Objects", name := "requireNonNull", desc := "(Ljava/lang/Object;)Ljava/lang/Object;" } : Jvm.MethodName) jdk_31_method_10_code (1 : Nat) (Option.some (Jvm.ClassFile.FieldType.object "java/lang/Object")), Jvm.Cond.code ({ cls := "java/util/Optional", name := "isEmpty", desc := "()Z" } : Jvm.MethodName) jdk_32_method_7_code (1 : Nat) (Option.some Jvm.ClassFile.FieldType.boolean), Jvm.Cond.code ({ cls := "java/util/Optional", name := "isPresent", desc := "()Z" } : Jvm.MethodName) jdk_32_method_6_code (1 : Nat) (Option.some Jvm.ClassFile.FieldType.boolean), Jvm.Cond.code ({ cls := "java/lang/Math", name := "max", desc := "(II)I" } : Jvm.MethodName) jdk_29_method_65_code (2 : Nat) (Option.some Jvm.ClassFile.FieldType.int), Jvm.Cond.code ({ cls := "com/example/koord/koord/model/Attempt", name := "granted", desc := "(I)Lcom/example/koord/koord/model/Attempt;" } : Jvm.MethodName) prog_2_method_2_code (1 : Nat) (Option.some (Jvm.ClassFile.FieldType.object "com/example/koord/koord/model/Attempt")), Jvm.Cond.code ({ cls := "com/example/koord/koord/model/Attempt", name := "refused", desc := "(Ljava/util/Optional;)Lcom/example/koord/koord/model/Attempt;" } : Jvm.MethodName) prog_2_method_3_code (1 : Nat) (Option.some (Jvm.ClassFile.FieldType.object "com/example/koord/koord/model/Attempt")), Jvm.Cond.code ({ cls := "com/example/koord/koord/model/Attempt", name := "granted", desc := "()Z" } : Jvm.MethodName) prog_2_method_4_code (1 : Nat) (Option.some Jvm.ClassFile.FieldType.boolean)]
set_option maxRecDepth 65536 in
theorem codes_eq : words1.filter isCode = codes1 := rfl
theorem w_codes : ∀ c ∈ words1.filter isCode, c.before args0 about1 = true := by
  rw [codes_eq]
  intro c hc
  simp only [codes1, List.mem_cons, List.not_mem_nil, or_false] at hc
  rcases hc with rfl | rfl | rfl | rfl | rfl | rfl | rfl | rfl | rfl | rfl | rfl | rfl | rfl | rfl
  · exact w_c0
  · exact w_c1
  · exact w_c2
  · exact w_c3
  · exact w_c4
  · exact w_c5
  · exact w_c6
  · exact w_c7
  · exact w_c8
  · exact w_c9
  · exact w_c10
  · exact w_c11
  · exact w_c12
  · exact w_c13
set_option maxRecDepth 65536 in
theorem w_t1 : (words1.take 24).all (fun c => isCode c || c.before args0 about1) = true := by decide +kernel
set_option maxRecDepth 65536 in
theorem w_t2 : ((words1.drop 24).take 24).all (fun c => isCode c || c.before args0 about1) = true := by decide +kernel
set_option maxRecDepth 65536 in
theorem w_t3 : (((words1.drop 24).drop 24).take 24).all (fun c => isCode c || c.before args0 about1) = true := by decide +kernel
set_option maxRecDepth 65536 in
theorem w_t4 : (((words1.drop 24).drop 24).drop 24).all (fun c => isCode c || c.before args0 about1) = true := by decide +kernel
theorem w_tables : (allAtoms (Jvm.Cond.code x code maxLocals ret :: tables_1)).before args0 about1 = true := by
  rw [allAtoms_all]
  show words1.all (fun c => c.before args0 about1) = true
  refine all_split ?_ w_codes
  rw [← List.take_append_drop 24 words1, List.all_append, w_t1, ← List.take_append_drop 24 (words1.drop 24), List.all_append, w_t2, ← List.take_append_drop 24 ((words1.drop 24).drop 24), List.all_append, w_t3, w_t4]
  rfl
set_option maxRecDepth 65536 in
theorem w_rest : rest_1_c.before args0 about1 = true := by decide +kernel
set_option maxRecDepth 65536 in
theorem w_case : (Jvm.Cond.and given_1 narrow_1).before args0 about1 = true := by decide +kernel
theorem w_applies : (headSpec (Jvm.Cond.code x code maxLocals ret :: tables_1) room_1).applies x e0.platform about1 = true :=
  (Spec.applies_iff w_frames).mpr ⟨w_running, w_runnable, w_alone, w_named, w_hears, w_ripe, w_room, w_tables⟩
theorem atStart : AtStart classFile x code maxLocals ret World_1 tables_1 room_1 Calls_1 rest_1 Pre_1 launch0 p0 e0 about1 theMethod args0 below0 :=
  ⟨lists_1, trivial, launch0.admits_env _ _ _, launch0.least_env, fairChoices_fair.cas, fairChoices_fair.clock, w_frames, w_args, w_heap, w_applies, trivial, w_rest, w_case⟩
end start1
theorem witness_1 : WitnessClaimed_1 := ⟨start1.p0, start1.e0, start1.about1, start1.theMethod, start1.args0, start1.below0, start1.atStart⟩
end Jvm.Pilot.@@N@@
