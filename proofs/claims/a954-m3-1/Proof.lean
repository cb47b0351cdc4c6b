import JvmDerived
import JvmDerived.Pilot.@@N@@Statement
import JvmDerived.Pilot.@@N@@Code
set_option linter.unusedVariables false
set_option linter.unusedSimpArgs false
namespace Jvm.RoadKit
open Sem ClassFile Op Lib Jvm.Stand Jvm.Free Jvm.LawKit
section New
variable {p : Program} {l : Launch} {e : Env} {R : Room} {s : State} {m : MethodId} {args : Array Value} {below : List Frame} {meth : Method} {c : Code} {T : State} {locs : List Loc} {cells slots : Nat}
theorem retI (X : Stand p l e R s m args below meth c T locs cells slots) (hx : p.tables.exec = Jvm.exec) {pc : Nat} {Ls : Array Slot} {z : Int32} {rest : List Value} (hret : meth.sig.returnType = some .int) (hd : decode c.code pc = .ok (.ireturn, 1)) {fs : List Frame}
    (hl : ∀ (f : JFrame) (acts : List Action), f.method = m → f.locked = none → f.entered = [] → (doReturn e (T.setTop f) acts (some (.int z))).1 = T.setFrames fs) : Steps p.tables e below (T.setTop (mkF m pc Ls (.int z :: rest))) (T.setFrames fs) :=
  retOut X hx hret rfl (Or.inl ⟨rfl, Or.inl rfl, z, rfl⟩) hd hl
theorem own_retJ (X : Stand p l e R s m args below meth c T locs cells slots) (hx : p.tables.exec = Jvm.exec) {pc : Nat} {Ls : Array Slot} {z : Int64} {rest : List Value} (hret : meth.sig.returnType = some .long) (hd : decode c.code pc = .ok (.lreturn, 1)) {fs : List Frame}
    (hl : ∀ (f : JFrame) (acts : List Action), f.method = m → f.locked = none → f.entered = [] → (doReturn e (T.setTop f) acts (some (.long z))).1 = T.setFrames fs) : Steps p.tables e below (T.setTop (mkF m pc Ls (.long z :: rest))) (T.setFrames fs) :=
  retOut X hx hret rfl (Or.inr (Or.inl ⟨rfl, rfl, z, rfl⟩)) hd hl
theorem own_retA (X : Stand p l e R s m args below meth c T locs cells slots) (hx : p.tables.exec = Jvm.exec) {pc : Nat} {Ls : Array Slot} {w : Value} {t : FieldType} {rest : List Value} (hret : meth.sig.returnType = some t) (ht : t.isReference = true) (hw : w.isRef = true) (hd : decode c.code pc = .ok (.areturn, 1)) {fs : List Frame}
    (hl : ∀ (f : JFrame) (acts : List Action), f.method = m → f.locked = none → f.entered = [] → (doReturn e (T.setTop f) acts (some w)).1 = T.setFrames fs) : Steps p.tables e below (T.setTop (mkF m pc Ls (w :: rest))) (T.setFrames fs) :=
  retOut X hx hret (by cases t <;> first | rfl | cases ht) (Or.inr (Or.inr (Or.inr (Or.inr ⟨rfl, ht, hw⟩)))) hd hl
end New
end Jvm.RoadKit
namespace Jvm.Pilot.@@N@@
open Jvm Jvm.ClassFile Sem Op Lib Jvm.Free Jvm.Stand Jvm.LawKit Jvm.RoadKit Bundle Jvm.Pilot.@@N@@.Jvm.D
abbrev own_Go (tb : Tables) (e : Env) (below : List Frame) (S0 S1 : State) : Prop := ∀ t, Steps tb e below S1 t → Steps tb e below S0 t
theorem own_eqI {args : Array Value} {s : State} {t : Term} {k : Int32} (h : (Jvm.Cond.eq t (.int k)).value args s none s [] = some true) : t.eval args s none [] s = some (.int k) := by
  obtain ⟨x, y, e1, e2, -, -⟩ := cmp_v (Or.inl h)
  obtain rfl : y = .int k := (Option.some.inj e2).symm
  cases x <;> simp [Cond.value, e1, Term.eval] at h <;> simp_all
theorem own_eqL {args : Array Value} {s : State} {t : Term} {k : Int64} (h : (Jvm.Cond.eq t (.long k)).value args s none s [] = some true) : t.eval args s none [] s = some (.long k) := by
  obtain ⟨x, y, e1, e2, -, -⟩ := cmp_v (Or.inl h)
  obtain rfl : y = .long k := (Option.some.inj e2).symm
  cases x <;> simp [Cond.value, e1, Term.eval] at h <;> simp_all
theorem own_nar0 : nar .boolean (0 : Int32) = 0 := by decide
theorem own_nar1 : nar .boolean (1 : Int32) = 1 := by decide
theorem own_nar_ite {P : Prop} [Decidable P] {a b : Int32} (ha : nar .boolean a = a) (hb : nar .boolean b = b) : nar .boolean (if P then a else b) = if P then a else b := by split <;> assumption
theorem own_fld {args : Array Value} {s : State} {t : Term} {a : Addr} {C n d : String} {v : Value} (ht : t.eval args s none [] s = some (.ref a)) (h : (Term.field t C n d).eval args s none [] s = some v) : Fld s s.heap a C n d v :=
  Fld.start (by rw [← fld_at (args := args) (first := s) (o := none) (idx := []) ht]; exact h)


theorem own_eleven {k : Int32} (h : 0 ≤ k.toInt ∧ k.toInt < 11) : k = 0 ∨ k = 1 ∨ k = 2 ∨ k = 3 ∨ k = 4 ∨ k = 5 ∨ k = 6 ∨ k = 7 ∨ k = 8 ∨ k = 9 ∨ k = 10 := by
  have e0 : (0 : Int32).toInt = 0 := by decide
  have e1 : (1 : Int32).toInt = 1 := by decide
  have e2 : (2 : Int32).toInt = 2 := by decide
  have e3 : (3 : Int32).toInt = 3 := by decide
  have e4 : (4 : Int32).toInt = 4 := by decide
  have e5 : (5 : Int32).toInt = 5 := by decide
  have e6 : (6 : Int32).toInt = 6 := by decide
  have e7 : (7 : Int32).toInt = 7 := by decide
  have e8 : (8 : Int32).toInt = 8 := by decide
  have e9 : (9 : Int32).toInt = 9 := by decide
  have e10 : (10 : Int32).toInt = 10 := by decide
  simp only [← Int32.toInt_inj, e0, e1, e2, e3, e4, e5, e6, e7, e8, e9, e10]
  omega
theorem own_k11 (p : Int32) : 0 ≤ ((p &&& (2147483647 : Int32)) % (11 : Int32)).toInt ∧ ((p &&& (2147483647 : Int32)) % (11 : Int32)).toInt < 11 := by
  have h1 := c_and p 2147483647 (by decide)
  have h2 := (c_irem (p &&& (2147483647 : Int32)) 11 11 (by decide)).1 h1.1
  rw [h2]; omega
theorem own_eqT {args : Array Value} {s : State} {t u : Term} {m : Addr} (h : (Jvm.Cond.eq t u).value args s none s [] = some true) (hu : u.eval args s none [] s = some (.ref m)) : t.eval args s none [] s = some (.ref m) := by
  obtain ⟨x, y, e1, e2, k1, -⟩ := cmp_v (Or.inl h)
  obtain rfl : y = .ref m := Option.some.inj (e2.symm.trans hu)
  cases x <;> simp [Cond.value, e1, e2, Kin] at h k1 <;> simp_all

theorem d1_0 : decode prog_52_method_5_code 0 = .ok (.aload_n 0, 1) := by decide +kernel
theorem d1_1 : decode prog_52_method_5_code 1 = .ok (.getfield 61, 3) := by decide +kernel
theorem d1_4 : decode prog_52_method_5_code 4 = .ok (.ifnull 7, 3) := by decide +kernel
theorem d1_7 : decode prog_52_method_5_code 7 = .ok (.iconst 1, 1) := by decide +kernel
theorem d1_8 : decode prog_52_method_5_code 8 = .ok (.goto 4, 3) := by decide +kernel
theorem d1_12 : decode prog_52_method_5_code 12 = .ok (.ireturn, 1) := by decide +kernel
theorem pn_1 : plainName "com/example/upbound/upbound/program/JavaType$Kind" = true := by first | (simp [plainName, overriddenIn]; done) | decide +kernel
theorem ef_1 (m : MethodId) (a0 : Addr) : entryFrame m #[(.ref a0)] 1 = mkF m 0 #[.val (.ref a0)] [] := by first | (simp [entryFrame, mkF, argsToLocals, Value.category]; done) | rfl
def Q1 (Z : State) (a0 : Addr) (mm : Addr) (h0 : Heap) (v : Option Value) (h : Heap) (L : List Loc) : Prop := v = some (.int 1) ∧ L = [] ∧ h = h0
set_option maxRecDepth 65536 in
set_option maxHeartbeats 40000000 in
theorem rm1 (l : Launch) (Z : State) (a0 : Array Value) (hw : ∀ d ∈ tables_1, d.before a0 Z = true) (ws : List Jvm.Cond) (a0 : Addr) (mm : Addr) (h0 : Heap) (F_m : Fld Z h0 a0 "com/example/upbound/upbound/program/JavaType$Kind" "minimum" "Ljava/math/BigInteger;" (.ref mm)) :
    MetFree l (⟨"com/example/upbound/upbound/program/JavaType$Kind", "isIntegral", "()Z"⟩ : MethodName) (head1 (Jvm.Cond.code (⟨"com/example/upbound/upbound/program/JavaType$Kind", "isIntegral", "()Z"⟩ : MethodName) prog_52_method_5_code 1 (some .boolean) :: ws) ({ frames := 0, cells := 0, slots := 0, locals := 0 } : Room)) (fun a U => a = #[(.ref a0)] ∧ Z.Warmed39 U.vm ∧ U.heap = h0) (fun _ _ _ _ _ => True) (fun _ U o U' => ∃ v L, o = .returned v ∧ Q1 Z a0 mm h0 v U'.heap L ∧ FrameEnd U o U' L ({ frames := 0, cells := 0, slots := 0, locals := 0 } : Room).cells ({ frames := 0, cells := 0, slots := 0, locals := 0 } : Room).slots) := by
  refine MetFree.of_bodySF (plainFor_of_name pn_1) hisR ?_
  intro p e s m args below meth c s₁ Bd hml0 hP hK
  obtain ⟨rfl, hZ, hh⟩ := hP
  have hZ0 := hZ
  have hx := Bd.exec
  have hby := Bd.bytes
  have hml : c.maxLocals = 1 := hml0
  have hown : s.vm.findClass "com/example/upbound/upbound/program/JavaType$Kind" = some m.cls := findClass_of_methodNamed Bd.named
  have hnm := (name_of_methodNamed Bd.named Bd.method).1
  have X0 : Stand p l e ({ frames := 0, cells := 0, slots := 0, locals := 0 } : Room) s m #[(.ref a0)] below meth c s₁ [] 0 0 := Stand.of_body Bd
  have e0 : s₁.heap = h0 := by rw [← hh, Bd.state]; rfl
  have G0 : own_Go p.tables e below (s₁.setTop (entryFrame m #[(.ref a0)] 1)) (s₁.setTop (mkF m 0 #[.val (.ref a0)] [])) := fun t k => castTop (ef_1 m a0) k
  have G1 : own_Go p.tables e below (s₁.setTop (entryFrame m #[(.ref a0)] 1)) (s₁.setTop (mkF m 1 #[.val (.ref a0)] [(.ref a0)])) := fun t k => G0 t (XS.aloadN X0.here hx rfl (hb hby d1_0) rfl rfl k)
  obtain ⟨T2, X2, e2, st2⟩ := getF X0 hx hZ hown (host := "") (Or.inl (hw _ (List.mem_of_getElem? (i := 32) rfl))) Via.refl e0 F_m (g := (mkF m 1 #[.val (.ref a0)] [(.ref a0)])) rfl rfl (hb hby d1_1)
  have G2 : own_Go p.tables e below (s₁.setTop (entryFrame m #[(.ref a0)] 1)) (T2.setTop (mkF m 4 #[.val (.ref a0)] [(.ref mm)])) := fun t k => G1 t (st2 t k)
  have G3 : own_Go p.tables e below (s₁.setTop (entryFrame m #[(.ref a0)] 1)) (T2.setTop (mkF m 7 #[.val (.ref a0)] [])) := fun t k => G2 t (XS.ifnullNo X2.here hx rfl (hb hby d1_4) rfl k)
  have G4 : own_Go p.tables e below (s₁.setTop (entryFrame m #[(.ref a0)] 1)) (T2.setTop (mkF m 8 #[.val (.ref a0)] [(.int (1 : Int32))])) := fun t k => G3 t (XT.iconstV X2.here hx rfl (1 : Int32) (hb hby d1_7) (by decide) k)
  have G5 : own_Go p.tables e below (s₁.setTop (entryFrame m #[(.ref a0)] 1)) (T2.setTop (mkF m 12 #[.val (.ref a0)] [(.int (1 : Int32))])) := fun t k => G4 t (XS.goto X2.here hx rfl (pc0 := 8) (pc' := 12) rfl (hb hby d1_8) (by decide) (by decide) k)
  obtain ⟨fs, hr, hrun, hended, hW, hsame⟩ := X2.leave (v := some (.int (nar .boolean (1 : Int32)))) (fun h => by rw [Bd.returns] at h; cases h)
  refine ⟨_, _, G5 _ ?_, hrun, hended, _, _, rfl, ?_, ⟨_, rfl⟩, hW, hsame.mono (by decide) (by decide)⟩
  · exact retN X2 hx (t := .boolean) Bd.returns (by simp) (hb hby d1_12) hr
  · show Q1 Z a0 mm h0 _ T2.heap _
    rw [e2]
    exact ⟨rfl, rfl, rfl⟩
theorem d2_0 : decode prog_52_method_5_code 0 = .ok (.aload_n 0, 1) := by decide +kernel
theorem d2_1 : decode prog_52_method_5_code 1 = .ok (.getfield 61, 3) := by decide +kernel
theorem d2_4 : decode prog_52_method_5_code 4 = .ok (.ifnull 7, 3) := by decide +kernel
theorem d2_11 : decode prog_52_method_5_code 11 = .ok (.iconst 0, 1) := by decide +kernel
theorem d2_12 : decode prog_52_method_5_code 12 = .ok (.ireturn, 1) := by decide +kernel
theorem pn_2 : plainName "com/example/upbound/upbound/program/JavaType$Kind" = true := by first | (simp [plainName, overriddenIn]; done) | decide +kernel
theorem ef_2 (m : MethodId) (a0 : Addr) : entryFrame m #[(.ref a0)] 1 = mkF m 0 #[.val (.ref a0)] [] := by first | (simp [entryFrame, mkF, argsToLocals, Value.category]; done) | rfl
def Q2 (Z : State) (a0 : Addr)  (h0 : Heap) (v : Option Value) (h : Heap) (L : List Loc) : Prop := v = some (.int 0) ∧ L = [] ∧ h = h0
set_option maxRecDepth 65536 in
set_option maxHeartbeats 40000000 in
theorem rm2 (l : Launch) (Z : State) (a0 : Array Value) (hw : ∀ d ∈ tables_1, d.before a0 Z = true) (ws : List Jvm.Cond) (a0 : Addr)  (h0 : Heap) (F_m : Fld Z h0 a0 "com/example/upbound/upbound/program/JavaType$Kind" "minimum" "Ljava/math/BigInteger;" .null) :
    MetFree l (⟨"com/example/upbound/upbound/program/JavaType$Kind", "isIntegral", "()Z"⟩ : MethodName) (head1 (Jvm.Cond.code (⟨"com/example/upbound/upbound/program/JavaType$Kind", "isIntegral", "()Z"⟩ : MethodName) prog_52_method_5_code 1 (some .boolean) :: ws) ({ frames := 0, cells := 0, slots := 0, locals := 0 } : Room)) (fun a U => a = #[(.ref a0)] ∧ Z.Warmed39 U.vm ∧ U.heap = h0) (fun _ _ _ _ _ => True) (fun _ U o U' => ∃ v L, o = .returned v ∧ Q2 Z a0 h0 v U'.heap L ∧ FrameEnd U o U' L ({ frames := 0, cells := 0, slots := 0, locals := 0 } : Room).cells ({ frames := 0, cells := 0, slots := 0, locals := 0 } : Room).slots) := by
  refine MetFree.of_bodySF (plainFor_of_name pn_2) hisR ?_
  intro p e s m args below meth c s₁ Bd hml0 hP hK
  obtain ⟨rfl, hZ, hh⟩ := hP
  have hZ0 := hZ
  have hx := Bd.exec
  have hby := Bd.bytes
  have hml : c.maxLocals = 1 := hml0
  have hown : s.vm.findClass "com/example/upbound/upbound/program/JavaType$Kind" = some m.cls := findClass_of_methodNamed Bd.named
  have hnm := (name_of_methodNamed Bd.named Bd.method).1
  have X0 : Stand p l e ({ frames := 0, cells := 0, slots := 0, locals := 0 } : Room) s m #[(.ref a0)] below meth c s₁ [] 0 0 := Stand.of_body Bd
  have e0 : s₁.heap = h0 := by rw [← hh, Bd.state]; rfl
  have G0 : own_Go p.tables e below (s₁.setTop (entryFrame m #[(.ref a0)] 1)) (s₁.setTop (mkF m 0 #[.val (.ref a0)] [])) := fun t k => castTop (ef_2 m a0) k
  have G1 : own_Go p.tables e below (s₁.setTop (entryFrame m #[(.ref a0)] 1)) (s₁.setTop (mkF m 1 #[.val (.ref a0)] [(.ref a0)])) := fun t k => G0 t (XS.aloadN X0.here hx rfl (hb hby d2_0) rfl rfl k)
  obtain ⟨T2, X2, e2, st2⟩ := getF X0 hx hZ hown (host := "") (Or.inl (hw _ (List.mem_of_getElem? (i := 32) rfl))) Via.refl e0 F_m (g := (mkF m 1 #[.val (.ref a0)] [(.ref a0)])) rfl rfl (hb hby d2_1)
  have G2 : own_Go p.tables e below (s₁.setTop (entryFrame m #[(.ref a0)] 1)) (T2.setTop (mkF m 4 #[.val (.ref a0)] [.null])) := fun t k => G1 t (st2 t k)
  have G3 : own_Go p.tables e below (s₁.setTop (entryFrame m #[(.ref a0)] 1)) (T2.setTop (mkF m 11 #[.val (.ref a0)] [])) := fun t k => G2 t (XS.ifnullYes X2.here hx rfl (pc0 := 4) (pc' := 11) rfl (hb hby d2_4) rfl (by decide) (by decide) k)
  have G4 : own_Go p.tables e below (s₁.setTop (entryFrame m #[(.ref a0)] 1)) (T2.setTop (mkF m 12 #[.val (.ref a0)] [(.int (0 : Int32))])) := fun t k => G3 t (XT.iconstV X2.here hx rfl (0 : Int32) (hb hby d2_11) (by decide) k)
  obtain ⟨fs, hr, hrun, hended, hW, hsame⟩ := X2.leave (v := some (.int (nar .boolean (0 : Int32)))) (fun h => by rw [Bd.returns] at h; cases h)
  refine ⟨_, _, G4 _ ?_, hrun, hended, _, _, rfl, ?_, ⟨_, rfl⟩, hW, hsame.mono (by decide) (by decide)⟩
  · exact retN X2 hx (t := .boolean) Bd.returns (by simp) (hb hby d2_12) hr
  · show Q2 Z a0 h0 _ T2.heap _
    rw [e2]
    exact ⟨rfl, rfl, rfl⟩
theorem pn_0 : plainName "com/example/upbound/upbound/program/KindIsIntegralPinLaw" = true := by first | (simp [plainName, overriddenIn]; done) | decide +kernel
theorem pd_0_0 : parseMethodDescriptor "()Z" = some ⟨[], some .boolean⟩ := by decide +kernel
theorem ef_0 (m : MethodId) (p0 : Int32) : entryFrame m #[(.int p0)] maxLocals = mkF m 0 #[.val (.int p0), .unset, .unset, .unset] [] := by first | (simp [entryFrame, mkF, argsToLocals, Value.category, maxLocals]; done) | rfl
def Q0 (Z : State) (p0 : Int32) (a_BOOLEAN a_BYTE a_CHAR a_SHORT a_INT a_LONG a_FLOAT a_DOUBLE a_ARRAY a_INTERFACE a_OBJECT m_BOOLEAN m_BYTE m_CHAR m_SHORT m_INT m_LONG : Addr) (h0 : Heap) (v : Option Value) (h : Heap) (L : List Loc) : Prop := v = some (.int 1) ∧ Fr Z.heap.size L ∧ Keep h0 h []
set_option maxRecDepth 65536 in
set_option maxHeartbeats 40000000 in
theorem rm0 (l : Launch) (Z : State) (a0 : Array Value) (hw : ∀ d ∈ tables_1, d.before a0 Z = true) (ws : List Jvm.Cond) (p0 : Int32) (a_BOOLEAN a_BYTE a_CHAR a_SHORT a_INT a_LONG a_FLOAT a_DOUBLE a_ARRAY a_INTERFACE a_OBJECT m_BOOLEAN m_BYTE m_CHAR m_SHORT m_INT m_LONG : Addr) (h0 : Heap) (O0 : Old Z Z.heap.size h0)  (S_BOOLEAN : Sta Z Z.heap "com/example/upbound/upbound/program/JavaType$Kind" "BOOLEAN" "Lcom/example/upbound/upbound/program/JavaType$Kind;" (.ref a_BOOLEAN)) (E_BOOLEAN : Exa Z Z.heap a_BOOLEAN "com/example/upbound/upbound/program/JavaType$Kind") (F_BOOLEAN : Fld Z Z.heap a_BOOLEAN "com/example/upbound/upbound/program/JavaType$Kind" "minimum" "Ljava/math/BigInteger;" (.ref m_BOOLEAN)) (S_BYTE : Sta Z Z.heap "com/example/upbound/upbound/program/JavaType$Kind" "BYTE" "Lcom/example/upbound/upbound/program/JavaType$Kind;" (.ref a_BYTE)) (E_BYTE : Exa Z Z.heap a_BYTE "com/example/upbound/upbound/program/JavaType$Kind") (F_BYTE : Fld Z Z.heap a_BYTE "com/example/upbound/upbound/program/JavaType$Kind" "minimum" "Ljava/math/BigInteger;" (.ref m_BYTE)) (S_CHAR : Sta Z Z.heap "com/example/upbound/upbound/program/JavaType$Kind" "CHAR" "Lcom/example/upbound/upbound/program/JavaType$Kind;" (.ref a_CHAR)) (E_CHAR : Exa Z Z.heap a_CHAR "com/example/upbound/upbound/program/JavaType$Kind") (F_CHAR : Fld Z Z.heap a_CHAR "com/example/upbound/upbound/program/JavaType$Kind" "minimum" "Ljava/math/BigInteger;" (.ref m_CHAR)) (S_SHORT : Sta Z Z.heap "com/example/upbound/upbound/program/JavaType$Kind" "SHORT" "Lcom/example/upbound/upbound/program/JavaType$Kind;" (.ref a_SHORT)) (E_SHORT : Exa Z Z.heap a_SHORT "com/example/upbound/upbound/program/JavaType$Kind") (F_SHORT : Fld Z Z.heap a_SHORT "com/example/upbound/upbound/program/JavaType$Kind" "minimum" "Ljava/math/BigInteger;" (.ref m_SHORT)) (S_INT : Sta Z Z.heap "com/example/upbound/upbound/program/JavaType$Kind" "INT" "Lcom/example/upbound/upbound/program/JavaType$Kind;" (.ref a_INT)) (E_INT : Exa Z Z.heap a_INT "com/example/upbound/upbound/program/JavaType$Kind") (F_INT : Fld Z Z.heap a_INT "com/example/upbound/upbound/program/JavaType$Kind" "minimum" "Ljava/math/BigInteger;" (.ref m_INT)) (S_LONG : Sta Z Z.heap "com/example/upbound/upbound/program/JavaType$Kind" "LONG" "Lcom/example/upbound/upbound/program/JavaType$Kind;" (.ref a_LONG)) (E_LONG : Exa Z Z.heap a_LONG "com/example/upbound/upbound/program/JavaType$Kind") (F_LONG : Fld Z Z.heap a_LONG "com/example/upbound/upbound/program/JavaType$Kind" "minimum" "Ljava/math/BigInteger;" (.ref m_LONG)) (S_FLOAT : Sta Z Z.heap "com/example/upbound/upbound/program/JavaType$Kind" "FLOAT" "Lcom/example/upbound/upbound/program/JavaType$Kind;" (.ref a_FLOAT)) (E_FLOAT : Exa Z Z.heap a_FLOAT "com/example/upbound/upbound/program/JavaType$Kind") (F_FLOAT : Fld Z Z.heap a_FLOAT "com/example/upbound/upbound/program/JavaType$Kind" "minimum" "Ljava/math/BigInteger;" .null) (S_DOUBLE : Sta Z Z.heap "com/example/upbound/upbound/program/JavaType$Kind" "DOUBLE" "Lcom/example/upbound/upbound/program/JavaType$Kind;" (.ref a_DOUBLE)) (E_DOUBLE : Exa Z Z.heap a_DOUBLE "com/example/upbound/upbound/program/JavaType$Kind") (F_DOUBLE : Fld Z Z.heap a_DOUBLE "com/example/upbound/upbound/program/JavaType$Kind" "minimum" "Ljava/math/BigInteger;" .null) (S_ARRAY : Sta Z Z.heap "com/example/upbound/upbound/program/JavaType$Kind" "ARRAY" "Lcom/example/upbound/upbound/program/JavaType$Kind;" (.ref a_ARRAY)) (E_ARRAY : Exa Z Z.heap a_ARRAY "com/example/upbound/upbound/program/JavaType$Kind") (F_ARRAY : Fld Z Z.heap a_ARRAY "com/example/upbound/upbound/program/JavaType$Kind" "minimum" "Ljava/math/BigInteger;" .null) (S_INTERFACE : Sta Z Z.heap "com/example/upbound/upbound/program/JavaType$Kind" "INTERFACE" "Lcom/example/upbound/upbound/program/JavaType$Kind;" (.ref a_INTERFACE)) (E_INTERFACE : Exa Z Z.heap a_INTERFACE "com/example/upbound/upbound/program/JavaType$Kind") (F_INTERFACE : Fld Z Z.heap a_INTERFACE "com/example/upbound/upbound/program/JavaType$Kind" "minimum" "Ljava/math/BigInteger;" .null) (S_OBJECT : Sta Z Z.heap "com/example/upbound/upbound/program/JavaType$Kind" "OBJECT" "Lcom/example/upbound/upbound/program/JavaType$Kind;" (.ref a_OBJECT)) (E_OBJECT : Exa Z Z.heap a_OBJECT "com/example/upbound/upbound/program/JavaType$Kind") (F_OBJECT : Fld Z Z.heap a_OBJECT "com/example/upbound/upbound/program/JavaType$Kind" "minimum" "Ljava/math/BigInteger;" .null) :
    MetFree l x (head1 (Jvm.Cond.code x code maxLocals ret :: ws) room_1) (fun a U => a = #[(.int p0)] ∧ Z.Warmed39 U.vm ∧ U.heap = h0) (fun _ _ _ _ _ => True) (fun _ U o U' => ∃ v L, o = .returned v ∧ Q0 Z p0 a_BOOLEAN a_BYTE a_CHAR a_SHORT a_INT a_LONG a_FLOAT a_DOUBLE a_ARRAY a_INTERFACE a_OBJECT m_BOOLEAN m_BYTE m_CHAR m_SHORT m_INT m_LONG h0 v U'.heap L ∧ FrameEnd U o U' L room_1.cells room_1.slots) := by
  refine MetFree.of_bodySF (plainFor_of_name pn_0) hisR ?_
  intro p e s m args below meth c s₁ Bd hml0 hP hK
  obtain ⟨rfl, hZ, hh⟩ := hP
  have hZ0 := hZ
  have hx := Bd.exec
  have hby := Bd.bytes
  have hml : c.maxLocals = 4 := hml0
  have hown : s.vm.findClass "com/example/upbound/upbound/program/KindIsIntegralPinLaw" = some m.cls := findClass_of_methodNamed Bd.named
  have hnm := (name_of_methodNamed Bd.named Bd.method).1
  have X0 : Stand p l e room_1 s m #[(.int p0)] below meth c s₁ [] 0 0 := Stand.of_body Bd
  have e0 : s₁.heap = h0 := by rw [← hh, Bd.state]; rfl
  have G0 : own_Go p.tables e below (s₁.setTop (entryFrame m #[(.int p0)] maxLocals)) (s₁.setTop (mkF m 0 #[.val (.int p0), .unset, .unset, .unset] [])) := fun t k => castTop (ef_0 m p0) k
  have N0 := Fr.nil Z.heap.size
  have K0 := Keep.refl h0 []
  have G1 : own_Go p.tables e below (s₁.setTop (entryFrame m #[(.int p0)] maxLocals)) (s₁.setTop (mkF m 2 #[.val (.int p0), .unset, .unset, .unset] [(.int (11 : Int32))])) := fun t k => G0 t (XT.bipushV X0.here hx rfl (11 : Int32) (hb hby at_0) (by decide) k)
  obtain ⟨T2, h2, k2, X2, e2, E2, A2, V2, st2⟩ := newR X0 hx hZ hown (hw _ (List.mem_of_getElem? (i := 0) rfl)) (hw _ (List.mem_of_getElem? (i := 1) rfl)) e0 (g := (mkF m 2 #[.val (.int p0), .unset, .unset, .unset] [(.int (11 : Int32))])) rfl (hb hby at_2) rfl (by decide) (cap := 11) (by decide) (by decide) (by decide) (by decide)
  obtain ⟨b2, g2⟩ : ∃ z, z = h0.size := ⟨_, rfl⟩
  rw [← g2] at A2 st2
  have gn_b2 : Z.heap.size ≤ b2 := Nat.le_trans O0.2.1 (Nat.le_of_eq g2.symm)
  have sz_b2 : h0.size ≤ b2 := Nat.le_trans K0.1 (Nat.le_of_eq g2.symm)
  have O2 := O0.ext E2
  have K2 := K0.ext E2
  have Vn2 : Arv Z h2 b2 k2 (.object "com/example/upbound/upbound/program/JavaType$Kind") (11 : Int32) [.null, .null, .null, .null, .null, .null, .null, .null, .null, .null, .null] .null := (Arv.new A2 (by decide)).pad (pad_rep [] .null 11)
  have G2 : own_Go p.tables e below (s₁.setTop (entryFrame m #[(.int p0)] maxLocals)) (T2.setTop (mkF m 5 #[.val (.int p0), .unset, .unset, .unset] [(.ref b2)])) := fun t k => G1 t (st2 t k)
  have G3 : own_Go p.tables e below (s₁.setTop (entryFrame m #[(.int p0)] maxLocals)) (T2.setTop (mkF m 6 #[.val (.int p0), .unset, .unset, .unset] [(.ref b2), (.ref b2)])) := fun t k => G2 t (XS.dup X2.here hx rfl (hb hby at_5) rfl rfl k)
  have G4 : own_Go p.tables e below (s₁.setTop (entryFrame m #[(.int p0)] maxLocals)) (T2.setTop (mkF m 7 #[.val (.int p0), .unset, .unset, .unset] [(.int (0 : Int32)), (.ref b2), (.ref b2)])) := fun t k => G3 t (XT.iconstV X2.here hx rfl (0 : Int32) (hb hby at_6) (by decide) k)
  obtain ⟨T5, X5, e5, st5⟩ := getS2 X2 hx hZ hown (host := "") (Or.inl (hw _ (List.mem_of_getElem? (i := 2) rfl))) Via.refl e2 (S_BOOLEAN.ext O2.2) (g := (mkF m 7 #[.val (.int p0), .unset, .unset, .unset] [(.int (0 : Int32)), (.ref b2), (.ref b2)])) rfl (hb hby at_7)
  have G5 : own_Go p.tables e below (s₁.setTop (entryFrame m #[(.int p0)] maxLocals)) (T5.setTop (mkF m 10 #[.val (.int p0), .unset, .unset, .unset] [(.ref a_BOOLEAN), (.int (0 : Int32)), (.ref b2), (.ref b2)])) := fun t k => G4 t (st5 t k)
  obtain ⟨cl6, Ar6, qk6, Sz6, Nn6, Hs6, Gf6⟩ := Vn2
  obtain ⟨T6, h6, X6, e6, W6, st6⟩ := stR X5 hx hZ e5 Ar6 (j := (0 : Int32)) (inb_of Sz6 ⟨by decide, by decide⟩) rfl (Sto.ofV Ar6 qk6 V2 (Ins.self (E_BOOLEAN.ext O2.2))) (g := (mkF m 10 #[.val (.int p0), .unset, .unset, .unset] [(.ref a_BOOLEAN), (.int (0 : Int32)), (.ref b2), (.ref b2)])) rfl rfl (hb hby at_10)
  have Vn6 : Arv Z h6 b2 k2 (.object "com/example/upbound/upbound/program/JavaType$Kind") (11 : Int32) [(.ref a_BOOLEAN), .null, .null, .null, .null, .null, .null, .null, .null, .null, .null] .null := Arv.set Ar6 qk6 Sz6 Nn6 Hs6 Gf6 rfl W6 0 rfl (Nat.le_of_ble_eq_true rfl)
  have N6 := Fr.snoc X6 N0 gn_b2
  have O6 := O2.wr W6 gn_b2
  have K6 := K2.wr W6 (Or.inr sz_b2)
  have G6 : own_Go p.tables e below (s₁.setTop (entryFrame m #[(.int p0)] maxLocals)) (T6.setTop (mkF m 11 #[.val (.int p0), .unset, .unset, .unset] [(.ref b2)])) := fun t k => G5 t (st6 t k)
  have G7 : own_Go p.tables e below (s₁.setTop (entryFrame m #[(.int p0)] maxLocals)) (T6.setTop (mkF m 12 #[.val (.int p0), .unset, .unset, .unset] [(.ref b2), (.ref b2)])) := fun t k => G6 t (XS.dup X6.here hx rfl (hb hby at_11) rfl rfl k)
  have G8 : own_Go p.tables e below (s₁.setTop (entryFrame m #[(.int p0)] maxLocals)) (T6.setTop (mkF m 13 #[.val (.int p0), .unset, .unset, .unset] [(.int (1 : Int32)), (.ref b2), (.ref b2)])) := fun t k => G7 t (XT.iconstV X6.here hx rfl (1 : Int32) (hb hby at_12) (by decide) k)
  obtain ⟨T9, X9, e9, st9⟩ := getS2 X6 hx hZ hown (host := "") (Or.inl (hw _ (List.mem_of_getElem? (i := 6) rfl))) Via.refl e6 (S_BYTE.ext O6.2) (g := (mkF m 13 #[.val (.int p0), .unset, .unset, .unset] [(.int (1 : Int32)), (.ref b2), (.ref b2)])) rfl (hb hby at_13)
  have G9 : own_Go p.tables e below (s₁.setTop (entryFrame m #[(.int p0)] maxLocals)) (T9.setTop (mkF m 16 #[.val (.int p0), .unset, .unset, .unset] [(.ref a_BYTE), (.int (1 : Int32)), (.ref b2), (.ref b2)])) := fun t k => G8 t (st9 t k)
  obtain ⟨cl10, Ar10, qk10, Sz10, Nn10, Hs10, Gf10⟩ := Vn6
  obtain ⟨T10, h10, X10, e10, W10, st10⟩ := stR X9 hx hZ e9 Ar10 (j := (1 : Int32)) (inb_of Sz10 ⟨by decide, by decide⟩) rfl (Sto.ofV Ar10 qk10 V2 (Ins.self (E_BYTE.ext O6.2))) (g := (mkF m 16 #[.val (.int p0), .unset, .unset, .unset] [(.ref a_BYTE), (.int (1 : Int32)), (.ref b2), (.ref b2)])) rfl rfl (hb hby at_16)
  have Vn10 : Arv Z h10 b2 k2 (.object "com/example/upbound/upbound/program/JavaType$Kind") (11 : Int32) [(.ref a_BOOLEAN), (.ref a_BYTE), .null, .null, .null, .null, .null, .null, .null, .null, .null] .null := Arv.set Ar10 qk10 Sz10 Nn10 Hs10 Gf10 rfl W10 1 rfl (Nat.le_of_ble_eq_true rfl)
  have N10 := Fr.snoc X10 N6 gn_b2
  have O10 := O6.wr W10 gn_b2
  have K10 := K6.wr W10 (Or.inr sz_b2)
  have G10 : own_Go p.tables e below (s₁.setTop (entryFrame m #[(.int p0)] maxLocals)) (T10.setTop (mkF m 17 #[.val (.int p0), .unset, .unset, .unset] [(.ref b2)])) := fun t k => G9 t (st10 t k)
  have G11 : own_Go p.tables e below (s₁.setTop (entryFrame m #[(.int p0)] maxLocals)) (T10.setTop (mkF m 18 #[.val (.int p0), .unset, .unset, .unset] [(.ref b2), (.ref b2)])) := fun t k => G10 t (XS.dup X10.here hx rfl (hb hby at_17) rfl rfl k)
  have G12 : own_Go p.tables e below (s₁.setTop (entryFrame m #[(.int p0)] maxLocals)) (T10.setTop (mkF m 19 #[.val (.int p0), .unset, .unset, .unset] [(.int (2 : Int32)), (.ref b2), (.ref b2)])) := fun t k => G11 t (XT.iconstV X10.here hx rfl (2 : Int32) (hb hby at_18) (by decide) k)
  obtain ⟨T13, X13, e13, st13⟩ := getS2 X10 hx hZ hown (host := "") (Or.inl (hw _ (List.mem_of_getElem? (i := 8) rfl))) Via.refl e10 (S_CHAR.ext O10.2) (g := (mkF m 19 #[.val (.int p0), .unset, .unset, .unset] [(.int (2 : Int32)), (.ref b2), (.ref b2)])) rfl (hb hby at_19)
  have G13 : own_Go p.tables e below (s₁.setTop (entryFrame m #[(.int p0)] maxLocals)) (T13.setTop (mkF m 22 #[.val (.int p0), .unset, .unset, .unset] [(.ref a_CHAR), (.int (2 : Int32)), (.ref b2), (.ref b2)])) := fun t k => G12 t (st13 t k)
  obtain ⟨cl14, Ar14, qk14, Sz14, Nn14, Hs14, Gf14⟩ := Vn10
  obtain ⟨T14, h14, X14, e14, W14, st14⟩ := stR X13 hx hZ e13 Ar14 (j := (2 : Int32)) (inb_of Sz14 ⟨by decide, by decide⟩) rfl (Sto.ofV Ar14 qk14 V2 (Ins.self (E_CHAR.ext O10.2))) (g := (mkF m 22 #[.val (.int p0), .unset, .unset, .unset] [(.ref a_CHAR), (.int (2 : Int32)), (.ref b2), (.ref b2)])) rfl rfl (hb hby at_22)
  have Vn14 : Arv Z h14 b2 k2 (.object "com/example/upbound/upbound/program/JavaType$Kind") (11 : Int32) [(.ref a_BOOLEAN), (.ref a_BYTE), (.ref a_CHAR), .null, .null, .null, .null, .null, .null, .null, .null] .null := Arv.set Ar14 qk14 Sz14 Nn14 Hs14 Gf14 rfl W14 2 rfl (Nat.le_of_ble_eq_true rfl)
  have N14 := Fr.snoc X14 N10 gn_b2
  have O14 := O10.wr W14 gn_b2
  have K14 := K10.wr W14 (Or.inr sz_b2)
  have G14 : own_Go p.tables e below (s₁.setTop (entryFrame m #[(.int p0)] maxLocals)) (T14.setTop (mkF m 23 #[.val (.int p0), .unset, .unset, .unset] [(.ref b2)])) := fun t k => G13 t (st14 t k)
  have G15 : own_Go p.tables e below (s₁.setTop (entryFrame m #[(.int p0)] maxLocals)) (T14.setTop (mkF m 24 #[.val (.int p0), .unset, .unset, .unset] [(.ref b2), (.ref b2)])) := fun t k => G14 t (XS.dup X14.here hx rfl (hb hby at_23) rfl rfl k)
  have G16 : own_Go p.tables e below (s₁.setTop (entryFrame m #[(.int p0)] maxLocals)) (T14.setTop (mkF m 25 #[.val (.int p0), .unset, .unset, .unset] [(.int (3 : Int32)), (.ref b2), (.ref b2)])) := fun t k => G15 t (XT.iconstV X14.here hx rfl (3 : Int32) (hb hby at_24) (by decide) k)
  obtain ⟨T17, X17, e17, st17⟩ := getS2 X14 hx hZ hown (host := "") (Or.inl (hw _ (List.mem_of_getElem? (i := 10) rfl))) Via.refl e14 (S_SHORT.ext O14.2) (g := (mkF m 25 #[.val (.int p0), .unset, .unset, .unset] [(.int (3 : Int32)), (.ref b2), (.ref b2)])) rfl (hb hby at_25)
  have G17 : own_Go p.tables e below (s₁.setTop (entryFrame m #[(.int p0)] maxLocals)) (T17.setTop (mkF m 28 #[.val (.int p0), .unset, .unset, .unset] [(.ref a_SHORT), (.int (3 : Int32)), (.ref b2), (.ref b2)])) := fun t k => G16 t (st17 t k)
  obtain ⟨cl18, Ar18, qk18, Sz18, Nn18, Hs18, Gf18⟩ := Vn14
  obtain ⟨T18, h18, X18, e18, W18, st18⟩ := stR X17 hx hZ e17 Ar18 (j := (3 : Int32)) (inb_of Sz18 ⟨by decide, by decide⟩) rfl (Sto.ofV Ar18 qk18 V2 (Ins.self (E_SHORT.ext O14.2))) (g := (mkF m 28 #[.val (.int p0), .unset, .unset, .unset] [(.ref a_SHORT), (.int (3 : Int32)), (.ref b2), (.ref b2)])) rfl rfl (hb hby at_28)
  have Vn18 : Arv Z h18 b2 k2 (.object "com/example/upbound/upbound/program/JavaType$Kind") (11 : Int32) [(.ref a_BOOLEAN), (.ref a_BYTE), (.ref a_CHAR), (.ref a_SHORT), .null, .null, .null, .null, .null, .null, .null] .null := Arv.set Ar18 qk18 Sz18 Nn18 Hs18 Gf18 rfl W18 3 rfl (Nat.le_of_ble_eq_true rfl)
  have N18 := Fr.snoc X18 N14 gn_b2
  have O18 := O14.wr W18 gn_b2
  have K18 := K14.wr W18 (Or.inr sz_b2)
  have G18 : own_Go p.tables e below (s₁.setTop (entryFrame m #[(.int p0)] maxLocals)) (T18.setTop (mkF m 29 #[.val (.int p0), .unset, .unset, .unset] [(.ref b2)])) := fun t k => G17 t (st18 t k)
  have G19 : own_Go p.tables e below (s₁.setTop (entryFrame m #[(.int p0)] maxLocals)) (T18.setTop (mkF m 30 #[.val (.int p0), .unset, .unset, .unset] [(.ref b2), (.ref b2)])) := fun t k => G18 t (XS.dup X18.here hx rfl (hb hby at_29) rfl rfl k)
  have G20 : own_Go p.tables e below (s₁.setTop (entryFrame m #[(.int p0)] maxLocals)) (T18.setTop (mkF m 31 #[.val (.int p0), .unset, .unset, .unset] [(.int (4 : Int32)), (.ref b2), (.ref b2)])) := fun t k => G19 t (XT.iconstV X18.here hx rfl (4 : Int32) (hb hby at_30) (by decide) k)
  obtain ⟨T21, X21, e21, st21⟩ := getS2 X18 hx hZ hown (host := "") (Or.inl (hw _ (List.mem_of_getElem? (i := 12) rfl))) Via.refl e18 (S_INT.ext O18.2) (g := (mkF m 31 #[.val (.int p0), .unset, .unset, .unset] [(.int (4 : Int32)), (.ref b2), (.ref b2)])) rfl (hb hby at_31)
  have G21 : own_Go p.tables e below (s₁.setTop (entryFrame m #[(.int p0)] maxLocals)) (T21.setTop (mkF m 34 #[.val (.int p0), .unset, .unset, .unset] [(.ref a_INT), (.int (4 : Int32)), (.ref b2), (.ref b2)])) := fun t k => G20 t (st21 t k)
  obtain ⟨cl22, Ar22, qk22, Sz22, Nn22, Hs22, Gf22⟩ := Vn18
  obtain ⟨T22, h22, X22, e22, W22, st22⟩ := stR X21 hx hZ e21 Ar22 (j := (4 : Int32)) (inb_of Sz22 ⟨by decide, by decide⟩) rfl (Sto.ofV Ar22 qk22 V2 (Ins.self (E_INT.ext O18.2))) (g := (mkF m 34 #[.val (.int p0), .unset, .unset, .unset] [(.ref a_INT), (.int (4 : Int32)), (.ref b2), (.ref b2)])) rfl rfl (hb hby at_34)
  have Vn22 : Arv Z h22 b2 k2 (.object "com/example/upbound/upbound/program/JavaType$Kind") (11 : Int32) [(.ref a_BOOLEAN), (.ref a_BYTE), (.ref a_CHAR), (.ref a_SHORT), (.ref a_INT), .null, .null, .null, .null, .null, .null] .null := Arv.set Ar22 qk22 Sz22 Nn22 Hs22 Gf22 rfl W22 4 rfl (Nat.le_of_ble_eq_true rfl)
  have N22 := Fr.snoc X22 N18 gn_b2
  have O22 := O18.wr W22 gn_b2
  have K22 := K18.wr W22 (Or.inr sz_b2)
  have G22 : own_Go p.tables e below (s₁.setTop (entryFrame m #[(.int p0)] maxLocals)) (T22.setTop (mkF m 35 #[.val (.int p0), .unset, .unset, .unset] [(.ref b2)])) := fun t k => G21 t (st22 t k)
  have G23 : own_Go p.tables e below (s₁.setTop (entryFrame m #[(.int p0)] maxLocals)) (T22.setTop (mkF m 36 #[.val (.int p0), .unset, .unset, .unset] [(.ref b2), (.ref b2)])) := fun t k => G22 t (XS.dup X22.here hx rfl (hb hby at_35) rfl rfl k)
  have G24 : own_Go p.tables e below (s₁.setTop (entryFrame m #[(.int p0)] maxLocals)) (T22.setTop (mkF m 37 #[.val (.int p0), .unset, .unset, .unset] [(.int (5 : Int32)), (.ref b2), (.ref b2)])) := fun t k => G23 t (XT.iconstV X22.here hx rfl (5 : Int32) (hb hby at_36) (by decide) k)
  obtain ⟨T25, X25, e25, st25⟩ := getS2 X22 hx hZ hown (host := "") (Or.inl (hw _ (List.mem_of_getElem? (i := 14) rfl))) Via.refl e22 (S_LONG.ext O22.2) (g := (mkF m 37 #[.val (.int p0), .unset, .unset, .unset] [(.int (5 : Int32)), (.ref b2), (.ref b2)])) rfl (hb hby at_37)
  have G25 : own_Go p.tables e below (s₁.setTop (entryFrame m #[(.int p0)] maxLocals)) (T25.setTop (mkF m 40 #[.val (.int p0), .unset, .unset, .unset] [(.ref a_LONG), (.int (5 : Int32)), (.ref b2), (.ref b2)])) := fun t k => G24 t (st25 t k)
  obtain ⟨cl26, Ar26, qk26, Sz26, Nn26, Hs26, Gf26⟩ := Vn22
  obtain ⟨T26, h26, X26, e26, W26, st26⟩ := stR X25 hx hZ e25 Ar26 (j := (5 : Int32)) (inb_of Sz26 ⟨by decide, by decide⟩) rfl (Sto.ofV Ar26 qk26 V2 (Ins.self (E_LONG.ext O22.2))) (g := (mkF m 40 #[.val (.int p0), .unset, .unset, .unset] [(.ref a_LONG), (.int (5 : Int32)), (.ref b2), (.ref b2)])) rfl rfl (hb hby at_40)
  have Vn26 : Arv Z h26 b2 k2 (.object "com/example/upbound/upbound/program/JavaType$Kind") (11 : Int32) [(.ref a_BOOLEAN), (.ref a_BYTE), (.ref a_CHAR), (.ref a_SHORT), (.ref a_INT), (.ref a_LONG), .null, .null, .null, .null, .null] .null := Arv.set Ar26 qk26 Sz26 Nn26 Hs26 Gf26 rfl W26 5 rfl (Nat.le_of_ble_eq_true rfl)
  have N26 := Fr.snoc X26 N22 gn_b2
  have O26 := O22.wr W26 gn_b2
  have K26 := K22.wr W26 (Or.inr sz_b2)
  have G26 : own_Go p.tables e below (s₁.setTop (entryFrame m #[(.int p0)] maxLocals)) (T26.setTop (mkF m 41 #[.val (.int p0), .unset, .unset, .unset] [(.ref b2)])) := fun t k => G25 t (st26 t k)
  have G27 : own_Go p.tables e below (s₁.setTop (entryFrame m #[(.int p0)] maxLocals)) (T26.setTop (mkF m 42 #[.val (.int p0), .unset, .unset, .unset] [(.ref b2), (.ref b2)])) := fun t k => G26 t (XS.dup X26.here hx rfl (hb hby at_41) rfl rfl k)
  have G28 : own_Go p.tables e below (s₁.setTop (entryFrame m #[(.int p0)] maxLocals)) (T26.setTop (mkF m 44 #[.val (.int p0), .unset, .unset, .unset] [(.int (6 : Int32)), (.ref b2), (.ref b2)])) := fun t k => G27 t (XT.bipushV X26.here hx rfl (6 : Int32) (hb hby at_42) (by decide) k)
  obtain ⟨T29, X29, e29, st29⟩ := getS2 X26 hx hZ hown (host := "") (Or.inl (hw _ (List.mem_of_getElem? (i := 16) rfl))) Via.refl e26 (S_FLOAT.ext O26.2) (g := (mkF m 44 #[.val (.int p0), .unset, .unset, .unset] [(.int (6 : Int32)), (.ref b2), (.ref b2)])) rfl (hb hby at_44)
  have G29 : own_Go p.tables e below (s₁.setTop (entryFrame m #[(.int p0)] maxLocals)) (T29.setTop (mkF m 47 #[.val (.int p0), .unset, .unset, .unset] [(.ref a_FLOAT), (.int (6 : Int32)), (.ref b2), (.ref b2)])) := fun t k => G28 t (st29 t k)
  obtain ⟨cl30, Ar30, qk30, Sz30, Nn30, Hs30, Gf30⟩ := Vn26
  obtain ⟨T30, h30, X30, e30, W30, st30⟩ := stR X29 hx hZ e29 Ar30 (j := (6 : Int32)) (inb_of Sz30 ⟨by decide, by decide⟩) rfl (Sto.ofV Ar30 qk30 V2 (Ins.self (E_FLOAT.ext O26.2))) (g := (mkF m 47 #[.val (.int p0), .unset, .unset, .unset] [(.ref a_FLOAT), (.int (6 : Int32)), (.ref b2), (.ref b2)])) rfl rfl (hb hby at_47)
  have Vn30 : Arv Z h30 b2 k2 (.object "com/example/upbound/upbound/program/JavaType$Kind") (11 : Int32) [(.ref a_BOOLEAN), (.ref a_BYTE), (.ref a_CHAR), (.ref a_SHORT), (.ref a_INT), (.ref a_LONG), (.ref a_FLOAT), .null, .null, .null, .null] .null := Arv.set Ar30 qk30 Sz30 Nn30 Hs30 Gf30 rfl W30 6 rfl (Nat.le_of_ble_eq_true rfl)
  have N30 := Fr.snoc X30 N26 gn_b2
  have O30 := O26.wr W30 gn_b2
  have K30 := K26.wr W30 (Or.inr sz_b2)
  have G30 : own_Go p.tables e below (s₁.setTop (entryFrame m #[(.int p0)] maxLocals)) (T30.setTop (mkF m 48 #[.val (.int p0), .unset, .unset, .unset] [(.ref b2)])) := fun t k => G29 t (st30 t k)
  have G31 : own_Go p.tables e below (s₁.setTop (entryFrame m #[(.int p0)] maxLocals)) (T30.setTop (mkF m 49 #[.val (.int p0), .unset, .unset, .unset] [(.ref b2), (.ref b2)])) := fun t k => G30 t (XS.dup X30.here hx rfl (hb hby at_48) rfl rfl k)
  have G32 : own_Go p.tables e below (s₁.setTop (entryFrame m #[(.int p0)] maxLocals)) (T30.setTop (mkF m 51 #[.val (.int p0), .unset, .unset, .unset] [(.int (7 : Int32)), (.ref b2), (.ref b2)])) := fun t k => G31 t (XT.bipushV X30.here hx rfl (7 : Int32) (hb hby at_49) (by decide) k)
  obtain ⟨T33, X33, e33, st33⟩ := getS2 X30 hx hZ hown (host := "") (Or.inl (hw _ (List.mem_of_getElem? (i := 18) rfl))) Via.refl e30 (S_DOUBLE.ext O30.2) (g := (mkF m 51 #[.val (.int p0), .unset, .unset, .unset] [(.int (7 : Int32)), (.ref b2), (.ref b2)])) rfl (hb hby at_51)
  have G33 : own_Go p.tables e below (s₁.setTop (entryFrame m #[(.int p0)] maxLocals)) (T33.setTop (mkF m 54 #[.val (.int p0), .unset, .unset, .unset] [(.ref a_DOUBLE), (.int (7 : Int32)), (.ref b2), (.ref b2)])) := fun t k => G32 t (st33 t k)
  obtain ⟨cl34, Ar34, qk34, Sz34, Nn34, Hs34, Gf34⟩ := Vn30
  obtain ⟨T34, h34, X34, e34, W34, st34⟩ := stR X33 hx hZ e33 Ar34 (j := (7 : Int32)) (inb_of Sz34 ⟨by decide, by decide⟩) rfl (Sto.ofV Ar34 qk34 V2 (Ins.self (E_DOUBLE.ext O30.2))) (g := (mkF m 54 #[.val (.int p0), .unset, .unset, .unset] [(.ref a_DOUBLE), (.int (7 : Int32)), (.ref b2), (.ref b2)])) rfl rfl (hb hby at_54)
  have Vn34 : Arv Z h34 b2 k2 (.object "com/example/upbound/upbound/program/JavaType$Kind") (11 : Int32) [(.ref a_BOOLEAN), (.ref a_BYTE), (.ref a_CHAR), (.ref a_SHORT), (.ref a_INT), (.ref a_LONG), (.ref a_FLOAT), (.ref a_DOUBLE), .null, .null, .null] .null := Arv.set Ar34 qk34 Sz34 Nn34 Hs34 Gf34 rfl W34 7 rfl (Nat.le_of_ble_eq_true rfl)
  have N34 := Fr.snoc X34 N30 gn_b2
  have O34 := O30.wr W34 gn_b2
  have K34 := K30.wr W34 (Or.inr sz_b2)
  have G34 : own_Go p.tables e below (s₁.setTop (entryFrame m #[(.int p0)] maxLocals)) (T34.setTop (mkF m 55 #[.val (.int p0), .unset, .unset, .unset] [(.ref b2)])) := fun t k => G33 t (st34 t k)
  have G35 : own_Go p.tables e below (s₁.setTop (entryFrame m #[(.int p0)] maxLocals)) (T34.setTop (mkF m 56 #[.val (.int p0), .unset, .unset, .unset] [(.ref b2), (.ref b2)])) := fun t k => G34 t (XS.dup X34.here hx rfl (hb hby at_55) rfl rfl k)
  have G36 : own_Go p.tables e below (s₁.setTop (entryFrame m #[(.int p0)] maxLocals)) (T34.setTop (mkF m 58 #[.val (.int p0), .unset, .unset, .unset] [(.int (8 : Int32)), (.ref b2), (.ref b2)])) := fun t k => G35 t (XT.bipushV X34.here hx rfl (8 : Int32) (hb hby at_56) (by decide) k)
  obtain ⟨T37, X37, e37, st37⟩ := getS2 X34 hx hZ hown (host := "") (Or.inl (hw _ (List.mem_of_getElem? (i := 20) rfl))) Via.refl e34 (S_ARRAY.ext O34.2) (g := (mkF m 58 #[.val (.int p0), .unset, .unset, .unset] [(.int (8 : Int32)), (.ref b2), (.ref b2)])) rfl (hb hby at_58)
  have G37 : own_Go p.tables e below (s₁.setTop (entryFrame m #[(.int p0)] maxLocals)) (T37.setTop (mkF m 61 #[.val (.int p0), .unset, .unset, .unset] [(.ref a_ARRAY), (.int (8 : Int32)), (.ref b2), (.ref b2)])) := fun t k => G36 t (st37 t k)
  obtain ⟨cl38, Ar38, qk38, Sz38, Nn38, Hs38, Gf38⟩ := Vn34
  obtain ⟨T38, h38, X38, e38, W38, st38⟩ := stR X37 hx hZ e37 Ar38 (j := (8 : Int32)) (inb_of Sz38 ⟨by decide, by decide⟩) rfl (Sto.ofV Ar38 qk38 V2 (Ins.self (E_ARRAY.ext O34.2))) (g := (mkF m 61 #[.val (.int p0), .unset, .unset, .unset] [(.ref a_ARRAY), (.int (8 : Int32)), (.ref b2), (.ref b2)])) rfl rfl (hb hby at_61)
  have Vn38 : Arv Z h38 b2 k2 (.object "com/example/upbound/upbound/program/JavaType$Kind") (11 : Int32) [(.ref a_BOOLEAN), (.ref a_BYTE), (.ref a_CHAR), (.ref a_SHORT), (.ref a_INT), (.ref a_LONG), (.ref a_FLOAT), (.ref a_DOUBLE), (.ref a_ARRAY), .null, .null] .null := Arv.set Ar38 qk38 Sz38 Nn38 Hs38 Gf38 rfl W38 8 rfl (Nat.le_of_ble_eq_true rfl)
  have N38 := Fr.snoc X38 N34 gn_b2
  have O38 := O34.wr W38 gn_b2
  have K38 := K34.wr W38 (Or.inr sz_b2)
  have G38 : own_Go p.tables e below (s₁.setTop (entryFrame m #[(.int p0)] maxLocals)) (T38.setTop (mkF m 62 #[.val (.int p0), .unset, .unset, .unset] [(.ref b2)])) := fun t k => G37 t (st38 t k)
  have G39 : own_Go p.tables e below (s₁.setTop (entryFrame m #[(.int p0)] maxLocals)) (T38.setTop (mkF m 63 #[.val (.int p0), .unset, .unset, .unset] [(.ref b2), (.ref b2)])) := fun t k => G38 t (XS.dup X38.here hx rfl (hb hby at_62) rfl rfl k)
  have G40 : own_Go p.tables e below (s₁.setTop (entryFrame m #[(.int p0)] maxLocals)) (T38.setTop (mkF m 65 #[.val (.int p0), .unset, .unset, .unset] [(.int (9 : Int32)), (.ref b2), (.ref b2)])) := fun t k => G39 t (XT.bipushV X38.here hx rfl (9 : Int32) (hb hby at_63) (by decide) k)
  obtain ⟨T41, X41, e41, st41⟩ := getS2 X38 hx hZ hown (host := "") (Or.inl (hw _ (List.mem_of_getElem? (i := 22) rfl))) Via.refl e38 (S_INTERFACE.ext O38.2) (g := (mkF m 65 #[.val (.int p0), .unset, .unset, .unset] [(.int (9 : Int32)), (.ref b2), (.ref b2)])) rfl (hb hby at_65)
  have G41 : own_Go p.tables e below (s₁.setTop (entryFrame m #[(.int p0)] maxLocals)) (T41.setTop (mkF m 68 #[.val (.int p0), .unset, .unset, .unset] [(.ref a_INTERFACE), (.int (9 : Int32)), (.ref b2), (.ref b2)])) := fun t k => G40 t (st41 t k)
  obtain ⟨cl42, Ar42, qk42, Sz42, Nn42, Hs42, Gf42⟩ := Vn38
  obtain ⟨T42, h42, X42, e42, W42, st42⟩ := stR X41 hx hZ e41 Ar42 (j := (9 : Int32)) (inb_of Sz42 ⟨by decide, by decide⟩) rfl (Sto.ofV Ar42 qk42 V2 (Ins.self (E_INTERFACE.ext O38.2))) (g := (mkF m 68 #[.val (.int p0), .unset, .unset, .unset] [(.ref a_INTERFACE), (.int (9 : Int32)), (.ref b2), (.ref b2)])) rfl rfl (hb hby at_68)
  have Vn42 : Arv Z h42 b2 k2 (.object "com/example/upbound/upbound/program/JavaType$Kind") (11 : Int32) [(.ref a_BOOLEAN), (.ref a_BYTE), (.ref a_CHAR), (.ref a_SHORT), (.ref a_INT), (.ref a_LONG), (.ref a_FLOAT), (.ref a_DOUBLE), (.ref a_ARRAY), (.ref a_INTERFACE), .null] .null := Arv.set Ar42 qk42 Sz42 Nn42 Hs42 Gf42 rfl W42 9 rfl (Nat.le_of_ble_eq_true rfl)
  have N42 := Fr.snoc X42 N38 gn_b2
  have O42 := O38.wr W42 gn_b2
  have K42 := K38.wr W42 (Or.inr sz_b2)
  have G42 : own_Go p.tables e below (s₁.setTop (entryFrame m #[(.int p0)] maxLocals)) (T42.setTop (mkF m 69 #[.val (.int p0), .unset, .unset, .unset] [(.ref b2)])) := fun t k => G41 t (st42 t k)
  have G43 : own_Go p.tables e below (s₁.setTop (entryFrame m #[(.int p0)] maxLocals)) (T42.setTop (mkF m 70 #[.val (.int p0), .unset, .unset, .unset] [(.ref b2), (.ref b2)])) := fun t k => G42 t (XS.dup X42.here hx rfl (hb hby at_69) rfl rfl k)
  have G44 : own_Go p.tables e below (s₁.setTop (entryFrame m #[(.int p0)] maxLocals)) (T42.setTop (mkF m 72 #[.val (.int p0), .unset, .unset, .unset] [(.int (10 : Int32)), (.ref b2), (.ref b2)])) := fun t k => G43 t (XT.bipushV X42.here hx rfl (10 : Int32) (hb hby at_70) (by decide) k)
  obtain ⟨T45, X45, e45, st45⟩ := getS2 X42 hx hZ hown (host := "") (Or.inl (hw _ (List.mem_of_getElem? (i := 24) rfl))) Via.refl e42 (S_OBJECT.ext O42.2) (g := (mkF m 72 #[.val (.int p0), .unset, .unset, .unset] [(.int (10 : Int32)), (.ref b2), (.ref b2)])) rfl (hb hby at_72)
  have G45 : own_Go p.tables e below (s₁.setTop (entryFrame m #[(.int p0)] maxLocals)) (T45.setTop (mkF m 75 #[.val (.int p0), .unset, .unset, .unset] [(.ref a_OBJECT), (.int (10 : Int32)), (.ref b2), (.ref b2)])) := fun t k => G44 t (st45 t k)
  obtain ⟨cl46, Ar46, qk46, Sz46, Nn46, Hs46, Gf46⟩ := Vn42
  obtain ⟨T46, h46, X46, e46, W46, st46⟩ := stR X45 hx hZ e45 Ar46 (j := (10 : Int32)) (inb_of Sz46 ⟨by decide, by decide⟩) rfl (Sto.ofV Ar46 qk46 V2 (Ins.self (E_OBJECT.ext O42.2))) (g := (mkF m 75 #[.val (.int p0), .unset, .unset, .unset] [(.ref a_OBJECT), (.int (10 : Int32)), (.ref b2), (.ref b2)])) rfl rfl (hb hby at_75)
  have Vn46 : Arv Z h46 b2 k2 (.object "com/example/upbound/upbound/program/JavaType$Kind") (11 : Int32) [(.ref a_BOOLEAN), (.ref a_BYTE), (.ref a_CHAR), (.ref a_SHORT), (.ref a_INT), (.ref a_LONG), (.ref a_FLOAT), (.ref a_DOUBLE), (.ref a_ARRAY), (.ref a_INTERFACE), (.ref a_OBJECT)] .null := Arv.set Ar46 qk46 Sz46 Nn46 Hs46 Gf46 rfl W46 10 rfl (Nat.le_of_ble_eq_true rfl)
  have N46 := Fr.snoc X46 N42 gn_b2
  have O46 := O42.wr W46 gn_b2
  have K46 := K42.wr W46 (Or.inr sz_b2)
  have G46 : own_Go p.tables e below (s₁.setTop (entryFrame m #[(.int p0)] maxLocals)) (T46.setTop (mkF m 76 #[.val (.int p0), .unset, .unset, .unset] [(.ref b2)])) := fun t k => G45 t (st46 t k)
  have G47 : own_Go p.tables e below (s₁.setTop (entryFrame m #[(.int p0)] maxLocals)) (T46.setTop (mkF m 77 #[.val (.int p0), .val (.ref b2), .unset, .unset] [])) := fun t k => G46 t (XS.astoreN X46.here hx rfl (hb hby at_76) rfl rfl (l' := #[.val (.int p0), .val (.ref b2), .unset, .unset]) rfl k)
  have G48 : own_Go p.tables e below (s₁.setTop (entryFrame m #[(.int p0)] maxLocals)) (T46.setTop (mkF m 78 #[.val (.int p0), .val (.ref b2), .unset, .unset] [(.int p0)])) := fun t k => G47 t (XS.iloadN X46.here hx rfl (hb hby at_77) rfl k)
  have G49 : own_Go p.tables e below (s₁.setTop (entryFrame m #[(.int p0)] maxLocals)) (T46.setTop (mkF m 80 #[.val (.int p0), .val (.ref b2), .unset, .unset] [(.int (2147483647 : Int32)), (.int p0)])) := fun t k => G48 t (X46.ldcInt hx hown (mvT hZ (hw _ (List.mem_of_getElem? (i := 26) rfl))) (g := (mkF m 78 #[.val (.int p0), .val (.ref b2), .unset, .unset] [(.int p0)])) rfl (hb hby at_78) t k)
  have G50 : own_Go p.tables e below (s₁.setTop (entryFrame m #[(.int p0)] maxLocals)) (T46.setTop (mkF m 81 #[.val (.int p0), .val (.ref b2), .unset, .unset] [(.int (p0 &&& (2147483647 : Int32)))])) := fun t k => G49 t (XS.iand X46.here hx rfl (hb hby at_80) rfl k)
  have G51 : own_Go p.tables e below (s₁.setTop (entryFrame m #[(.int p0)] maxLocals)) (T46.setTop (mkF m 83 #[.val (.int p0), .val (.ref b2), .unset, .unset] [(.int (11 : Int32)), (.int (p0 &&& (2147483647 : Int32)))])) := fun t k => G50 t (XT.bipushV X46.here hx rfl (11 : Int32) (hb hby at_81) (by decide) k)
  have G52 : own_Go p.tables e below (s₁.setTop (entryFrame m #[(.int p0)] maxLocals)) (T46.setTop (mkF m 84 #[.val (.int p0), .val (.ref b2), .unset, .unset] [(.int ((p0 &&& (2147483647 : Int32)) % (11 : Int32)))])) := fun t k => G51 t (iremM X46 hx rfl (hb hby at_83) rfl (by decide) k)
  have G53 : own_Go p.tables e below (s₁.setTop (entryFrame m #[(.int p0)] maxLocals)) (T46.setTop (mkF m 85 #[.val (.int p0), .val (.ref b2), .val (.int ((p0 &&& (2147483647 : Int32)) % (11 : Int32))), .unset] [])) := fun t k => G52 t (XS.istoreN X46.here hx rfl (hb hby at_84) rfl (l' := #[.val (.int p0), .val (.ref b2), .val (.int ((p0 &&& (2147483647 : Int32)) % (11 : Int32))), .unset]) rfl k)
  obtain ⟨z54, hz54, G54⟩ : ∃ z54 : Int32, z54 = ((p0 &&& (2147483647 : Int32)) % (11 : Int32)) ∧ own_Go p.tables e below (s₁.setTop (entryFrame m #[(.int p0)] maxLocals)) (T46.setTop (mkF m 85 #[.val (.int p0), .val (.ref b2), .val (.int z54), .unset] [])) := ⟨_, rfl, G53⟩
  have G55 : own_Go p.tables e below (s₁.setTop (entryFrame m #[(.int p0)] maxLocals)) (T46.setTop (mkF m 86 #[.val (.int p0), .val (.ref b2), .val (.int z54), .unset] [(.int z54)])) := fun t k => G54 t (XS.iloadN X46.here hx rfl (hb hby at_85) rfl k)
  have G56 : own_Go p.tables e below (s₁.setTop (entryFrame m #[(.int p0)] maxLocals)) (T46.setTop (mkF m 87 #[.val (.int p0), .val (.ref b2), .val (.int z54), .unset] [(.int (5 : Int32)), (.int z54)])) := fun t k => G55 t (XT.iconstV X46.here hx rfl (5 : Int32) (hb hby at_86) (by decide) k)
  obtain ⟨z57_0, hz57_0, G57⟩ : ∃ (z57_0 : Int32), z57_0 = (if (5 : Int32) < z54 then (0 : Int32) else (1 : Int32)) ∧ own_Go p.tables e below (s₁.setTop (entryFrame m #[(.int p0)] maxLocals)) (T46.setTop (mkF m 95 #[.val (.int p0), .val (.ref b2), .val (.int z54), .unset] [(.int z57_0)])) := by
    by_cases hc57 : (5 : Int32) < z54
    · have G58 : own_Go p.tables e below (s₁.setTop (entryFrame m #[(.int p0)] maxLocals)) (T46.setTop (mkF m 94 #[.val (.int p0), .val (.ref b2), .val (.int z54), .unset] [])) := fun t k => G56 t (XS.icmpYes X46.here hx rfl (pc0 := 87) (pc' := 94) rfl (hb hby at_87) rfl (tlt hc57).2.2.1 (by decide) (by decide) k)
      have G59 : own_Go p.tables e below (s₁.setTop (entryFrame m #[(.int p0)] maxLocals)) (T46.setTop (mkF m 95 #[.val (.int p0), .val (.ref b2), .val (.int z54), .unset] [(.int (0 : Int32))])) := fun t k => G58 t (XT.iconstV X46.here hx rfl (0 : Int32) (hb hby at_94) (by decide) k)
      exact ⟨_, (if_pos hc57).symm, G59⟩
    · have G60 : own_Go p.tables e below (s₁.setTop (entryFrame m #[(.int p0)] maxLocals)) (T46.setTop (mkF m 90 #[.val (.int p0), .val (.ref b2), .val (.int z54), .unset] [])) := fun t k => G56 t (XS.icmpNo X46.here hx rfl (hb hby at_87) rfl (flt hc57).2.2.1 k)
      have G61 : own_Go p.tables e below (s₁.setTop (entryFrame m #[(.int p0)] maxLocals)) (T46.setTop (mkF m 91 #[.val (.int p0), .val (.ref b2), .val (.int z54), .unset] [(.int (1 : Int32))])) := fun t k => G60 t (XT.iconstV X46.here hx rfl (1 : Int32) (hb hby at_90) (by decide) k)
      have G62 : own_Go p.tables e below (s₁.setTop (entryFrame m #[(.int p0)] maxLocals)) (T46.setTop (mkF m 95 #[.val (.int p0), .val (.ref b2), .val (.int z54), .unset] [(.int (1 : Int32))])) := fun t k => G61 t (XS.goto X46.here hx rfl (pc0 := 91) (pc' := 95) rfl (hb hby at_91) (by decide) (by decide) k)
      exact ⟨_, (if_neg hc57).symm, G62⟩
  have G63 : own_Go p.tables e below (s₁.setTop (entryFrame m #[(.int p0)] maxLocals)) (T46.setTop (mkF m 96 #[.val (.int p0), .val (.ref b2), .val (.int z54), .val (.int z57_0)] [])) := fun t k => G57 t (XS.istoreN X46.here hx rfl (hb hby at_95) rfl (l' := #[.val (.int p0), .val (.ref b2), .val (.int z54), .val (.int z57_0)]) rfl k)
  have G64 : own_Go p.tables e below (s₁.setTop (entryFrame m #[(.int p0)] maxLocals)) (T46.setTop (mkF m 97 #[.val (.int p0), .val (.ref b2), .val (.int z54), .val (.int z57_0)] [(.ref b2)])) := fun t k => G63 t (XS.aloadN X46.here hx rfl (hb hby at_96) rfl rfl k)
  have G65 : own_Go p.tables e below (s₁.setTop (entryFrame m #[(.int p0)] maxLocals)) (T46.setTop (mkF m 98 #[.val (.int p0), .val (.ref b2), .val (.int z54), .val (.int z57_0)] [(.int z54), (.ref b2)])) := fun t k => G64 t (XS.iloadN X46.here hx rfl (hb hby at_97) rfl k)
  rcases own_eleven (by rw [hz54]; exact own_k11 _ : 0 ≤ z54.toInt ∧ z54.toInt < 11) with rfl | rfl | rfl | rfl | rfl | rfl | rfl | rfl | rfl | rfl | rfl
  · obtain ⟨cl66, Ar66, qk66, Sz66, Nn66, Hs66, Gf66⟩ := Vn46
    have hin66 : ¬ ((0 : Int32) < 0 ∨ cl66.slots.size ≤ ((0 : Int32)).toNatClampNeg) := inb_of Sz66 ⟨by decide, by decide⟩
    have G66 : own_Go p.tables e below (s₁.setTop (entryFrame m #[(.int p0)] maxLocals)) (T46.setTop (mkF m 99 #[.val (.int p0), .val (.ref b2), .val (.int (0 : Int32)), .val (.int z57_0)] [(.ref a_BOOLEAN)])) := fun t k => G65 t (X46.aaload hx (by rw [e46]; exact Ar66.1) (State.isArrayOf_alike hZ.alike Ar66.2.1) rfl Ar66.2.2 hin66 (Hs66.at hin66 rfl) (g := (mkF m 98 #[.val (.int p0), .val (.ref b2), .val (.int (0 : Int32)), .val (.int z57_0)] [(.int (0 : Int32)), (.ref b2)])) rfl rfl (hb hby at_98) t k)
    obtain ⟨cq67, kq67, q67a, q67b, q67c⟩ := isOf hZ e46 (E_BOOLEAN.ext O46.2)
    obtain ⟨vv67, _, ⟨T67, L67, k67, n67⟩, -, X67, ⟨Lc67, hQ67, l67, y67, z67⟩, st67⟩ := X46.virtualBack hx (y := (⟨"com/example/upbound/upbound/program/JavaType$Kind", "isIntegral", "()Z"⟩ : MethodName)) (z := (⟨"com/example/upbound/upbound/program/JavaType$Kind", "isIntegral", "()Z"⟩ : MethodName)) hown (mvT hZ (hw _ (List.mem_of_getElem? (i := 27) rfl))) (mvT hZ (hw _ (List.mem_of_getElem? (i := 28) rfl))) (notFace_of_selects (args := #[]) (mvT hZ (hw _ (List.mem_of_getElem? (i := 30) rfl)))) (mvT hZ (hw _ (List.mem_of_getElem? (i := 30) rfl))) (mvT hZ (hw _ (List.mem_of_getElem? (i := 29) rfl))) (by decide) (backOf (W := 0) (rm1 l Z a0 hw [] a_BOOLEAN m_BOOLEAN h46 (F_BOOLEAN.ext O46.2)) hZ (hw _ (List.mem_of_getElem? (i := 31) rfl)) (hw _ (List.mem_of_getElem? (i := 3) rfl)) (by decide) (by decide)) q67a q67c (g := (mkF m 99 #[.val (.int p0), .val (.ref b2), .val (.int (0 : Int32)), .val (.int z57_0)] [(.ref a_BOOLEAN)])) rfl (by rw [hml]; rfl) (Steps.refl _) (argsL := []) (rest := []) (lenOf pd_0_0 rfl) rfl (by show 2 * 0 + _ ≤ _; exact Nat.le_of_eq rfl) (hb hby at_99) (fun _ _ => ⟨rfl, e46, (by decide : 1 + 0 ≤ _), (by decide : 11 + 0 ≤ _)⟩)
    dsimp only [Pt.U, Pt.locs, Pt.cells, Pt.slots] at X67 l67 y67 z67 st67 hQ67
    subst l67 y67 z67
    obtain ⟨rfl, rfl, e67⟩ := hQ67
    rw [List.append_nil] at X67
    have G67 : own_Go p.tables e below (s₁.setTop (entryFrame m #[(.int p0)] maxLocals)) (T67.setTop (mkF m 102 #[.val (.int p0), .val (.ref b2), .val (.int (0 : Int32)), .val (.int z57_0)] [(.int (1 : Int32))])) := fun t k => G66 t (st67.trans k)
    have G68 : own_Go p.tables e below (s₁.setTop (entryFrame m #[(.int p0)] maxLocals)) (T67.setTop (mkF m 103 #[.val (.int p0), .val (.ref b2), .val (.int (0 : Int32)), .val (.int z57_0)] [(.int z57_0), (.int (1 : Int32))])) := fun t k => G67 t (XS.iloadN X67.here hx rfl (hb hby at_102) rfl k)
    have hk69 : (1 : Int32) = z57_0 := by rw [hz57_0]; decide
    have G70 : own_Go p.tables e below (s₁.setTop (entryFrame m #[(.int p0)] maxLocals)) (T67.setTop (mkF m 106 #[.val (.int p0), .val (.ref b2), .val (.int (0 : Int32)), .val (.int z57_0)] [])) := fun t k => G68 t (XS.icmpNo X67.here hx rfl (hb hby at_103) rfl (teq hk69).2 k)
    have G71 : own_Go p.tables e below (s₁.setTop (entryFrame m #[(.int p0)] maxLocals)) (T67.setTop (mkF m 107 #[.val (.int p0), .val (.ref b2), .val (.int (0 : Int32)), .val (.int z57_0)] [(.int (1 : Int32))])) := fun t k => G70 t (XT.iconstV X67.here hx rfl (1 : Int32) (hb hby at_106) (by decide) k)
    have G72 : own_Go p.tables e below (s₁.setTop (entryFrame m #[(.int p0)] maxLocals)) (T67.setTop (mkF m 111 #[.val (.int p0), .val (.ref b2), .val (.int (0 : Int32)), .val (.int z57_0)] [(.int (1 : Int32))])) := fun t k => G71 t (XS.goto X67.here hx rfl (pc0 := 107) (pc' := 111) rfl (hb hby at_107) (by decide) (by decide) k)
    obtain ⟨fs, hr, hrun, hended, hW, hsame⟩ := X67.leave (v := some (.int (nar .boolean (1 : Int32)))) (fun h => by rw [Bd.returns] at h; cases h)
    refine ⟨_, _, G72 _ ?_, hrun, hended, _, _, rfl, ?_, ⟨_, rfl⟩, hW, hsame.mono (by decide) (by decide)⟩
    · exact retN X67 hx (t := .boolean) Bd.returns (by simp) (hb hby at_111) hr
    · show Q0 Z p0 a_BOOLEAN a_BYTE a_CHAR a_SHORT a_INT a_LONG a_FLOAT a_DOUBLE a_ARRAY a_INTERFACE a_OBJECT m_BOOLEAN m_BYTE m_CHAR m_SHORT m_INT m_LONG h0 _ T67.heap _
      rw [e67]
      exact ⟨rfl, N46, K46⟩
  · obtain ⟨cl74, Ar74, qk74, Sz74, Nn74, Hs74, Gf74⟩ := Vn46
    have hin74 : ¬ ((1 : Int32) < 0 ∨ cl74.slots.size ≤ ((1 : Int32)).toNatClampNeg) := inb_of Sz74 ⟨by decide, by decide⟩
    have G74 : own_Go p.tables e below (s₁.setTop (entryFrame m #[(.int p0)] maxLocals)) (T46.setTop (mkF m 99 #[.val (.int p0), .val (.ref b2), .val (.int (1 : Int32)), .val (.int z57_0)] [(.ref a_BYTE)])) := fun t k => G65 t (X46.aaload hx (by rw [e46]; exact Ar74.1) (State.isArrayOf_alike hZ.alike Ar74.2.1) rfl Ar74.2.2 hin74 (Hs74.at hin74 rfl) (g := (mkF m 98 #[.val (.int p0), .val (.ref b2), .val (.int (1 : Int32)), .val (.int z57_0)] [(.int (1 : Int32)), (.ref b2)])) rfl rfl (hb hby at_98) t k)
    obtain ⟨cq75, kq75, q75a, q75b, q75c⟩ := isOf hZ e46 (E_BYTE.ext O46.2)
    obtain ⟨vv75, _, ⟨T75, L75, k75, n75⟩, -, X75, ⟨Lc75, hQ75, l75, y75, z75⟩, st75⟩ := X46.virtualBack hx (y := (⟨"com/example/upbound/upbound/program/JavaType$Kind", "isIntegral", "()Z"⟩ : MethodName)) (z := (⟨"com/example/upbound/upbound/program/JavaType$Kind", "isIntegral", "()Z"⟩ : MethodName)) hown (mvT hZ (hw _ (List.mem_of_getElem? (i := 27) rfl))) (mvT hZ (hw _ (List.mem_of_getElem? (i := 28) rfl))) (notFace_of_selects (args := #[]) (mvT hZ (hw _ (List.mem_of_getElem? (i := 30) rfl)))) (mvT hZ (hw _ (List.mem_of_getElem? (i := 30) rfl))) (mvT hZ (hw _ (List.mem_of_getElem? (i := 29) rfl))) (by decide) (backOf (W := 0) (rm1 l Z a0 hw [] a_BYTE m_BYTE h46 (F_BYTE.ext O46.2)) hZ (hw _ (List.mem_of_getElem? (i := 31) rfl)) (hw _ (List.mem_of_getElem? (i := 3) rfl)) (by decide) (by decide)) q75a q75c (g := (mkF m 99 #[.val (.int p0), .val (.ref b2), .val (.int (1 : Int32)), .val (.int z57_0)] [(.ref a_BYTE)])) rfl (by rw [hml]; rfl) (Steps.refl _) (argsL := []) (rest := []) (lenOf pd_0_0 rfl) rfl (by show 2 * 0 + _ ≤ _; exact Nat.le_of_eq rfl) (hb hby at_99) (fun _ _ => ⟨rfl, e46, (by decide : 1 + 0 ≤ _), (by decide : 11 + 0 ≤ _)⟩)
    dsimp only [Pt.U, Pt.locs, Pt.cells, Pt.slots] at X75 l75 y75 z75 st75 hQ75
    subst l75 y75 z75
    obtain ⟨rfl, rfl, e75⟩ := hQ75
    rw [List.append_nil] at X75
    have G75 : own_Go p.tables e below (s₁.setTop (entryFrame m #[(.int p0)] maxLocals)) (T75.setTop (mkF m 102 #[.val (.int p0), .val (.ref b2), .val (.int (1 : Int32)), .val (.int z57_0)] [(.int (1 : Int32))])) := fun t k => G74 t (st75.trans k)
    have G76 : own_Go p.tables e below (s₁.setTop (entryFrame m #[(.int p0)] maxLocals)) (T75.setTop (mkF m 103 #[.val (.int p0), .val (.ref b2), .val (.int (1 : Int32)), .val (.int z57_0)] [(.int z57_0), (.int (1 : Int32))])) := fun t k => G75 t (XS.iloadN X75.here hx rfl (hb hby at_102) rfl k)
    have hk77 : (1 : Int32) = z57_0 := by rw [hz57_0]; decide
    have G78 : own_Go p.tables e below (s₁.setTop (entryFrame m #[(.int p0)] maxLocals)) (T75.setTop (mkF m 106 #[.val (.int p0), .val (.ref b2), .val (.int (1 : Int32)), .val (.int z57_0)] [])) := fun t k => G76 t (XS.icmpNo X75.here hx rfl (hb hby at_103) rfl (teq hk77).2 k)
    have G79 : own_Go p.tables e below (s₁.setTop (entryFrame m #[(.int p0)] maxLocals)) (T75.setTop (mkF m 107 #[.val (.int p0), .val (.ref b2), .val (.int (1 : Int32)), .val (.int z57_0)] [(.int (1 : Int32))])) := fun t k => G78 t (XT.iconstV X75.here hx rfl (1 : Int32) (hb hby at_106) (by decide) k)
    have G80 : own_Go p.tables e below (s₁.setTop (entryFrame m #[(.int p0)] maxLocals)) (T75.setTop (mkF m 111 #[.val (.int p0), .val (.ref b2), .val (.int (1 : Int32)), .val (.int z57_0)] [(.int (1 : Int32))])) := fun t k => G79 t (XS.goto X75.here hx rfl (pc0 := 107) (pc' := 111) rfl (hb hby at_107) (by decide) (by decide) k)
    obtain ⟨fs, hr, hrun, hended, hW, hsame⟩ := X75.leave (v := some (.int (nar .boolean (1 : Int32)))) (fun h => by rw [Bd.returns] at h; cases h)
    refine ⟨_, _, G80 _ ?_, hrun, hended, _, _, rfl, ?_, ⟨_, rfl⟩, hW, hsame.mono (by decide) (by decide)⟩
    · exact retN X75 hx (t := .boolean) Bd.returns (by simp) (hb hby at_111) hr
    · show Q0 Z p0 a_BOOLEAN a_BYTE a_CHAR a_SHORT a_INT a_LONG a_FLOAT a_DOUBLE a_ARRAY a_INTERFACE a_OBJECT m_BOOLEAN m_BYTE m_CHAR m_SHORT m_INT m_LONG h0 _ T75.heap _
      rw [e75]
      exact ⟨rfl, N46, K46⟩
  · obtain ⟨cl82, Ar82, qk82, Sz82, Nn82, Hs82, Gf82⟩ := Vn46
    have hin82 : ¬ ((2 : Int32) < 0 ∨ cl82.slots.size ≤ ((2 : Int32)).toNatClampNeg) := inb_of Sz82 ⟨by decide, by decide⟩
    have G82 : own_Go p.tables e below (s₁.setTop (entryFrame m #[(.int p0)] maxLocals)) (T46.setTop (mkF m 99 #[.val (.int p0), .val (.ref b2), .val (.int (2 : Int32)), .val (.int z57_0)] [(.ref a_CHAR)])) := fun t k => G65 t (X46.aaload hx (by rw [e46]; exact Ar82.1) (State.isArrayOf_alike hZ.alike Ar82.2.1) rfl Ar82.2.2 hin82 (Hs82.at hin82 rfl) (g := (mkF m 98 #[.val (.int p0), .val (.ref b2), .val (.int (2 : Int32)), .val (.int z57_0)] [(.int (2 : Int32)), (.ref b2)])) rfl rfl (hb hby at_98) t k)
    obtain ⟨cq83, kq83, q83a, q83b, q83c⟩ := isOf hZ e46 (E_CHAR.ext O46.2)
    obtain ⟨vv83, _, ⟨T83, L83, k83, n83⟩, -, X83, ⟨Lc83, hQ83, l83, y83, z83⟩, st83⟩ := X46.virtualBack hx (y := (⟨"com/example/upbound/upbound/program/JavaType$Kind", "isIntegral", "()Z"⟩ : MethodName)) (z := (⟨"com/example/upbound/upbound/program/JavaType$Kind", "isIntegral", "()Z"⟩ : MethodName)) hown (mvT hZ (hw _ (List.mem_of_getElem? (i := 27) rfl))) (mvT hZ (hw _ (List.mem_of_getElem? (i := 28) rfl))) (notFace_of_selects (args := #[]) (mvT hZ (hw _ (List.mem_of_getElem? (i := 30) rfl)))) (mvT hZ (hw _ (List.mem_of_getElem? (i := 30) rfl))) (mvT hZ (hw _ (List.mem_of_getElem? (i := 29) rfl))) (by decide) (backOf (W := 0) (rm1 l Z a0 hw [] a_CHAR m_CHAR h46 (F_CHAR.ext O46.2)) hZ (hw _ (List.mem_of_getElem? (i := 31) rfl)) (hw _ (List.mem_of_getElem? (i := 3) rfl)) (by decide) (by decide)) q83a q83c (g := (mkF m 99 #[.val (.int p0), .val (.ref b2), .val (.int (2 : Int32)), .val (.int z57_0)] [(.ref a_CHAR)])) rfl (by rw [hml]; rfl) (Steps.refl _) (argsL := []) (rest := []) (lenOf pd_0_0 rfl) rfl (by show 2 * 0 + _ ≤ _; exact Nat.le_of_eq rfl) (hb hby at_99) (fun _ _ => ⟨rfl, e46, (by decide : 1 + 0 ≤ _), (by decide : 11 + 0 ≤ _)⟩)
    dsimp only [Pt.U, Pt.locs, Pt.cells, Pt.slots] at X83 l83 y83 z83 st83 hQ83
    subst l83 y83 z83
    obtain ⟨rfl, rfl, e83⟩ := hQ83
    rw [List.append_nil] at X83
    have G83 : own_Go p.tables e below (s₁.setTop (entryFrame m #[(.int p0)] maxLocals)) (T83.setTop (mkF m 102 #[.val (.int p0), .val (.ref b2), .val (.int (2 : Int32)), .val (.int z57_0)] [(.int (1 : Int32))])) := fun t k => G82 t (st83.trans k)
    have G84 : own_Go p.tables e below (s₁.setTop (entryFrame m #[(.int p0)] maxLocals)) (T83.setTop (mkF m 103 #[.val (.int p0), .val (.ref b2), .val (.int (2 : Int32)), .val (.int z57_0)] [(.int z57_0), (.int (1 : Int32))])) := fun t k => G83 t (XS.iloadN X83.here hx rfl (hb hby at_102) rfl k)
    have hk85 : (1 : Int32) = z57_0 := by rw [hz57_0]; decide
    have G86 : own_Go p.tables e below (s₁.setTop (entryFrame m #[(.int p0)] maxLocals)) (T83.setTop (mkF m 106 #[.val (.int p0), .val (.ref b2), .val (.int (2 : Int32)), .val (.int z57_0)] [])) := fun t k => G84 t (XS.icmpNo X83.here hx rfl (hb hby at_103) rfl (teq hk85).2 k)
    have G87 : own_Go p.tables e below (s₁.setTop (entryFrame m #[(.int p0)] maxLocals)) (T83.setTop (mkF m 107 #[.val (.int p0), .val (.ref b2), .val (.int (2 : Int32)), .val (.int z57_0)] [(.int (1 : Int32))])) := fun t k => G86 t (XT.iconstV X83.here hx rfl (1 : Int32) (hb hby at_106) (by decide) k)
    have G88 : own_Go p.tables e below (s₁.setTop (entryFrame m #[(.int p0)] maxLocals)) (T83.setTop (mkF m 111 #[.val (.int p0), .val (.ref b2), .val (.int (2 : Int32)), .val (.int z57_0)] [(.int (1 : Int32))])) := fun t k => G87 t (XS.goto X83.here hx rfl (pc0 := 107) (pc' := 111) rfl (hb hby at_107) (by decide) (by decide) k)
    obtain ⟨fs, hr, hrun, hended, hW, hsame⟩ := X83.leave (v := some (.int (nar .boolean (1 : Int32)))) (fun h => by rw [Bd.returns] at h; cases h)
    refine ⟨_, _, G88 _ ?_, hrun, hended, _, _, rfl, ?_, ⟨_, rfl⟩, hW, hsame.mono (by decide) (by decide)⟩
    · exact retN X83 hx (t := .boolean) Bd.returns (by simp) (hb hby at_111) hr
    · show Q0 Z p0 a_BOOLEAN a_BYTE a_CHAR a_SHORT a_INT a_LONG a_FLOAT a_DOUBLE a_ARRAY a_INTERFACE a_OBJECT m_BOOLEAN m_BYTE m_CHAR m_SHORT m_INT m_LONG h0 _ T83.heap _
      rw [e83]
      exact ⟨rfl, N46, K46⟩
  · obtain ⟨cl90, Ar90, qk90, Sz90, Nn90, Hs90, Gf90⟩ := Vn46
    have hin90 : ¬ ((3 : Int32) < 0 ∨ cl90.slots.size ≤ ((3 : Int32)).toNatClampNeg) := inb_of Sz90 ⟨by decide, by decide⟩
    have G90 : own_Go p.tables e below (s₁.setTop (entryFrame m #[(.int p0)] maxLocals)) (T46.setTop (mkF m 99 #[.val (.int p0), .val (.ref b2), .val (.int (3 : Int32)), .val (.int z57_0)] [(.ref a_SHORT)])) := fun t k => G65 t (X46.aaload hx (by rw [e46]; exact Ar90.1) (State.isArrayOf_alike hZ.alike Ar90.2.1) rfl Ar90.2.2 hin90 (Hs90.at hin90 rfl) (g := (mkF m 98 #[.val (.int p0), .val (.ref b2), .val (.int (3 : Int32)), .val (.int z57_0)] [(.int (3 : Int32)), (.ref b2)])) rfl rfl (hb hby at_98) t k)
    obtain ⟨cq91, kq91, q91a, q91b, q91c⟩ := isOf hZ e46 (E_SHORT.ext O46.2)
    obtain ⟨vv91, _, ⟨T91, L91, k91, n91⟩, -, X91, ⟨Lc91, hQ91, l91, y91, z91⟩, st91⟩ := X46.virtualBack hx (y := (⟨"com/example/upbound/upbound/program/JavaType$Kind", "isIntegral", "()Z"⟩ : MethodName)) (z := (⟨"com/example/upbound/upbound/program/JavaType$Kind", "isIntegral", "()Z"⟩ : MethodName)) hown (mvT hZ (hw _ (List.mem_of_getElem? (i := 27) rfl))) (mvT hZ (hw _ (List.mem_of_getElem? (i := 28) rfl))) (notFace_of_selects (args := #[]) (mvT hZ (hw _ (List.mem_of_getElem? (i := 30) rfl)))) (mvT hZ (hw _ (List.mem_of_getElem? (i := 30) rfl))) (mvT hZ (hw _ (List.mem_of_getElem? (i := 29) rfl))) (by decide) (backOf (W := 0) (rm1 l Z a0 hw [] a_SHORT m_SHORT h46 (F_SHORT.ext O46.2)) hZ (hw _ (List.mem_of_getElem? (i := 31) rfl)) (hw _ (List.mem_of_getElem? (i := 3) rfl)) (by decide) (by decide)) q91a q91c (g := (mkF m 99 #[.val (.int p0), .val (.ref b2), .val (.int (3 : Int32)), .val (.int z57_0)] [(.ref a_SHORT)])) rfl (by rw [hml]; rfl) (Steps.refl _) (argsL := []) (rest := []) (lenOf pd_0_0 rfl) rfl (by show 2 * 0 + _ ≤ _; exact Nat.le_of_eq rfl) (hb hby at_99) (fun _ _ => ⟨rfl, e46, (by decide : 1 + 0 ≤ _), (by decide : 11 + 0 ≤ _)⟩)
    dsimp only [Pt.U, Pt.locs, Pt.cells, Pt.slots] at X91 l91 y91 z91 st91 hQ91
    subst l91 y91 z91
    obtain ⟨rfl, rfl, e91⟩ := hQ91
    rw [List.append_nil] at X91
    have G91 : own_Go p.tables e below (s₁.setTop (entryFrame m #[(.int p0)] maxLocals)) (T91.setTop (mkF m 102 #[.val (.int p0), .val (.ref b2), .val (.int (3 : Int32)), .val (.int z57_0)] [(.int (1 : Int32))])) := fun t k => G90 t (st91.trans k)
    have G92 : own_Go p.tables e below (s₁.setTop (entryFrame m #[(.int p0)] maxLocals)) (T91.setTop (mkF m 103 #[.val (.int p0), .val (.ref b2), .val (.int (3 : Int32)), .val (.int z57_0)] [(.int z57_0), (.int (1 : Int32))])) := fun t k => G91 t (XS.iloadN X91.here hx rfl (hb hby at_102) rfl k)
    have hk93 : (1 : Int32) = z57_0 := by rw [hz57_0]; decide
    have G94 : own_Go p.tables e below (s₁.setTop (entryFrame m #[(.int p0)] maxLocals)) (T91.setTop (mkF m 106 #[.val (.int p0), .val (.ref b2), .val (.int (3 : Int32)), .val (.int z57_0)] [])) := fun t k => G92 t (XS.icmpNo X91.here hx rfl (hb hby at_103) rfl (teq hk93).2 k)
    have G95 : own_Go p.tables e below (s₁.setTop (entryFrame m #[(.int p0)] maxLocals)) (T91.setTop (mkF m 107 #[.val (.int p0), .val (.ref b2), .val (.int (3 : Int32)), .val (.int z57_0)] [(.int (1 : Int32))])) := fun t k => G94 t (XT.iconstV X91.here hx rfl (1 : Int32) (hb hby at_106) (by decide) k)
    have G96 : own_Go p.tables e below (s₁.setTop (entryFrame m #[(.int p0)] maxLocals)) (T91.setTop (mkF m 111 #[.val (.int p0), .val (.ref b2), .val (.int (3 : Int32)), .val (.int z57_0)] [(.int (1 : Int32))])) := fun t k => G95 t (XS.goto X91.here hx rfl (pc0 := 107) (pc' := 111) rfl (hb hby at_107) (by decide) (by decide) k)
    obtain ⟨fs, hr, hrun, hended, hW, hsame⟩ := X91.leave (v := some (.int (nar .boolean (1 : Int32)))) (fun h => by rw [Bd.returns] at h; cases h)
    refine ⟨_, _, G96 _ ?_, hrun, hended, _, _, rfl, ?_, ⟨_, rfl⟩, hW, hsame.mono (by decide) (by decide)⟩
    · exact retN X91 hx (t := .boolean) Bd.returns (by simp) (hb hby at_111) hr
    · show Q0 Z p0 a_BOOLEAN a_BYTE a_CHAR a_SHORT a_INT a_LONG a_FLOAT a_DOUBLE a_ARRAY a_INTERFACE a_OBJECT m_BOOLEAN m_BYTE m_CHAR m_SHORT m_INT m_LONG h0 _ T91.heap _
      rw [e91]
      exact ⟨rfl, N46, K46⟩
  · obtain ⟨cl98, Ar98, qk98, Sz98, Nn98, Hs98, Gf98⟩ := Vn46
    have hin98 : ¬ ((4 : Int32) < 0 ∨ cl98.slots.size ≤ ((4 : Int32)).toNatClampNeg) := inb_of Sz98 ⟨by decide, by decide⟩
    have G98 : own_Go p.tables e below (s₁.setTop (entryFrame m #[(.int p0)] maxLocals)) (T46.setTop (mkF m 99 #[.val (.int p0), .val (.ref b2), .val (.int (4 : Int32)), .val (.int z57_0)] [(.ref a_INT)])) := fun t k => G65 t (X46.aaload hx (by rw [e46]; exact Ar98.1) (State.isArrayOf_alike hZ.alike Ar98.2.1) rfl Ar98.2.2 hin98 (Hs98.at hin98 rfl) (g := (mkF m 98 #[.val (.int p0), .val (.ref b2), .val (.int (4 : Int32)), .val (.int z57_0)] [(.int (4 : Int32)), (.ref b2)])) rfl rfl (hb hby at_98) t k)
    obtain ⟨cq99, kq99, q99a, q99b, q99c⟩ := isOf hZ e46 (E_INT.ext O46.2)
    obtain ⟨vv99, _, ⟨T99, L99, k99, n99⟩, -, X99, ⟨Lc99, hQ99, l99, y99, z99⟩, st99⟩ := X46.virtualBack hx (y := (⟨"com/example/upbound/upbound/program/JavaType$Kind", "isIntegral", "()Z"⟩ : MethodName)) (z := (⟨"com/example/upbound/upbound/program/JavaType$Kind", "isIntegral", "()Z"⟩ : MethodName)) hown (mvT hZ (hw _ (List.mem_of_getElem? (i := 27) rfl))) (mvT hZ (hw _ (List.mem_of_getElem? (i := 28) rfl))) (notFace_of_selects (args := #[]) (mvT hZ (hw _ (List.mem_of_getElem? (i := 30) rfl)))) (mvT hZ (hw _ (List.mem_of_getElem? (i := 30) rfl))) (mvT hZ (hw _ (List.mem_of_getElem? (i := 29) rfl))) (by decide) (backOf (W := 0) (rm1 l Z a0 hw [] a_INT m_INT h46 (F_INT.ext O46.2)) hZ (hw _ (List.mem_of_getElem? (i := 31) rfl)) (hw _ (List.mem_of_getElem? (i := 3) rfl)) (by decide) (by decide)) q99a q99c (g := (mkF m 99 #[.val (.int p0), .val (.ref b2), .val (.int (4 : Int32)), .val (.int z57_0)] [(.ref a_INT)])) rfl (by rw [hml]; rfl) (Steps.refl _) (argsL := []) (rest := []) (lenOf pd_0_0 rfl) rfl (by show 2 * 0 + _ ≤ _; exact Nat.le_of_eq rfl) (hb hby at_99) (fun _ _ => ⟨rfl, e46, (by decide : 1 + 0 ≤ _), (by decide : 11 + 0 ≤ _)⟩)
    dsimp only [Pt.U, Pt.locs, Pt.cells, Pt.slots] at X99 l99 y99 z99 st99 hQ99
    subst l99 y99 z99
    obtain ⟨rfl, rfl, e99⟩ := hQ99
    rw [List.append_nil] at X99
    have G99 : own_Go p.tables e below (s₁.setTop (entryFrame m #[(.int p0)] maxLocals)) (T99.setTop (mkF m 102 #[.val (.int p0), .val (.ref b2), .val (.int (4 : Int32)), .val (.int z57_0)] [(.int (1 : Int32))])) := fun t k => G98 t (st99.trans k)
    have G100 : own_Go p.tables e below (s₁.setTop (entryFrame m #[(.int p0)] maxLocals)) (T99.setTop (mkF m 103 #[.val (.int p0), .val (.ref b2), .val (.int (4 : Int32)), .val (.int z57_0)] [(.int z57_0), (.int (1 : Int32))])) := fun t k => G99 t (XS.iloadN X99.here hx rfl (hb hby at_102) rfl k)
    have hk101 : (1 : Int32) = z57_0 := by rw [hz57_0]; decide
    have G102 : own_Go p.tables e below (s₁.setTop (entryFrame m #[(.int p0)] maxLocals)) (T99.setTop (mkF m 106 #[.val (.int p0), .val (.ref b2), .val (.int (4 : Int32)), .val (.int z57_0)] [])) := fun t k => G100 t (XS.icmpNo X99.here hx rfl (hb hby at_103) rfl (teq hk101).2 k)
    have G103 : own_Go p.tables e below (s₁.setTop (entryFrame m #[(.int p0)] maxLocals)) (T99.setTop (mkF m 107 #[.val (.int p0), .val (.ref b2), .val (.int (4 : Int32)), .val (.int z57_0)] [(.int (1 : Int32))])) := fun t k => G102 t (XT.iconstV X99.here hx rfl (1 : Int32) (hb hby at_106) (by decide) k)
    have G104 : own_Go p.tables e below (s₁.setTop (entryFrame m #[(.int p0)] maxLocals)) (T99.setTop (mkF m 111 #[.val (.int p0), .val (.ref b2), .val (.int (4 : Int32)), .val (.int z57_0)] [(.int (1 : Int32))])) := fun t k => G103 t (XS.goto X99.here hx rfl (pc0 := 107) (pc' := 111) rfl (hb hby at_107) (by decide) (by decide) k)
    obtain ⟨fs, hr, hrun, hended, hW, hsame⟩ := X99.leave (v := some (.int (nar .boolean (1 : Int32)))) (fun h => by rw [Bd.returns] at h; cases h)
    refine ⟨_, _, G104 _ ?_, hrun, hended, _, _, rfl, ?_, ⟨_, rfl⟩, hW, hsame.mono (by decide) (by decide)⟩
    · exact retN X99 hx (t := .boolean) Bd.returns (by simp) (hb hby at_111) hr
    · show Q0 Z p0 a_BOOLEAN a_BYTE a_CHAR a_SHORT a_INT a_LONG a_FLOAT a_DOUBLE a_ARRAY a_INTERFACE a_OBJECT m_BOOLEAN m_BYTE m_CHAR m_SHORT m_INT m_LONG h0 _ T99.heap _
      rw [e99]
      exact ⟨rfl, N46, K46⟩
  · obtain ⟨cl106, Ar106, qk106, Sz106, Nn106, Hs106, Gf106⟩ := Vn46
    have hin106 : ¬ ((5 : Int32) < 0 ∨ cl106.slots.size ≤ ((5 : Int32)).toNatClampNeg) := inb_of Sz106 ⟨by decide, by decide⟩
    have G106 : own_Go p.tables e below (s₁.setTop (entryFrame m #[(.int p0)] maxLocals)) (T46.setTop (mkF m 99 #[.val (.int p0), .val (.ref b2), .val (.int (5 : Int32)), .val (.int z57_0)] [(.ref a_LONG)])) := fun t k => G65 t (X46.aaload hx (by rw [e46]; exact Ar106.1) (State.isArrayOf_alike hZ.alike Ar106.2.1) rfl Ar106.2.2 hin106 (Hs106.at hin106 rfl) (g := (mkF m 98 #[.val (.int p0), .val (.ref b2), .val (.int (5 : Int32)), .val (.int z57_0)] [(.int (5 : Int32)), (.ref b2)])) rfl rfl (hb hby at_98) t k)
    obtain ⟨cq107, kq107, q107a, q107b, q107c⟩ := isOf hZ e46 (E_LONG.ext O46.2)
    obtain ⟨vv107, _, ⟨T107, L107, k107, n107⟩, -, X107, ⟨Lc107, hQ107, l107, y107, z107⟩, st107⟩ := X46.virtualBack hx (y := (⟨"com/example/upbound/upbound/program/JavaType$Kind", "isIntegral", "()Z"⟩ : MethodName)) (z := (⟨"com/example/upbound/upbound/program/JavaType$Kind", "isIntegral", "()Z"⟩ : MethodName)) hown (mvT hZ (hw _ (List.mem_of_getElem? (i := 27) rfl))) (mvT hZ (hw _ (List.mem_of_getElem? (i := 28) rfl))) (notFace_of_selects (args := #[]) (mvT hZ (hw _ (List.mem_of_getElem? (i := 30) rfl)))) (mvT hZ (hw _ (List.mem_of_getElem? (i := 30) rfl))) (mvT hZ (hw _ (List.mem_of_getElem? (i := 29) rfl))) (by decide) (backOf (W := 0) (rm1 l Z a0 hw [] a_LONG m_LONG h46 (F_LONG.ext O46.2)) hZ (hw _ (List.mem_of_getElem? (i := 31) rfl)) (hw _ (List.mem_of_getElem? (i := 3) rfl)) (by decide) (by decide)) q107a q107c (g := (mkF m 99 #[.val (.int p0), .val (.ref b2), .val (.int (5 : Int32)), .val (.int z57_0)] [(.ref a_LONG)])) rfl (by rw [hml]; rfl) (Steps.refl _) (argsL := []) (rest := []) (lenOf pd_0_0 rfl) rfl (by show 2 * 0 + _ ≤ _; exact Nat.le_of_eq rfl) (hb hby at_99) (fun _ _ => ⟨rfl, e46, (by decide : 1 + 0 ≤ _), (by decide : 11 + 0 ≤ _)⟩)
    dsimp only [Pt.U, Pt.locs, Pt.cells, Pt.slots] at X107 l107 y107 z107 st107 hQ107
    subst l107 y107 z107
    obtain ⟨rfl, rfl, e107⟩ := hQ107
    rw [List.append_nil] at X107
    have G107 : own_Go p.tables e below (s₁.setTop (entryFrame m #[(.int p0)] maxLocals)) (T107.setTop (mkF m 102 #[.val (.int p0), .val (.ref b2), .val (.int (5 : Int32)), .val (.int z57_0)] [(.int (1 : Int32))])) := fun t k => G106 t (st107.trans k)
    have G108 : own_Go p.tables e below (s₁.setTop (entryFrame m #[(.int p0)] maxLocals)) (T107.setTop (mkF m 103 #[.val (.int p0), .val (.ref b2), .val (.int (5 : Int32)), .val (.int z57_0)] [(.int z57_0), (.int (1 : Int32))])) := fun t k => G107 t (XS.iloadN X107.here hx rfl (hb hby at_102) rfl k)
    have hk109 : (1 : Int32) = z57_0 := by rw [hz57_0]; decide
    have G110 : own_Go p.tables e below (s₁.setTop (entryFrame m #[(.int p0)] maxLocals)) (T107.setTop (mkF m 106 #[.val (.int p0), .val (.ref b2), .val (.int (5 : Int32)), .val (.int z57_0)] [])) := fun t k => G108 t (XS.icmpNo X107.here hx rfl (hb hby at_103) rfl (teq hk109).2 k)
    have G111 : own_Go p.tables e below (s₁.setTop (entryFrame m #[(.int p0)] maxLocals)) (T107.setTop (mkF m 107 #[.val (.int p0), .val (.ref b2), .val (.int (5 : Int32)), .val (.int z57_0)] [(.int (1 : Int32))])) := fun t k => G110 t (XT.iconstV X107.here hx rfl (1 : Int32) (hb hby at_106) (by decide) k)
    have G112 : own_Go p.tables e below (s₁.setTop (entryFrame m #[(.int p0)] maxLocals)) (T107.setTop (mkF m 111 #[.val (.int p0), .val (.ref b2), .val (.int (5 : Int32)), .val (.int z57_0)] [(.int (1 : Int32))])) := fun t k => G111 t (XS.goto X107.here hx rfl (pc0 := 107) (pc' := 111) rfl (hb hby at_107) (by decide) (by decide) k)
    obtain ⟨fs, hr, hrun, hended, hW, hsame⟩ := X107.leave (v := some (.int (nar .boolean (1 : Int32)))) (fun h => by rw [Bd.returns] at h; cases h)
    refine ⟨_, _, G112 _ ?_, hrun, hended, _, _, rfl, ?_, ⟨_, rfl⟩, hW, hsame.mono (by decide) (by decide)⟩
    · exact retN X107 hx (t := .boolean) Bd.returns (by simp) (hb hby at_111) hr
    · show Q0 Z p0 a_BOOLEAN a_BYTE a_CHAR a_SHORT a_INT a_LONG a_FLOAT a_DOUBLE a_ARRAY a_INTERFACE a_OBJECT m_BOOLEAN m_BYTE m_CHAR m_SHORT m_INT m_LONG h0 _ T107.heap _
      rw [e107]
      exact ⟨rfl, N46, K46⟩
  · obtain ⟨cl114, Ar114, qk114, Sz114, Nn114, Hs114, Gf114⟩ := Vn46
    have hin114 : ¬ ((6 : Int32) < 0 ∨ cl114.slots.size ≤ ((6 : Int32)).toNatClampNeg) := inb_of Sz114 ⟨by decide, by decide⟩
    have G114 : own_Go p.tables e below (s₁.setTop (entryFrame m #[(.int p0)] maxLocals)) (T46.setTop (mkF m 99 #[.val (.int p0), .val (.ref b2), .val (.int (6 : Int32)), .val (.int z57_0)] [(.ref a_FLOAT)])) := fun t k => G65 t (X46.aaload hx (by rw [e46]; exact Ar114.1) (State.isArrayOf_alike hZ.alike Ar114.2.1) rfl Ar114.2.2 hin114 (Hs114.at hin114 rfl) (g := (mkF m 98 #[.val (.int p0), .val (.ref b2), .val (.int (6 : Int32)), .val (.int z57_0)] [(.int (6 : Int32)), (.ref b2)])) rfl rfl (hb hby at_98) t k)
    obtain ⟨cq115, kq115, q115a, q115b, q115c⟩ := isOf hZ e46 (E_FLOAT.ext O46.2)
    obtain ⟨vv115, _, ⟨T115, L115, k115, n115⟩, -, X115, ⟨Lc115, hQ115, l115, y115, z115⟩, st115⟩ := X46.virtualBack hx (y := (⟨"com/example/upbound/upbound/program/JavaType$Kind", "isIntegral", "()Z"⟩ : MethodName)) (z := (⟨"com/example/upbound/upbound/program/JavaType$Kind", "isIntegral", "()Z"⟩ : MethodName)) hown (mvT hZ (hw _ (List.mem_of_getElem? (i := 27) rfl))) (mvT hZ (hw _ (List.mem_of_getElem? (i := 28) rfl))) (notFace_of_selects (args := #[]) (mvT hZ (hw _ (List.mem_of_getElem? (i := 30) rfl)))) (mvT hZ (hw _ (List.mem_of_getElem? (i := 30) rfl))) (mvT hZ (hw _ (List.mem_of_getElem? (i := 29) rfl))) (by decide) (backOf (W := 0) (rm2 l Z a0 hw [] a_FLOAT  h46 (F_FLOAT.ext O46.2)) hZ (hw _ (List.mem_of_getElem? (i := 31) rfl)) (hw _ (List.mem_of_getElem? (i := 3) rfl)) (by decide) (by decide)) q115a q115c (g := (mkF m 99 #[.val (.int p0), .val (.ref b2), .val (.int (6 : Int32)), .val (.int z57_0)] [(.ref a_FLOAT)])) rfl (by rw [hml]; rfl) (Steps.refl _) (argsL := []) (rest := []) (lenOf pd_0_0 rfl) rfl (by show 2 * 0 + _ ≤ _; exact Nat.le_of_eq rfl) (hb hby at_99) (fun _ _ => ⟨rfl, e46, (by decide : 1 + 0 ≤ _), (by decide : 11 + 0 ≤ _)⟩)
    dsimp only [Pt.U, Pt.locs, Pt.cells, Pt.slots] at X115 l115 y115 z115 st115 hQ115
    subst l115 y115 z115
    obtain ⟨rfl, rfl, e115⟩ := hQ115
    rw [List.append_nil] at X115
    have G115 : own_Go p.tables e below (s₁.setTop (entryFrame m #[(.int p0)] maxLocals)) (T115.setTop (mkF m 102 #[.val (.int p0), .val (.ref b2), .val (.int (6 : Int32)), .val (.int z57_0)] [(.int (0 : Int32))])) := fun t k => G114 t (st115.trans k)
    have G116 : own_Go p.tables e below (s₁.setTop (entryFrame m #[(.int p0)] maxLocals)) (T115.setTop (mkF m 103 #[.val (.int p0), .val (.ref b2), .val (.int (6 : Int32)), .val (.int z57_0)] [(.int z57_0), (.int (0 : Int32))])) := fun t k => G115 t (XS.iloadN X115.here hx rfl (hb hby at_102) rfl k)
    have hk117 : (0 : Int32) = z57_0 := by rw [hz57_0]; decide
    have G118 : own_Go p.tables e below (s₁.setTop (entryFrame m #[(.int p0)] maxLocals)) (T115.setTop (mkF m 106 #[.val (.int p0), .val (.ref b2), .val (.int (6 : Int32)), .val (.int z57_0)] [])) := fun t k => G116 t (XS.icmpNo X115.here hx rfl (hb hby at_103) rfl (teq hk117).2 k)
    have G119 : own_Go p.tables e below (s₁.setTop (entryFrame m #[(.int p0)] maxLocals)) (T115.setTop (mkF m 107 #[.val (.int p0), .val (.ref b2), .val (.int (6 : Int32)), .val (.int z57_0)] [(.int (1 : Int32))])) := fun t k => G118 t (XT.iconstV X115.here hx rfl (1 : Int32) (hb hby at_106) (by decide) k)
    have G120 : own_Go p.tables e below (s₁.setTop (entryFrame m #[(.int p0)] maxLocals)) (T115.setTop (mkF m 111 #[.val (.int p0), .val (.ref b2), .val (.int (6 : Int32)), .val (.int z57_0)] [(.int (1 : Int32))])) := fun t k => G119 t (XS.goto X115.here hx rfl (pc0 := 107) (pc' := 111) rfl (hb hby at_107) (by decide) (by decide) k)
    obtain ⟨fs, hr, hrun, hended, hW, hsame⟩ := X115.leave (v := some (.int (nar .boolean (1 : Int32)))) (fun h => by rw [Bd.returns] at h; cases h)
    refine ⟨_, _, G120 _ ?_, hrun, hended, _, _, rfl, ?_, ⟨_, rfl⟩, hW, hsame.mono (by decide) (by decide)⟩
    · exact retN X115 hx (t := .boolean) Bd.returns (by simp) (hb hby at_111) hr
    · show Q0 Z p0 a_BOOLEAN a_BYTE a_CHAR a_SHORT a_INT a_LONG a_FLOAT a_DOUBLE a_ARRAY a_INTERFACE a_OBJECT m_BOOLEAN m_BYTE m_CHAR m_SHORT m_INT m_LONG h0 _ T115.heap _
      rw [e115]
      exact ⟨rfl, N46, K46⟩
  · obtain ⟨cl122, Ar122, qk122, Sz122, Nn122, Hs122, Gf122⟩ := Vn46
    have hin122 : ¬ ((7 : Int32) < 0 ∨ cl122.slots.size ≤ ((7 : Int32)).toNatClampNeg) := inb_of Sz122 ⟨by decide, by decide⟩
    have G122 : own_Go p.tables e below (s₁.setTop (entryFrame m #[(.int p0)] maxLocals)) (T46.setTop (mkF m 99 #[.val (.int p0), .val (.ref b2), .val (.int (7 : Int32)), .val (.int z57_0)] [(.ref a_DOUBLE)])) := fun t k => G65 t (X46.aaload hx (by rw [e46]; exact Ar122.1) (State.isArrayOf_alike hZ.alike Ar122.2.1) rfl Ar122.2.2 hin122 (Hs122.at hin122 rfl) (g := (mkF m 98 #[.val (.int p0), .val (.ref b2), .val (.int (7 : Int32)), .val (.int z57_0)] [(.int (7 : Int32)), (.ref b2)])) rfl rfl (hb hby at_98) t k)
    obtain ⟨cq123, kq123, q123a, q123b, q123c⟩ := isOf hZ e46 (E_DOUBLE.ext O46.2)
    obtain ⟨vv123, _, ⟨T123, L123, k123, n123⟩, -, X123, ⟨Lc123, hQ123, l123, y123, z123⟩, st123⟩ := X46.virtualBack hx (y := (⟨"com/example/upbound/upbound/program/JavaType$Kind", "isIntegral", "()Z"⟩ : MethodName)) (z := (⟨"com/example/upbound/upbound/program/JavaType$Kind", "isIntegral", "()Z"⟩ : MethodName)) hown (mvT hZ (hw _ (List.mem_of_getElem? (i := 27) rfl))) (mvT hZ (hw _ (List.mem_of_getElem? (i := 28) rfl))) (notFace_of_selects (args := #[]) (mvT hZ (hw _ (List.mem_of_getElem? (i := 30) rfl)))) (mvT hZ (hw _ (List.mem_of_getElem? (i := 30) rfl))) (mvT hZ (hw _ (List.mem_of_getElem? (i := 29) rfl))) (by decide) (backOf (W := 0) (rm2 l Z a0 hw [] a_DOUBLE  h46 (F_DOUBLE.ext O46.2)) hZ (hw _ (List.mem_of_getElem? (i := 31) rfl)) (hw _ (List.mem_of_getElem? (i := 3) rfl)) (by decide) (by decide)) q123a q123c (g := (mkF m 99 #[.val (.int p0), .val (.ref b2), .val (.int (7 : Int32)), .val (.int z57_0)] [(.ref a_DOUBLE)])) rfl (by rw [hml]; rfl) (Steps.refl _) (argsL := []) (rest := []) (lenOf pd_0_0 rfl) rfl (by show 2 * 0 + _ ≤ _; exact Nat.le_of_eq rfl) (hb hby at_99) (fun _ _ => ⟨rfl, e46, (by decide : 1 + 0 ≤ _), (by decide : 11 + 0 ≤ _)⟩)
    dsimp only [Pt.U, Pt.locs, Pt.cells, Pt.slots] at X123 l123 y123 z123 st123 hQ123
    subst l123 y123 z123
    obtain ⟨rfl, rfl, e123⟩ := hQ123
    rw [List.append_nil] at X123
    have G123 : own_Go p.tables e below (s₁.setTop (entryFrame m #[(.int p0)] maxLocals)) (T123.setTop (mkF m 102 #[.val (.int p0), .val (.ref b2), .val (.int (7 : Int32)), .val (.int z57_0)] [(.int (0 : Int32))])) := fun t k => G122 t (st123.trans k)
    have G124 : own_Go p.tables e below (s₁.setTop (entryFrame m #[(.int p0)] maxLocals)) (T123.setTop (mkF m 103 #[.val (.int p0), .val (.ref b2), .val (.int (7 : Int32)), .val (.int z57_0)] [(.int z57_0), (.int (0 : Int32))])) := fun t k => G123 t (XS.iloadN X123.here hx rfl (hb hby at_102) rfl k)
    have hk125 : (0 : Int32) = z57_0 := by rw [hz57_0]; decide
    have G126 : own_Go p.tables e below (s₁.setTop (entryFrame m #[(.int p0)] maxLocals)) (T123.setTop (mkF m 106 #[.val (.int p0), .val (.ref b2), .val (.int (7 : Int32)), .val (.int z57_0)] [])) := fun t k => G124 t (XS.icmpNo X123.here hx rfl (hb hby at_103) rfl (teq hk125).2 k)
    have G127 : own_Go p.tables e below (s₁.setTop (entryFrame m #[(.int p0)] maxLocals)) (T123.setTop (mkF m 107 #[.val (.int p0), .val (.ref b2), .val (.int (7 : Int32)), .val (.int z57_0)] [(.int (1 : Int32))])) := fun t k => G126 t (XT.iconstV X123.here hx rfl (1 : Int32) (hb hby at_106) (by decide) k)
    have G128 : own_Go p.tables e below (s₁.setTop (entryFrame m #[(.int p0)] maxLocals)) (T123.setTop (mkF m 111 #[.val (.int p0), .val (.ref b2), .val (.int (7 : Int32)), .val (.int z57_0)] [(.int (1 : Int32))])) := fun t k => G127 t (XS.goto X123.here hx rfl (pc0 := 107) (pc' := 111) rfl (hb hby at_107) (by decide) (by decide) k)
    obtain ⟨fs, hr, hrun, hended, hW, hsame⟩ := X123.leave (v := some (.int (nar .boolean (1 : Int32)))) (fun h => by rw [Bd.returns] at h; cases h)
    refine ⟨_, _, G128 _ ?_, hrun, hended, _, _, rfl, ?_, ⟨_, rfl⟩, hW, hsame.mono (by decide) (by decide)⟩
    · exact retN X123 hx (t := .boolean) Bd.returns (by simp) (hb hby at_111) hr
    · show Q0 Z p0 a_BOOLEAN a_BYTE a_CHAR a_SHORT a_INT a_LONG a_FLOAT a_DOUBLE a_ARRAY a_INTERFACE a_OBJECT m_BOOLEAN m_BYTE m_CHAR m_SHORT m_INT m_LONG h0 _ T123.heap _
      rw [e123]
      exact ⟨rfl, N46, K46⟩
  · obtain ⟨cl130, Ar130, qk130, Sz130, Nn130, Hs130, Gf130⟩ := Vn46
    have hin130 : ¬ ((8 : Int32) < 0 ∨ cl130.slots.size ≤ ((8 : Int32)).toNatClampNeg) := inb_of Sz130 ⟨by decide, by decide⟩
    have G130 : own_Go p.tables e below (s₁.setTop (entryFrame m #[(.int p0)] maxLocals)) (T46.setTop (mkF m 99 #[.val (.int p0), .val (.ref b2), .val (.int (8 : Int32)), .val (.int z57_0)] [(.ref a_ARRAY)])) := fun t k => G65 t (X46.aaload hx (by rw [e46]; exact Ar130.1) (State.isArrayOf_alike hZ.alike Ar130.2.1) rfl Ar130.2.2 hin130 (Hs130.at hin130 rfl) (g := (mkF m 98 #[.val (.int p0), .val (.ref b2), .val (.int (8 : Int32)), .val (.int z57_0)] [(.int (8 : Int32)), (.ref b2)])) rfl rfl (hb hby at_98) t k)
    obtain ⟨cq131, kq131, q131a, q131b, q131c⟩ := isOf hZ e46 (E_ARRAY.ext O46.2)
    obtain ⟨vv131, _, ⟨T131, L131, k131, n131⟩, -, X131, ⟨Lc131, hQ131, l131, y131, z131⟩, st131⟩ := X46.virtualBack hx (y := (⟨"com/example/upbound/upbound/program/JavaType$Kind", "isIntegral", "()Z"⟩ : MethodName)) (z := (⟨"com/example/upbound/upbound/program/JavaType$Kind", "isIntegral", "()Z"⟩ : MethodName)) hown (mvT hZ (hw _ (List.mem_of_getElem? (i := 27) rfl))) (mvT hZ (hw _ (List.mem_of_getElem? (i := 28) rfl))) (notFace_of_selects (args := #[]) (mvT hZ (hw _ (List.mem_of_getElem? (i := 30) rfl)))) (mvT hZ (hw _ (List.mem_of_getElem? (i := 30) rfl))) (mvT hZ (hw _ (List.mem_of_getElem? (i := 29) rfl))) (by decide) (backOf (W := 0) (rm2 l Z a0 hw [] a_ARRAY  h46 (F_ARRAY.ext O46.2)) hZ (hw _ (List.mem_of_getElem? (i := 31) rfl)) (hw _ (List.mem_of_getElem? (i := 3) rfl)) (by decide) (by decide)) q131a q131c (g := (mkF m 99 #[.val (.int p0), .val (.ref b2), .val (.int (8 : Int32)), .val (.int z57_0)] [(.ref a_ARRAY)])) rfl (by rw [hml]; rfl) (Steps.refl _) (argsL := []) (rest := []) (lenOf pd_0_0 rfl) rfl (by show 2 * 0 + _ ≤ _; exact Nat.le_of_eq rfl) (hb hby at_99) (fun _ _ => ⟨rfl, e46, (by decide : 1 + 0 ≤ _), (by decide : 11 + 0 ≤ _)⟩)
    dsimp only [Pt.U, Pt.locs, Pt.cells, Pt.slots] at X131 l131 y131 z131 st131 hQ131
    subst l131 y131 z131
    obtain ⟨rfl, rfl, e131⟩ := hQ131
    rw [List.append_nil] at X131
    have G131 : own_Go p.tables e below (s₁.setTop (entryFrame m #[(.int p0)] maxLocals)) (T131.setTop (mkF m 102 #[.val (.int p0), .val (.ref b2), .val (.int (8 : Int32)), .val (.int z57_0)] [(.int (0 : Int32))])) := fun t k => G130 t (st131.trans k)
    have G132 : own_Go p.tables e below (s₁.setTop (entryFrame m #[(.int p0)] maxLocals)) (T131.setTop (mkF m 103 #[.val (.int p0), .val (.ref b2), .val (.int (8 : Int32)), .val (.int z57_0)] [(.int z57_0), (.int (0 : Int32))])) := fun t k => G131 t (XS.iloadN X131.here hx rfl (hb hby at_102) rfl k)
    have hk133 : (0 : Int32) = z57_0 := by rw [hz57_0]; decide
    have G134 : own_Go p.tables e below (s₁.setTop (entryFrame m #[(.int p0)] maxLocals)) (T131.setTop (mkF m 106 #[.val (.int p0), .val (.ref b2), .val (.int (8 : Int32)), .val (.int z57_0)] [])) := fun t k => G132 t (XS.icmpNo X131.here hx rfl (hb hby at_103) rfl (teq hk133).2 k)
    have G135 : own_Go p.tables e below (s₁.setTop (entryFrame m #[(.int p0)] maxLocals)) (T131.setTop (mkF m 107 #[.val (.int p0), .val (.ref b2), .val (.int (8 : Int32)), .val (.int z57_0)] [(.int (1 : Int32))])) := fun t k => G134 t (XT.iconstV X131.here hx rfl (1 : Int32) (hb hby at_106) (by decide) k)
    have G136 : own_Go p.tables e below (s₁.setTop (entryFrame m #[(.int p0)] maxLocals)) (T131.setTop (mkF m 111 #[.val (.int p0), .val (.ref b2), .val (.int (8 : Int32)), .val (.int z57_0)] [(.int (1 : Int32))])) := fun t k => G135 t (XS.goto X131.here hx rfl (pc0 := 107) (pc' := 111) rfl (hb hby at_107) (by decide) (by decide) k)
    obtain ⟨fs, hr, hrun, hended, hW, hsame⟩ := X131.leave (v := some (.int (nar .boolean (1 : Int32)))) (fun h => by rw [Bd.returns] at h; cases h)
    refine ⟨_, _, G136 _ ?_, hrun, hended, _, _, rfl, ?_, ⟨_, rfl⟩, hW, hsame.mono (by decide) (by decide)⟩
    · exact retN X131 hx (t := .boolean) Bd.returns (by simp) (hb hby at_111) hr
    · show Q0 Z p0 a_BOOLEAN a_BYTE a_CHAR a_SHORT a_INT a_LONG a_FLOAT a_DOUBLE a_ARRAY a_INTERFACE a_OBJECT m_BOOLEAN m_BYTE m_CHAR m_SHORT m_INT m_LONG h0 _ T131.heap _
      rw [e131]
      exact ⟨rfl, N46, K46⟩
  · obtain ⟨cl138, Ar138, qk138, Sz138, Nn138, Hs138, Gf138⟩ := Vn46
    have hin138 : ¬ ((9 : Int32) < 0 ∨ cl138.slots.size ≤ ((9 : Int32)).toNatClampNeg) := inb_of Sz138 ⟨by decide, by decide⟩
    have G138 : own_Go p.tables e below (s₁.setTop (entryFrame m #[(.int p0)] maxLocals)) (T46.setTop (mkF m 99 #[.val (.int p0), .val (.ref b2), .val (.int (9 : Int32)), .val (.int z57_0)] [(.ref a_INTERFACE)])) := fun t k => G65 t (X46.aaload hx (by rw [e46]; exact Ar138.1) (State.isArrayOf_alike hZ.alike Ar138.2.1) rfl Ar138.2.2 hin138 (Hs138.at hin138 rfl) (g := (mkF m 98 #[.val (.int p0), .val (.ref b2), .val (.int (9 : Int32)), .val (.int z57_0)] [(.int (9 : Int32)), (.ref b2)])) rfl rfl (hb hby at_98) t k)
    obtain ⟨cq139, kq139, q139a, q139b, q139c⟩ := isOf hZ e46 (E_INTERFACE.ext O46.2)
    obtain ⟨vv139, _, ⟨T139, L139, k139, n139⟩, -, X139, ⟨Lc139, hQ139, l139, y139, z139⟩, st139⟩ := X46.virtualBack hx (y := (⟨"com/example/upbound/upbound/program/JavaType$Kind", "isIntegral", "()Z"⟩ : MethodName)) (z := (⟨"com/example/upbound/upbound/program/JavaType$Kind", "isIntegral", "()Z"⟩ : MethodName)) hown (mvT hZ (hw _ (List.mem_of_getElem? (i := 27) rfl))) (mvT hZ (hw _ (List.mem_of_getElem? (i := 28) rfl))) (notFace_of_selects (args := #[]) (mvT hZ (hw _ (List.mem_of_getElem? (i := 30) rfl)))) (mvT hZ (hw _ (List.mem_of_getElem? (i := 30) rfl))) (mvT hZ (hw _ (List.mem_of_getElem? (i := 29) rfl))) (by decide) (backOf (W := 0) (rm2 l Z a0 hw [] a_INTERFACE  h46 (F_INTERFACE.ext O46.2)) hZ (hw _ (List.mem_of_getElem? (i := 31) rfl)) (hw _ (List.mem_of_getElem? (i := 3) rfl)) (by decide) (by decide)) q139a q139c (g := (mkF m 99 #[.val (.int p0), .val (.ref b2), .val (.int (9 : Int32)), .val (.int z57_0)] [(.ref a_INTERFACE)])) rfl (by rw [hml]; rfl) (Steps.refl _) (argsL := []) (rest := []) (lenOf pd_0_0 rfl) rfl (by show 2 * 0 + _ ≤ _; exact Nat.le_of_eq rfl) (hb hby at_99) (fun _ _ => ⟨rfl, e46, (by decide : 1 + 0 ≤ _), (by decide : 11 + 0 ≤ _)⟩)
    dsimp only [Pt.U, Pt.locs, Pt.cells, Pt.slots] at X139 l139 y139 z139 st139 hQ139
    subst l139 y139 z139
    obtain ⟨rfl, rfl, e139⟩ := hQ139
    rw [List.append_nil] at X139
    have G139 : own_Go p.tables e below (s₁.setTop (entryFrame m #[(.int p0)] maxLocals)) (T139.setTop (mkF m 102 #[.val (.int p0), .val (.ref b2), .val (.int (9 : Int32)), .val (.int z57_0)] [(.int (0 : Int32))])) := fun t k => G138 t (st139.trans k)
    have G140 : own_Go p.tables e below (s₁.setTop (entryFrame m #[(.int p0)] maxLocals)) (T139.setTop (mkF m 103 #[.val (.int p0), .val (.ref b2), .val (.int (9 : Int32)), .val (.int z57_0)] [(.int z57_0), (.int (0 : Int32))])) := fun t k => G139 t (XS.iloadN X139.here hx rfl (hb hby at_102) rfl k)
    have hk141 : (0 : Int32) = z57_0 := by rw [hz57_0]; decide
    have G142 : own_Go p.tables e below (s₁.setTop (entryFrame m #[(.int p0)] maxLocals)) (T139.setTop (mkF m 106 #[.val (.int p0), .val (.ref b2), .val (.int (9 : Int32)), .val (.int z57_0)] [])) := fun t k => G140 t (XS.icmpNo X139.here hx rfl (hb hby at_103) rfl (teq hk141).2 k)
    have G143 : own_Go p.tables e below (s₁.setTop (entryFrame m #[(.int p0)] maxLocals)) (T139.setTop (mkF m 107 #[.val (.int p0), .val (.ref b2), .val (.int (9 : Int32)), .val (.int z57_0)] [(.int (1 : Int32))])) := fun t k => G142 t (XT.iconstV X139.here hx rfl (1 : Int32) (hb hby at_106) (by decide) k)
    have G144 : own_Go p.tables e below (s₁.setTop (entryFrame m #[(.int p0)] maxLocals)) (T139.setTop (mkF m 111 #[.val (.int p0), .val (.ref b2), .val (.int (9 : Int32)), .val (.int z57_0)] [(.int (1 : Int32))])) := fun t k => G143 t (XS.goto X139.here hx rfl (pc0 := 107) (pc' := 111) rfl (hb hby at_107) (by decide) (by decide) k)
    obtain ⟨fs, hr, hrun, hended, hW, hsame⟩ := X139.leave (v := some (.int (nar .boolean (1 : Int32)))) (fun h => by rw [Bd.returns] at h; cases h)
    refine ⟨_, _, G144 _ ?_, hrun, hended, _, _, rfl, ?_, ⟨_, rfl⟩, hW, hsame.mono (by decide) (by decide)⟩
    · exact retN X139 hx (t := .boolean) Bd.returns (by simp) (hb hby at_111) hr
    · show Q0 Z p0 a_BOOLEAN a_BYTE a_CHAR a_SHORT a_INT a_LONG a_FLOAT a_DOUBLE a_ARRAY a_INTERFACE a_OBJECT m_BOOLEAN m_BYTE m_CHAR m_SHORT m_INT m_LONG h0 _ T139.heap _
      rw [e139]
      exact ⟨rfl, N46, K46⟩
  · obtain ⟨cl146, Ar146, qk146, Sz146, Nn146, Hs146, Gf146⟩ := Vn46
    have hin146 : ¬ ((10 : Int32) < 0 ∨ cl146.slots.size ≤ ((10 : Int32)).toNatClampNeg) := inb_of Sz146 ⟨by decide, by decide⟩
    have G146 : own_Go p.tables e below (s₁.setTop (entryFrame m #[(.int p0)] maxLocals)) (T46.setTop (mkF m 99 #[.val (.int p0), .val (.ref b2), .val (.int (10 : Int32)), .val (.int z57_0)] [(.ref a_OBJECT)])) := fun t k => G65 t (X46.aaload hx (by rw [e46]; exact Ar146.1) (State.isArrayOf_alike hZ.alike Ar146.2.1) rfl Ar146.2.2 hin146 (Hs146.at hin146 rfl) (g := (mkF m 98 #[.val (.int p0), .val (.ref b2), .val (.int (10 : Int32)), .val (.int z57_0)] [(.int (10 : Int32)), (.ref b2)])) rfl rfl (hb hby at_98) t k)
    obtain ⟨cq147, kq147, q147a, q147b, q147c⟩ := isOf hZ e46 (E_OBJECT.ext O46.2)
    obtain ⟨vv147, _, ⟨T147, L147, k147, n147⟩, -, X147, ⟨Lc147, hQ147, l147, y147, z147⟩, st147⟩ := X46.virtualBack hx (y := (⟨"com/example/upbound/upbound/program/JavaType$Kind", "isIntegral", "()Z"⟩ : MethodName)) (z := (⟨"com/example/upbound/upbound/program/JavaType$Kind", "isIntegral", "()Z"⟩ : MethodName)) hown (mvT hZ (hw _ (List.mem_of_getElem? (i := 27) rfl))) (mvT hZ (hw _ (List.mem_of_getElem? (i := 28) rfl))) (notFace_of_selects (args := #[]) (mvT hZ (hw _ (List.mem_of_getElem? (i := 30) rfl)))) (mvT hZ (hw _ (List.mem_of_getElem? (i := 30) rfl))) (mvT hZ (hw _ (List.mem_of_getElem? (i := 29) rfl))) (by decide) (backOf (W := 0) (rm2 l Z a0 hw [] a_OBJECT  h46 (F_OBJECT.ext O46.2)) hZ (hw _ (List.mem_of_getElem? (i := 31) rfl)) (hw _ (List.mem_of_getElem? (i := 3) rfl)) (by decide) (by decide)) q147a q147c (g := (mkF m 99 #[.val (.int p0), .val (.ref b2), .val (.int (10 : Int32)), .val (.int z57_0)] [(.ref a_OBJECT)])) rfl (by rw [hml]; rfl) (Steps.refl _) (argsL := []) (rest := []) (lenOf pd_0_0 rfl) rfl (by show 2 * 0 + _ ≤ _; exact Nat.le_of_eq rfl) (hb hby at_99) (fun _ _ => ⟨rfl, e46, (by decide : 1 + 0 ≤ _), (by decide : 11 + 0 ≤ _)⟩)
    dsimp only [Pt.U, Pt.locs, Pt.cells, Pt.slots] at X147 l147 y147 z147 st147 hQ147
    subst l147 y147 z147
    obtain ⟨rfl, rfl, e147⟩ := hQ147
    rw [List.append_nil] at X147
    have G147 : own_Go p.tables e below (s₁.setTop (entryFrame m #[(.int p0)] maxLocals)) (T147.setTop (mkF m 102 #[.val (.int p0), .val (.ref b2), .val (.int (10 : Int32)), .val (.int z57_0)] [(.int (0 : Int32))])) := fun t k => G146 t (st147.trans k)
    have G148 : own_Go p.tables e below (s₁.setTop (entryFrame m #[(.int p0)] maxLocals)) (T147.setTop (mkF m 103 #[.val (.int p0), .val (.ref b2), .val (.int (10 : Int32)), .val (.int z57_0)] [(.int z57_0), (.int (0 : Int32))])) := fun t k => G147 t (XS.iloadN X147.here hx rfl (hb hby at_102) rfl k)
    have hk149 : (0 : Int32) = z57_0 := by rw [hz57_0]; decide
    have G150 : own_Go p.tables e below (s₁.setTop (entryFrame m #[(.int p0)] maxLocals)) (T147.setTop (mkF m 106 #[.val (.int p0), .val (.ref b2), .val (.int (10 : Int32)), .val (.int z57_0)] [])) := fun t k => G148 t (XS.icmpNo X147.here hx rfl (hb hby at_103) rfl (teq hk149).2 k)
    have G151 : own_Go p.tables e below (s₁.setTop (entryFrame m #[(.int p0)] maxLocals)) (T147.setTop (mkF m 107 #[.val (.int p0), .val (.ref b2), .val (.int (10 : Int32)), .val (.int z57_0)] [(.int (1 : Int32))])) := fun t k => G150 t (XT.iconstV X147.here hx rfl (1 : Int32) (hb hby at_106) (by decide) k)
    have G152 : own_Go p.tables e below (s₁.setTop (entryFrame m #[(.int p0)] maxLocals)) (T147.setTop (mkF m 111 #[.val (.int p0), .val (.ref b2), .val (.int (10 : Int32)), .val (.int z57_0)] [(.int (1 : Int32))])) := fun t k => G151 t (XS.goto X147.here hx rfl (pc0 := 107) (pc' := 111) rfl (hb hby at_107) (by decide) (by decide) k)
    obtain ⟨fs, hr, hrun, hended, hW, hsame⟩ := X147.leave (v := some (.int (nar .boolean (1 : Int32)))) (fun h => by rw [Bd.returns] at h; cases h)
    refine ⟨_, _, G152 _ ?_, hrun, hended, _, _, rfl, ?_, ⟨_, rfl⟩, hW, hsame.mono (by decide) (by decide)⟩
    · exact retN X147 hx (t := .boolean) Bd.returns (by simp) (hb hby at_111) hr
    · show Q0 Z p0 a_BOOLEAN a_BYTE a_CHAR a_SHORT a_INT a_LONG a_FLOAT a_DOUBLE a_ARRAY a_INTERFACE a_OBJECT m_BOOLEAN m_BYTE m_CHAR m_SHORT m_INT m_LONG h0 _ T147.heap _
      rw [e147]
      exact ⟨rfl, N46, K46⟩
set_option maxRecDepth 65536 in
set_option maxHeartbeats 40000000 in
theorem comes_1 {Post : Tables → Env → Array Value → State → Outcome → State → Prop} (hpost : ∀ tb e args s v u, (limb_1_1.after args s (.returned v) u = true ∧ limb_1_2.after args s (.returned v) u = true ∧ True) → FrameEnd s (.returned v) u (Jvm.fieldLocs frame_1_writes args s ++ Jvm.arrayLocs frame_1_arrays args s ++ Jvm.staticLocs frame_1_statics s) 16 128 → Post tb e args s (.returned v) u) :
    ArmFor flags0 classFile x code maxLocals ret World_1 tables_1 room_1 Calls_1 rest_1 Pre_1 Post := by
  intro l hfl _ _ p e ha hc hk s m args below hf hA hF happ hP
  obtain ⟨hcalls, hrest, hpre⟩ := hP
  obtain ⟨-, -, -, hnamed, -, -, -, hat⟩ := (Spec.applies_iff hf).mp happ
  obtain ⟨hg, hn⟩ := and_e (Cond.before_iff.mp (show (Jvm.Cond.and given_1 narrow_1).before args s = true from hpre))
  obtain ⟨ga1, gb1⟩ := and_e hg
  obtain ⟨w0, rfl⟩ : ∃ w0 : Value, args = #[w0] := by
    have hs : args.size = 1 := by simpa [Cond.value, given_1] using ga1
    obtain ⟨L⟩ := args
    match L, hs with
    | [w0], _ => exact ⟨w0, rfl⟩
  have hw := fun d (hd : d ∈ tables_1) => atoms_spec (ws := Jvm.Cond.code x code maxLocals ret :: tables_1) hat d (List.mem_cons_of_mem _ hd)
  have hfit : Fit s := fun {y c} hc i hi => by
    obtain ⟨ha, rfl⟩ := Array.getElem?_eq_some_iff.mp hc
    have q := List.all_eq_true.mp ((Array.all_eq_true_iff_forall_mem.mp hF) _ (Array.getElem_mem ha)) i (List.mem_range.mpr hi)
    simpa [Array.getElem?_eq_getElem hi] using q
  obtain ⟨i0, ei0⟩ := is_v gb1
  obtain rfl : w0 = (.int i0) := Option.some.inj ei0
  obtain ⟨ga101, gb101⟩ := and_e hn
  obtain ⟨ga102, gb102⟩ := and_e gb101
  obtain ⟨ga103, gb103⟩ := and_e gb102
  obtain ⟨ga104, gb104⟩ := and_e gb103
  obtain ⟨ga105, gb105⟩ := and_e gb104
  obtain ⟨ga106, gb106⟩ := and_e gb105
  obtain ⟨ga107, gb107⟩ := and_e gb106
  obtain ⟨ga108, gb108⟩ := and_e gb107
  obtain ⟨ga109, gb109⟩ := and_e gb108
  obtain ⟨ga110, gb110⟩ := and_e gb109
  obtain ⟨ga111, gb111⟩ := and_e gb110
  obtain ⟨ga112, gb112⟩ := and_e gb111
  obtain ⟨ga113, gb113⟩ := and_e gb112
  obtain ⟨ga114, gb114⟩ := and_e gb113
  obtain ⟨ga115, gb115⟩ := and_e gb114
  obtain ⟨ga116, gb116⟩ := and_e gb115
  obtain ⟨ga117, gb117⟩ := and_e gb116
  obtain ⟨ga118, gb118⟩ := and_e gb117
  obtain ⟨ga119, gb119⟩ := and_e gb118
  obtain ⟨ga120, gb120⟩ := and_e gb119
  obtain ⟨ga121, gb121⟩ := and_e gb120
  obtain ⟨a_BOOLEAN, ev_BOOLEAN⟩ := exa_v ga101
  have S_BOOLEAN : Sta s s.heap "com/example/upbound/upbound/program/JavaType$Kind" "BOOLEAN" "Lcom/example/upbound/upbound/program/JavaType$Kind;" (.ref a_BOOLEAN) := Sta.start ev_BOOLEAN (Or.inr ⟨(hw _ (List.mem_of_getElem? (i := 3) rfl)), (hw _ (List.mem_of_getElem? (i := 4) rfl))⟩)
  have E_BOOLEAN : Exa s s.heap a_BOOLEAN "com/example/upbound/upbound/program/JavaType$Kind" := Exa.start ev_BOOLEAN ga101
  obtain ⟨a_BYTE, ev_BYTE⟩ := exa_v ga102
  have S_BYTE : Sta s s.heap "com/example/upbound/upbound/program/JavaType$Kind" "BYTE" "Lcom/example/upbound/upbound/program/JavaType$Kind;" (.ref a_BYTE) := Sta.start ev_BYTE (Or.inr ⟨(hw _ (List.mem_of_getElem? (i := 3) rfl)), (hw _ (List.mem_of_getElem? (i := 7) rfl))⟩)
  have E_BYTE : Exa s s.heap a_BYTE "com/example/upbound/upbound/program/JavaType$Kind" := Exa.start ev_BYTE ga102
  obtain ⟨a_CHAR, ev_CHAR⟩ := exa_v ga103
  have S_CHAR : Sta s s.heap "com/example/upbound/upbound/program/JavaType$Kind" "CHAR" "Lcom/example/upbound/upbound/program/JavaType$Kind;" (.ref a_CHAR) := Sta.start ev_CHAR (Or.inr ⟨(hw _ (List.mem_of_getElem? (i := 3) rfl)), (hw _ (List.mem_of_getElem? (i := 9) rfl))⟩)
  have E_CHAR : Exa s s.heap a_CHAR "com/example/upbound/upbound/program/JavaType$Kind" := Exa.start ev_CHAR ga103
  obtain ⟨a_SHORT, ev_SHORT⟩ := exa_v ga104
  have S_SHORT : Sta s s.heap "com/example/upbound/upbound/program/JavaType$Kind" "SHORT" "Lcom/example/upbound/upbound/program/JavaType$Kind;" (.ref a_SHORT) := Sta.start ev_SHORT (Or.inr ⟨(hw _ (List.mem_of_getElem? (i := 3) rfl)), (hw _ (List.mem_of_getElem? (i := 11) rfl))⟩)
  have E_SHORT : Exa s s.heap a_SHORT "com/example/upbound/upbound/program/JavaType$Kind" := Exa.start ev_SHORT ga104
  obtain ⟨a_INT, ev_INT⟩ := exa_v ga105
  have S_INT : Sta s s.heap "com/example/upbound/upbound/program/JavaType$Kind" "INT" "Lcom/example/upbound/upbound/program/JavaType$Kind;" (.ref a_INT) := Sta.start ev_INT (Or.inr ⟨(hw _ (List.mem_of_getElem? (i := 3) rfl)), (hw _ (List.mem_of_getElem? (i := 13) rfl))⟩)
  have E_INT : Exa s s.heap a_INT "com/example/upbound/upbound/program/JavaType$Kind" := Exa.start ev_INT ga105
  obtain ⟨a_LONG, ev_LONG⟩ := exa_v ga106
  have S_LONG : Sta s s.heap "com/example/upbound/upbound/program/JavaType$Kind" "LONG" "Lcom/example/upbound/upbound/program/JavaType$Kind;" (.ref a_LONG) := Sta.start ev_LONG (Or.inr ⟨(hw _ (List.mem_of_getElem? (i := 3) rfl)), (hw _ (List.mem_of_getElem? (i := 15) rfl))⟩)
  have E_LONG : Exa s s.heap a_LONG "com/example/upbound/upbound/program/JavaType$Kind" := Exa.start ev_LONG ga106
  obtain ⟨a_FLOAT, ev_FLOAT⟩ := exa_v ga107
  have S_FLOAT : Sta s s.heap "com/example/upbound/upbound/program/JavaType$Kind" "FLOAT" "Lcom/example/upbound/upbound/program/JavaType$Kind;" (.ref a_FLOAT) := Sta.start ev_FLOAT (Or.inr ⟨(hw _ (List.mem_of_getElem? (i := 3) rfl)), (hw _ (List.mem_of_getElem? (i := 17) rfl))⟩)
  have E_FLOAT : Exa s s.heap a_FLOAT "com/example/upbound/upbound/program/JavaType$Kind" := Exa.start ev_FLOAT ga107
  obtain ⟨a_DOUBLE, ev_DOUBLE⟩ := exa_v ga108
  have S_DOUBLE : Sta s s.heap "com/example/upbound/upbound/program/JavaType$Kind" "DOUBLE" "Lcom/example/upbound/upbound/program/JavaType$Kind;" (.ref a_DOUBLE) := Sta.start ev_DOUBLE (Or.inr ⟨(hw _ (List.mem_of_getElem? (i := 3) rfl)), (hw _ (List.mem_of_getElem? (i := 19) rfl))⟩)
  have E_DOUBLE : Exa s s.heap a_DOUBLE "com/example/upbound/upbound/program/JavaType$Kind" := Exa.start ev_DOUBLE ga108
  obtain ⟨a_ARRAY, ev_ARRAY⟩ := exa_v ga109
  have S_ARRAY : Sta s s.heap "com/example/upbound/upbound/program/JavaType$Kind" "ARRAY" "Lcom/example/upbound/upbound/program/JavaType$Kind;" (.ref a_ARRAY) := Sta.start ev_ARRAY (Or.inr ⟨(hw _ (List.mem_of_getElem? (i := 3) rfl)), (hw _ (List.mem_of_getElem? (i := 21) rfl))⟩)
  have E_ARRAY : Exa s s.heap a_ARRAY "com/example/upbound/upbound/program/JavaType$Kind" := Exa.start ev_ARRAY ga109
  obtain ⟨a_INTERFACE, ev_INTERFACE⟩ := exa_v ga110
  have S_INTERFACE : Sta s s.heap "com/example/upbound/upbound/program/JavaType$Kind" "INTERFACE" "Lcom/example/upbound/upbound/program/JavaType$Kind;" (.ref a_INTERFACE) := Sta.start ev_INTERFACE (Or.inr ⟨(hw _ (List.mem_of_getElem? (i := 3) rfl)), (hw _ (List.mem_of_getElem? (i := 23) rfl))⟩)
  have E_INTERFACE : Exa s s.heap a_INTERFACE "com/example/upbound/upbound/program/JavaType$Kind" := Exa.start ev_INTERFACE ga110
  obtain ⟨a_OBJECT, ev_OBJECT⟩ := exa_v ga111
  have S_OBJECT : Sta s s.heap "com/example/upbound/upbound/program/JavaType$Kind" "OBJECT" "Lcom/example/upbound/upbound/program/JavaType$Kind;" (.ref a_OBJECT) := Sta.start ev_OBJECT (Or.inr ⟨(hw _ (List.mem_of_getElem? (i := 3) rfl)), (hw _ (List.mem_of_getElem? (i := 25) rfl))⟩)
  have E_OBJECT : Exa s s.heap a_OBJECT "com/example/upbound/upbound/program/JavaType$Kind" := Exa.start ev_OBJECT ga111
  obtain ⟨m_BOOLEAN, em_BOOLEAN⟩ := exa_v ga112
  have F_BOOLEAN : Fld s s.heap a_BOOLEAN "com/example/upbound/upbound/program/JavaType$Kind" "minimum" "Ljava/math/BigInteger;" (.ref m_BOOLEAN) := own_fld ev_BOOLEAN em_BOOLEAN
  obtain ⟨m_SHORT, em_SHORT⟩ := exa_v ga113
  have F_SHORT : Fld s s.heap a_SHORT "com/example/upbound/upbound/program/JavaType$Kind" "minimum" "Ljava/math/BigInteger;" (.ref m_SHORT) := own_fld ev_SHORT em_SHORT
  have F_DOUBLE : Fld s s.heap a_DOUBLE "com/example/upbound/upbound/program/JavaType$Kind" "minimum" "Ljava/math/BigInteger;" .null := own_fld ev_DOUBLE (null_v ga114)
  have F_ARRAY : Fld s s.heap a_ARRAY "com/example/upbound/upbound/program/JavaType$Kind" "minimum" "Ljava/math/BigInteger;" .null := own_fld ev_ARRAY (null_v ga115)
  have F_OBJECT : Fld s s.heap a_OBJECT "com/example/upbound/upbound/program/JavaType$Kind" "minimum" "Ljava/math/BigInteger;" .null := own_fld ev_OBJECT (null_v ga117)
  obtain ⟨m_BYTE, em_BYTE⟩ := exa_v ga118
  have F_BYTE : Fld s s.heap a_BYTE "com/example/upbound/upbound/program/JavaType$Kind" "minimum" "Ljava/math/BigInteger;" (.ref m_BYTE) := own_fld ev_BYTE em_BYTE
  have F_INTERFACE : Fld s s.heap a_INTERFACE "com/example/upbound/upbound/program/JavaType$Kind" "minimum" "Ljava/math/BigInteger;" .null := own_fld ev_INTERFACE (null_v ga119)
  obtain ⟨m_LONG, em_LONG⟩ := exa_v ga120
  have F_LONG : Fld s s.heap a_LONG "com/example/upbound/upbound/program/JavaType$Kind" "minimum" "Ljava/math/BigInteger;" (.ref m_LONG) := own_fld ev_LONG em_LONG
  have F_FLOAT : Fld s s.heap a_FLOAT "com/example/upbound/upbound/program/JavaType$Kind" "minimum" "Ljava/math/BigInteger;" .null := own_fld ev_FLOAT (null_v ga121)
  obtain ⟨m_INT, em_INT⟩ := exa_v gb121
  have F_INT : Fld s s.heap a_INT "com/example/upbound/upbound/program/JavaType$Kind" "minimum" "Ljava/math/BigInteger;" (.ref m_INT) := own_fld ev_INT em_INT
  have F_CHAR : Fld s s.heap a_CHAR "com/example/upbound/upbound/program/JavaType$Kind" "minimum" "Ljava/math/BigInteger;" (.ref m_BOOLEAN) := own_fld ev_CHAR (own_eqT ga116 em_BOOLEAN)
  obtain ⟨n, o, h1, h2, h3, _, L, rfl, ⟨rfl, N, -⟩, hq⟩ := rm0 l s _ hw tables_1 i0 a_BOOLEAN a_BYTE a_CHAR a_SHORT a_INT a_LONG a_FLOAT a_DOUBLE a_ARRAY a_INTERFACE a_OBJECT m_BOOLEAN m_BYTE m_BOOLEAN m_SHORT m_INT m_LONG s.heap (Old.start s) S_BOOLEAN E_BOOLEAN F_BOOLEAN S_BYTE E_BYTE F_BYTE S_CHAR E_CHAR F_CHAR S_SHORT E_SHORT F_SHORT S_INT E_INT F_INT S_LONG E_LONG F_LONG S_FLOAT E_FLOAT F_FLOAT S_DOUBLE E_DOUBLE F_DOUBLE S_ARRAY E_ARRAY F_ARRAY S_INTERFACE E_INTERFACE F_INTERFACE S_OBJECT E_OBJECT F_OBJECT p e ha hc hk s m _ below hf ((Spec.applies_iff_loose hf).mp happ).1 ⟨rfl, State.Warmed39.refl s, rfl⟩ trivial
  refine ⟨n, _, h1, h2, h3, hpost _ _ _ _ _ _ ⟨Cond.after_iff.mpr rfl, Cond.after_iff.mpr (eq_i res_at (Term.int_eval (1)) rfl), trivial⟩ ⟨hq.1, hq.2.1, (hq.2.2.sift fun y hy => Or.inr (N y hy)).mono (by decide) (by decide)⟩⟩
theorem main_1_1 : Claimed_1_1 := comes_1 fun _ _ _ _ _ _ h hF => ⟨h.1, hF⟩
theorem main_1_2 : Claimed_1_2 := comes_1 fun _ _ _ _ _ _ h hF => ⟨h.2.1, hF⟩
end Jvm.Pilot.@@N@@
namespace Jvm.Pilot.@@N@@
open Jvm Jvm.ClassFile Sem Op Lib Jvm.Free Jvm.Stand Jvm.Pilot.@@N@@.Jvm.D
/-! MADE BY PROGRAM (witnessworld.py) out of the Statement's table words and the real class files: 15 classes; the members and pool entries that the words name. The judged class is class 1, her method 1. -/
namespace start1
open Jvm.ClassFile
def u (s : String) : CpInfo := .utf8 (stringToUtf16 s)
/-- a pool by its gaps: so many unusable entries, then the entry; so many at the end -/
def gap : Nat → List CpInfo → List CpInfo
  | 0, r => r
  | n + 1, r => .unusable :: gap n r
def poolList (es : List (Nat × CpInfo)) (last : Nat) : List CpInfo := es.foldr (fun e r => gap e.1 (e.2 :: r)) (gap last [])
def pool (es : List (Nat × CpInfo)) (last : Nat) : Array CpInfo := ⟨poolList es last⟩
def fileOf (pool : Array CpInfo) (this : Nat) (attrs : Array Attribute := #[]) (ms : Array MethodInfo := #[]) (fl : Nat := 33) (sup : Nat := 0) (ifs : Array Nat := #[]) (fds : Array FieldInfo := #[]) : ClassFile where
  minorVersion := 0
  majorVersion := 65
  constantPool := pool
  accessFlags := fl
  thisClass := this
  superClass := sup
  interfaces := ifs
  fields := fds
  methods := ms
  attributes := attrs
def plain (name : String) (sup : Option ClassId) : Class where
  name := name
  kind := .ordinary
  loader := none
  accessFlags := 33
  super := sup
  interfaces := #[]
  cf := none
  fields := #[]
  methods := #[]
  instanceTypes := #[]
  staticTypes := #[]
  resolved := #[]
  callSites := []
  init := .initialized
  statics := none
  mirror := none

def pool0 : Array CpInfo := pool [(5, u "<init>"), (0, u "()V"), (1, .class_ 10), (1, u "java/lang/Object")] 113

def k0m0 : Method := { name := "<init>", desc := "()V", sig := { parameters := [], returnType := none }, accessFlags := 1, code := none }
/-- java/lang/Object -/
def k0 : Class := { plain "java/lang/Object" none with
  accessFlags := 33
  interfaces := #[]
  cf := some (fileOf pool0 8 #[] #[{ accessFlags := 1, nameIndex := 5, descriptorIndex := 6, attributes := #[] }] 33 0 #[] #[])
  fields := #[]
  methods := #[k0m0]
  instanceTypes := #[]
  staticTypes := #[]
  resolved := Array.replicate 124 none
  statics := none }

def pool1 : Array CpInfo := pool [(2, .class_ 4), (1, u "java/lang/Object"), (0, u "<init>"), (0, u "()V"), (0, .class_ 8), (0, u "com/example/upbound/upbound/program/JavaType$Kind"), (0, .fieldref 7 10), (0, .nameAndType 11 12), (0, u "BOOLEAN"), (0, u "Lcom/example/upbound/upbound/program/JavaType$Kind;"), (0, .fieldref 7 14), (0, .nameAndType 15 12), (0, u "BYTE"), (0, .fieldref 7 17), (0, .nameAndType 18 12), (0, u "CHAR"), (0, .fieldref 7 20), (0, .nameAndType 21 12), (0, u "SHORT"), (0, .fieldref 7 23), (0, .nameAndType 24 12), (0, u "INT"), (0, .fieldref 7 26), (0, .nameAndType 27 12), (0, u "LONG"), (0, .fieldref 7 29), (0, .nameAndType 30 12), (0, u "FLOAT"), (0, .fieldref 7 32), (0, .nameAndType 33 12), (0, u "DOUBLE"), (0, .fieldref 7 35), (0, .nameAndType 36 12), (0, u "ARRAY"), (0, .fieldref 7 38), (0, .nameAndType 39 12), (0, u "INTERFACE"), (0, .fieldref 7 41), (0, .nameAndType 42 12), (0, u "OBJECT"), (0, .integer 2147483647), (0, .methodref 7 45), (0, .nameAndType 46 47), (0, u "isIntegral"), (0, u "()Z"), (0, .class_ 49), (0, u "com/example/upbound/upbound/program/KindIsIntegralPinLaw"), (2, u "law"), (0, u "(I)Z")] 9

def k1m0 : Method := { name := "<init>", desc := "()V", sig := { parameters := [], returnType := none }, accessFlags := 1, code := none }
def k1c1 : Code := { maxStack := 4, maxLocals := 4, code := code, exceptionTable := #[], attributes := #[] }
def k1m1 : Method := { name := "law", desc := "(I)Z", sig := { parameters := [.int], returnType := some .boolean }, accessFlags := 9, code := some k1c1 }
/-- com/example/upbound/upbound/program/KindIsIntegralPinLaw -/
def k1 : Class := { plain "com/example/upbound/upbound/program/KindIsIntegralPinLaw" (some 0) with
  accessFlags := 49
  interfaces := #[]
  cf := some (fileOf pool1 48 #[] #[{ accessFlags := 1, nameIndex := 5, descriptorIndex := 6, attributes := #[] }, { accessFlags := 9, nameIndex := 52, descriptorIndex := 53, attributes := #[] }] 49 2 #[] #[])
  fields := #[]
  methods := #[k1m0, k1m1]
  instanceTypes := #[]
  staticTypes := #[]
  resolved := Array.replicate 63 none
  statics := none }

def pool2 : Array CpInfo := pool [(1, .class_ 2), (0, u "java/lang/constant/Constable"), (0, .class_ 4), (0, u "java/lang/Object")] 6

/-- java/lang/constant/Constable -/
def k2 : Class := { plain "java/lang/constant/Constable" (some 0) with
  accessFlags := 1537
  interfaces := #[]
  cf := some (fileOf pool2 1 #[] #[] 1537 3 #[] #[])
  fields := #[]
  methods := #[]
  instanceTypes := #[]
  staticTypes := #[]
  resolved := Array.replicate 11 none
  statics := none }

def pool3 : Array CpInfo := pool [(1, .class_ 2), (0, u "java/lang/Comparable"), (0, .class_ 4), (0, u "java/lang/Object")] 7

/-- java/lang/Comparable -/
def k3 : Class := { plain "java/lang/Comparable" (some 0) with
  accessFlags := 1537
  interfaces := #[]
  cf := some (fileOf pool3 1 #[] #[] 1537 3 #[] #[])
  fields := #[]
  methods := #[]
  instanceTypes := #[]
  staticTypes := #[]
  resolved := Array.replicate 12 none
  statics := none }

def pool4 : Array CpInfo := pool [(1, .class_ 2), (0, u "java/io/Serializable"), (0, .class_ 4), (0, u "java/lang/Object")] 2

/-- java/io/Serializable -/
def k4 : Class := { plain "java/io/Serializable" (some 0) with
  accessFlags := 1537
  interfaces := #[]
  cf := some (fileOf pool4 1 #[] #[] 1537 3 #[] #[])
  fields := #[]
  methods := #[]
  instanceTypes := #[]
  staticTypes := #[]
  resolved := Array.replicate 7 none
  statics := none }

def pool5 : Array CpInfo := pool [(2, .class_ 4), (1, u "java/lang/Enum"), (0, u "name"), (0, u "Ljava/lang/String;"), (2, u "ordinal"), (0, u "I"), (1, .class_ 14), (1, u "java/lang/Object"), (4, u "hash"), (86, .class_ 108), (1, u "java/lang/Enum$EnumDesc"), (2, .class_ 112), (0, u "java/lang/constant/Constable"), (0, .class_ 114), (0, u "java/lang/Comparable"), (0, .class_ 116), (0, u "java/io/Serializable")] 87

/-- java/lang/Enum -/
def k5 : Class := { plain "java/lang/Enum" (some 0) with
  accessFlags := 1057
  interfaces := #[2, 3, 4]
  cf := some (fileOf pool5 2 #[.nestMembers #[106]] #[] 1057 12 #[111, 113, 115] #[{ accessFlags := 18, nameIndex := 5, descriptorIndex := 6, attributes := #[] }, { accessFlags := 18, nameIndex := 9, descriptorIndex := 10, attributes := #[] }, { accessFlags := 2, nameIndex := 19, descriptorIndex := 10, attributes := #[] }])
  fields := #[{ name := "name", type := (.object "java/lang/String"), accessFlags := 18, slot := 0, constantValue := 0 }, { name := "ordinal", type := .int, accessFlags := 18, slot := 1, constantValue := 0 }, { name := "hash", type := .int, accessFlags := 2, slot := 2, constantValue := 0 }]
  methods := #[]
  instanceTypes := #[(.object "java/lang/String"), .int, .int]
  staticTypes := #[]
  resolved := Array.replicate 204 none
  statics := none }

def pool6 : Array CpInfo := pool [(1, .class_ 2), (0, u "com/example/upbound/upbound/program/JavaType$Kind"), (2, u "BOOLEAN"), (0, u "Lcom/example/upbound/upbound/program/JavaType$Kind;"), (2, u "BYTE"), (2, u "CHAR"), (2, u "SHORT"), (2, u "INT"), (2, u "LONG"), (2, u "FLOAT"), (2, u "DOUBLE"), (2, u "ARRAY"), (2, u "INTERFACE"), (2, u "OBJECT"), (2, u "$VALUES"), (0, u "[Lcom/example/upbound/upbound/program/JavaType$Kind;"), (6, .class_ 49), (1, u "java/lang/Enum"), (11, .fieldref 1 62), (0, .nameAndType 63 64), (0, u "minimum"), (0, u "Ljava/math/BigInteger;"), (2, u "maximum"), (69, u "isIntegral"), (0, u "()Z"), (7, .class_ 147), (0, u "com/example/upbound/upbound/program/JavaType")] 16

def k6c0 : Code := { maxStack := 1, maxLocals := 1, code := prog_52_method_5_code, exceptionTable := #[], attributes := #[] }
def k6m0 : Method := { name := "isIntegral", desc := "()Z", sig := { parameters := [], returnType := some .boolean }, accessFlags := 1, code := some k6c0 }
/-- com/example/upbound/upbound/program/JavaType$Kind -/
def k6 : Class := { plain "com/example/upbound/upbound/program/JavaType$Kind" (some 5) with
  accessFlags := 16433
  interfaces := #[]
  cf := some (fileOf pool6 1 #[.nestHost 146] #[{ accessFlags := 1, nameIndex := 137, descriptorIndex := 138, attributes := #[] }] 16433 47 #[] #[{ accessFlags := 16409, nameIndex := 5, descriptorIndex := 6, attributes := #[] }, { accessFlags := 16409, nameIndex := 9, descriptorIndex := 6, attributes := #[] }, { accessFlags := 16409, nameIndex := 12, descriptorIndex := 6, attributes := #[] }, { accessFlags := 16409, nameIndex := 15, descriptorIndex := 6, attributes := #[] }, { accessFlags := 16409, nameIndex := 18, descriptorIndex := 6, attributes := #[] }, { accessFlags := 16409, nameIndex := 21, descriptorIndex := 6, attributes := #[] }, { accessFlags := 16409, nameIndex := 24, descriptorIndex := 6, attributes := #[] }, { accessFlags := 16409, nameIndex := 27, descriptorIndex := 6, attributes := #[] }, { accessFlags := 16409, nameIndex := 30, descriptorIndex := 6, attributes := #[] }, { accessFlags := 16409, nameIndex := 33, descriptorIndex := 6, attributes := #[] }, { accessFlags := 16409, nameIndex := 36, descriptorIndex := 6, attributes := #[] }, { accessFlags := 18, nameIndex := 63, descriptorIndex := 64, attributes := #[] }, { accessFlags := 18, nameIndex := 67, descriptorIndex := 64, attributes := #[] }, { accessFlags := 4122, nameIndex := 39, descriptorIndex := 40, attributes := #[] }])
  fields := #[{ name := "BOOLEAN", type := (.object "com/example/upbound/upbound/program/JavaType$Kind"), accessFlags := 16409, slot := 0, constantValue := 0 }, { name := "BYTE", type := (.object "com/example/upbound/upbound/program/JavaType$Kind"), accessFlags := 16409, slot := 1, constantValue := 0 }, { name := "CHAR", type := (.object "com/example/upbound/upbound/program/JavaType$Kind"), accessFlags := 16409, slot := 2, constantValue := 0 }, { name := "SHORT", type := (.object "com/example/upbound/upbound/program/JavaType$Kind"), accessFlags := 16409, slot := 3, constantValue := 0 }, { name := "INT", type := (.object "com/example/upbound/upbound/program/JavaType$Kind"), accessFlags := 16409, slot := 4, constantValue := 0 }, { name := "LONG", type := (.object "com/example/upbound/upbound/program/JavaType$Kind"), accessFlags := 16409, slot := 5, constantValue := 0 }, { name := "FLOAT", type := (.object "com/example/upbound/upbound/program/JavaType$Kind"), accessFlags := 16409, slot := 6, constantValue := 0 }, { name := "DOUBLE", type := (.object "com/example/upbound/upbound/program/JavaType$Kind"), accessFlags := 16409, slot := 7, constantValue := 0 }, { name := "ARRAY", type := (.object "com/example/upbound/upbound/program/JavaType$Kind"), accessFlags := 16409, slot := 8, constantValue := 0 }, { name := "INTERFACE", type := (.object "com/example/upbound/upbound/program/JavaType$Kind"), accessFlags := 16409, slot := 9, constantValue := 0 }, { name := "OBJECT", type := (.object "com/example/upbound/upbound/program/JavaType$Kind"), accessFlags := 16409, slot := 10, constantValue := 0 }, { name := "minimum", type := (.object "java/math/BigInteger"), accessFlags := 18, slot := 3, constantValue := 0 }, { name := "maximum", type := (.object "java/math/BigInteger"), accessFlags := 18, slot := 4, constantValue := 0 }, { name := "$VALUES", type := (.array (.object "com/example/upbound/upbound/program/JavaType$Kind")), accessFlags := 4122, slot := 11, constantValue := 0 }]
  methods := #[k6m0]
  instanceTypes := #[(.object "java/lang/String"), .int, .int, (.object "java/math/BigInteger"), (.object "java/math/BigInteger")]
  staticTypes := #[(.object "com/example/upbound/upbound/program/JavaType$Kind"), (.object "com/example/upbound/upbound/program/JavaType$Kind"), (.object "com/example/upbound/upbound/program/JavaType$Kind"), (.object "com/example/upbound/upbound/program/JavaType$Kind"), (.object "com/example/upbound/upbound/program/JavaType$Kind"), (.object "com/example/upbound/upbound/program/JavaType$Kind"), (.object "com/example/upbound/upbound/program/JavaType$Kind"), (.object "com/example/upbound/upbound/program/JavaType$Kind"), (.object "com/example/upbound/upbound/program/JavaType$Kind"), (.object "com/example/upbound/upbound/program/JavaType$Kind"), (.object "com/example/upbound/upbound/program/JavaType$Kind"), (.array (.object "com/example/upbound/upbound/program/JavaType$Kind"))]
  resolved := Array.replicate 164 none
  statics := some 0 }

def pool7 : Array CpInfo := pool [(2, .class_ 4), (1, u "java/lang/Object"), (0, u "<init>"), (0, u "()V"), (1, .class_ 10), (1, u "java/lang/Number"), (2, .class_ 14), (0, u "java/io/Serializable"), (0, u "serialVersionUID"), (0, u "J")] 20

def k7m0 : Method := { name := "<init>", desc := "()V", sig := { parameters := [], returnType := none }, accessFlags := 1, code := none }
/-- java/lang/Number -/
def k7 : Class := { plain "java/lang/Number" (some 0) with
  accessFlags := 1057
  interfaces := #[4]
  cf := some (fileOf pool7 8 #[] #[{ accessFlags := 1, nameIndex := 5, descriptorIndex := 6, attributes := #[] }] 1057 2 #[13] #[{ accessFlags := 26, nameIndex := 15, descriptorIndex := 16, attributes := #[] }])
  fields := #[{ name := "serialVersionUID", type := .long, accessFlags := 26, slot := 0, constantValue := 0 }]
  methods := #[k7m0]
  instanceTypes := #[]
  staticTypes := #[.long]
  resolved := Array.replicate 37 none
  statics := none }

def pool8 : Array CpInfo := pool [(4, .class_ 6), (1, u "java/lang/Number"), (16, .class_ 25), (1, u "java/math/BigInteger"), (0, u "ZERO"), (0, u "Ljava/math/BigInteger;"), (2, u "mag"), (0, u "[I"), (2, u "signum"), (0, u "I"), (59, u "bitsPerDigit"), (0, u "[J"), (9, u "digitsPerInt"), (12, u "intRadix"), (60, u "SMALL_PRIME_PRODUCT"), (79, u "ONE"), (6, u "TWO"), (43, u "$assertionsDisabled"), (0, u "Z"), (36, u "posConst"), (0, u "[Ljava/math/BigInteger;"), (4, u "negConst"), (116, .class_ 474), (1, u "java/math/BigInteger$RecursiveOp"), (106, u "NEGATIVE_ONE"), (91, u "bnExpModThreshTable"), (72, u "lowestSetBitPlusTwo"), (2, u "bitLengthPlusOne"), (2, u "bitCountPlusOne"), (6, u "LOG_TWO"), (0, u "D"), (2, u "logCache"), (0, u "[D"), (13, u "NUM_ZEROS"), (2, u "ZEROS"), (0, u "Ljava/lang/String;"), (9, u "longRadix"), (5, u "digitsPerLong"), (22, u "powerCache"), (0, u "[[Ljava/math/BigInteger;"), (45, u "firstNonzeroIntNumPlusTwo"), (38, .class_ 909), (1, u "java/math/BigInteger$UnsafeHolder"), (141, u "TEN"), (106, u "serialPersistentFields"), (0, u "[Ljava/io/ObjectStreamField;"), (0, .class_ 1161), (0, u "java/lang/Comparable"), (0, u "LONG_MASK"), (0, u "J"), (1, u "MAX_MAG_LENGTH"), (0, u "PRIME_SEARCH_BIT_LENGTH_LIMIT"), (1, u "KARATSUBA_THRESHOLD"), (1, u "TOOM_COOK_THRESHOLD"), (1, u "KARATSUBA_SQUARE_THRESHOLD"), (1, u "TOOM_COOK_SQUARE_THRESHOLD"), (1, u "BURNIKEL_ZIEGLER_THRESHOLD"), (0, u "BURNIKEL_ZIEGLER_OFFSET"), (1, u "SCHOENHAGE_BASE_CONVERSION_THRESHOLD"), (1, u "MULTIPLY_SQUARE_THRESHOLD"), (0, u "MONTGOMERY_INTRINSIC_THRESHOLD"), (1, u "SMALL_PRIME_THRESHOLD"), (1, u "DEFAULT_PRIME_CERTAINTY"), (1, u "MAX_CONSTANT"), (3, u "serialVersionUID"), (338, .class_ 1532), (0, u "java/math/BigInteger$RecursiveOp$RecursiveSquare"), (0, .class_ 1534), (0, u "java/math/BigInteger$RecursiveOp$RecursiveMultiply")] 7

/-- java/math/BigInteger -/
def k8 : Class := { plain "java/math/BigInteger" (some 7) with
  accessFlags := 33
  interfaces := #[3]
  cf := some (fileOf pool8 23 #[.nestMembers #[907, 472, 1531, 1533]] #[] 33 4 #[1160] #[{ accessFlags := 16, nameIndex := 34, descriptorIndex := 35, attributes := #[] }, { accessFlags := 16, nameIndex := 30, descriptorIndex := 31, attributes := #[] }, { accessFlags := 2, nameIndex := 752, descriptorIndex := 35, attributes := #[] }, { accessFlags := 2, nameIndex := 749, descriptorIndex := 35, attributes := #[] }, { accessFlags := 2, nameIndex := 746, descriptorIndex := 35, attributes := #[] }, { accessFlags := 2, nameIndex := 868, descriptorIndex := 35, attributes := #[] }, { accessFlags := 24, nameIndex := 1162, descriptorIndex := 1163, attributes := #[] }, { accessFlags := 26, nameIndex := 1165, descriptorIndex := 35, attributes := #[] }, { accessFlags := 26, nameIndex := 1166, descriptorIndex := 35, attributes := #[] }, { accessFlags := 26, nameIndex := 1168, descriptorIndex := 35, attributes := #[] }, { accessFlags := 26, nameIndex := 1170, descriptorIndex := 35, attributes := #[] }, { accessFlags := 26, nameIndex := 1172, descriptorIndex := 35, attributes := #[] }, { accessFlags := 26, nameIndex := 1174, descriptorIndex := 35, attributes := #[] }, { accessFlags := 24, nameIndex := 1176, descriptorIndex := 35, attributes := #[] }, { accessFlags := 24, nameIndex := 1177, descriptorIndex := 35, attributes := #[] }, { accessFlags := 26, nameIndex := 1179, descriptorIndex := 35, attributes := #[] }, { accessFlags := 26, nameIndex := 1181, descriptorIndex := 35, attributes := #[] }, { accessFlags := 26, nameIndex := 1182, descriptorIndex := 35, attributes := #[] }, { accessFlags := 10, nameIndex := 95, descriptorIndex := 96, attributes := #[] }, { accessFlags := 26, nameIndex := 1184, descriptorIndex := 35, attributes := #[] }, { accessFlags := 26, nameIndex := 1186, descriptorIndex := 35, attributes := #[] }, { accessFlags := 26, nameIndex := 180, descriptorIndex := 27, attributes := #[] }, { accessFlags := 26, nameIndex := 1188, descriptorIndex := 35, attributes := #[] }, { accessFlags := 26, nameIndex := 349, descriptorIndex := 350, attributes := #[] }, { accessFlags := 26, nameIndex := 355, descriptorIndex := 350, attributes := #[] }, { accessFlags := 74, nameIndex := 821, descriptorIndex := 822, attributes := #[] }, { accessFlags := 26, nameIndex := 763, descriptorIndex := 764, attributes := #[] }, { accessFlags := 26, nameIndex := 759, descriptorIndex := 760, attributes := #[] }, { accessFlags := 25, nameIndex := 26, descriptorIndex := 27, attributes := #[] }, { accessFlags := 25, nameIndex := 260, descriptorIndex := 27, attributes := #[] }, { accessFlags := 25, nameIndex := 267, descriptorIndex := 27, attributes := #[] }, { accessFlags := 26, nameIndex := 581, descriptorIndex := 27, attributes := #[] }, { accessFlags := 25, nameIndex := 1051, descriptorIndex := 27, attributes := #[] }, { accessFlags := 8, nameIndex := 673, descriptorIndex := 31, attributes := #[] }, { accessFlags := 10, nameIndex := 778, descriptorIndex := 35, attributes := #[] }, { accessFlags := 26, nameIndex := 781, descriptorIndex := 782, attributes := #[] }, { accessFlags := 10, nameIndex := 798, descriptorIndex := 31, attributes := #[] }, { accessFlags := 10, nameIndex := 792, descriptorIndex := 350, attributes := #[] }, { accessFlags := 10, nameIndex := 106, descriptorIndex := 31, attributes := #[] }, { accessFlags := 10, nameIndex := 119, descriptorIndex := 31, attributes := #[] }, { accessFlags := 26, nameIndex := 1192, descriptorIndex := 1163, attributes := #[] }, { accessFlags := 26, nameIndex := 1158, descriptorIndex := 1159, attributes := #[] }, { accessFlags := 4120, nameIndex := 311, descriptorIndex := 312, attributes := #[] }])
  fields := #[{ name := "signum", type := .int, accessFlags := 16, slot := 0, constantValue := 0 }, { name := "mag", type := (.array .int), accessFlags := 16, slot := 1, constantValue := 0 }, { name := "bitCountPlusOne", type := .int, accessFlags := 2, slot := 2, constantValue := 0 }, { name := "bitLengthPlusOne", type := .int, accessFlags := 2, slot := 3, constantValue := 0 }, { name := "lowestSetBitPlusTwo", type := .int, accessFlags := 2, slot := 4, constantValue := 0 }, { name := "firstNonzeroIntNumPlusTwo", type := .int, accessFlags := 2, slot := 5, constantValue := 0 }, { name := "LONG_MASK", type := .long, accessFlags := 24, slot := 0, constantValue := 0 }, { name := "MAX_MAG_LENGTH", type := .int, accessFlags := 26, slot := 1, constantValue := 0 }, { name := "PRIME_SEARCH_BIT_LENGTH_LIMIT", type := .int, accessFlags := 26, slot := 2, constantValue := 0 }, { name := "KARATSUBA_THRESHOLD", type := .int, accessFlags := 26, slot := 3, constantValue := 0 }, { name := "TOOM_COOK_THRESHOLD", type := .int, accessFlags := 26, slot := 4, constantValue := 0 }, { name := "KARATSUBA_SQUARE_THRESHOLD", type := .int, accessFlags := 26, slot := 5, constantValue := 0 }, { name := "TOOM_COOK_SQUARE_THRESHOLD", type := .int, accessFlags := 26, slot := 6, constantValue := 0 }, { name := "BURNIKEL_ZIEGLER_THRESHOLD", type := .int, accessFlags := 24, slot := 7, constantValue := 0 }, { name := "BURNIKEL_ZIEGLER_OFFSET", type := .int, accessFlags := 24, slot := 8, constantValue := 0 }, { name := "SCHOENHAGE_BASE_CONVERSION_THRESHOLD", type := .int, accessFlags := 26, slot := 9, constantValue := 0 }, { name := "MULTIPLY_SQUARE_THRESHOLD", type := .int, accessFlags := 26, slot := 10, constantValue := 0 }, { name := "MONTGOMERY_INTRINSIC_THRESHOLD", type := .int, accessFlags := 26, slot := 11, constantValue := 0 }, { name := "bitsPerDigit", type := (.array .long), accessFlags := 10, slot := 12, constantValue := 0 }, { name := "SMALL_PRIME_THRESHOLD", type := .int, accessFlags := 26, slot := 13, constantValue := 0 }, { name := "DEFAULT_PRIME_CERTAINTY", type := .int, accessFlags := 26, slot := 14, constantValue := 0 }, { name := "SMALL_PRIME_PRODUCT", type := (.object "java/math/BigInteger"), accessFlags := 26, slot := 15, constantValue := 0 }, { name := "MAX_CONSTANT", type := .int, accessFlags := 26, slot := 16, constantValue := 0 }, { name := "posConst", type := (.array (.object "java/math/BigInteger")), accessFlags := 26, slot := 17, constantValue := 0 }, { name := "negConst", type := (.array (.object "java/math/BigInteger")), accessFlags := 26, slot := 18, constantValue := 0 }, { name := "powerCache", type := (.array (.array (.object "java/math/BigInteger"))), accessFlags := 74, slot := 19, constantValue := 0 }, { name := "logCache", type := (.array .double), accessFlags := 26, slot := 20, constantValue := 0 }, { name := "LOG_TWO", type := .double, accessFlags := 26, slot := 21, constantValue := 0 }, { name := "ZERO", type := (.object "java/math/BigInteger"), accessFlags := 25, slot := 22, constantValue := 0 }, { name := "ONE", type := (.object "java/math/BigInteger"), accessFlags := 25, slot := 23, constantValue := 0 }, { name := "TWO", type := (.object "java/math/BigInteger"), accessFlags := 25, slot := 24, constantValue := 0 }, { name := "NEGATIVE_ONE", type := (.object "java/math/BigInteger"), accessFlags := 26, slot := 25, constantValue := 0 }, { name := "TEN", type := (.object "java/math/BigInteger"), accessFlags := 25, slot := 26, constantValue := 0 }, { name := "bnExpModThreshTable", type := (.array .int), accessFlags := 8, slot := 27, constantValue := 0 }, { name := "NUM_ZEROS", type := .int, accessFlags := 10, slot := 28, constantValue := 0 }, { name := "ZEROS", type := (.object "java/lang/String"), accessFlags := 26, slot := 29, constantValue := 0 }, { name := "digitsPerLong", type := (.array .int), accessFlags := 10, slot := 30, constantValue := 0 }, { name := "longRadix", type := (.array (.object "java/math/BigInteger")), accessFlags := 10, slot := 31, constantValue := 0 }, { name := "digitsPerInt", type := (.array .int), accessFlags := 10, slot := 32, constantValue := 0 }, { name := "intRadix", type := (.array .int), accessFlags := 10, slot := 33, constantValue := 0 }, { name := "serialVersionUID", type := .long, accessFlags := 26, slot := 34, constantValue := 0 }, { name := "serialPersistentFields", type := (.array (.object "java/io/ObjectStreamField")), accessFlags := 26, slot := 35, constantValue := 0 }, { name := "$assertionsDisabled", type := .boolean, accessFlags := 4120, slot := 36, constantValue := 0 }]
  methods := #[]
  instanceTypes := #[.int, (.array .int), .int, .int, .int, .int]
  staticTypes := #[.long, .int, .int, .int, .int, .int, .int, .int, .int, .int, .int, .int, (.array .long), .int, .int, (.object "java/math/BigInteger"), .int, (.array (.object "java/math/BigInteger")), (.array (.object "java/math/BigInteger")), (.array (.array (.object "java/math/BigInteger"))), (.array .double), .double, (.object "java/math/BigInteger"), (.object "java/math/BigInteger"), (.object "java/math/BigInteger"), (.object "java/math/BigInteger"), (.object "java/math/BigInteger"), (.array .int), .int, (.object "java/lang/String"), (.array .int), (.array (.object "java/math/BigInteger")), (.array .int), (.array .int), .long, (.array (.object "java/io/ObjectStreamField")), .boolean]
  resolved := Array.replicate 1542 none
  statics := none }

def pool9 : Array CpInfo := pool [(1, u "java/lang/Cloneable"), (0, .class_ 1), (0, u "java/lang/Object"), (0, .class_ 3)] 3

/-- java/lang/Cloneable -/
def k9 : Class := { plain "java/lang/Cloneable" (some 0) with
  accessFlags := 1537
  interfaces := #[]
  cf := some (fileOf pool9 2 #[] #[] 1537 4 #[] #[])
  fields := #[]
  methods := #[]
  instanceTypes := #[]
  staticTypes := #[]
  resolved := Array.replicate 8 none
  statics := none }

/-- the primitive byte -/
def k10 : Class := { plain "byte" none with kind := .primitive 'B', accessFlags := 0x411 }
/-- [B -/
def k11 : Class := { plain "[B" (some 0) with kind := .array 10 .byte, interfaces := #[9, 4], accessFlags := 1041 }

/-- the primitive int -/
def k12 : Class := { plain "int" none with kind := .primitive 'I', accessFlags := 0x411 }
/-- [I -/
def k13 : Class := { plain "[I" (some 0) with kind := .array 12 .int, interfaces := #[9, 4], accessFlags := 1041 }

/-- [Lcom/example/upbound/upbound/program/JavaType$Kind; -/
def k14 : Class := { plain "[Lcom/example/upbound/upbound/program/JavaType$Kind;" (some 0) with kind := .array 6 (.object "com/example/upbound/upbound/program/JavaType$Kind"), interfaces := #[9, 4], accessFlags := 1041 }

def heap : Heap := #[{ cls := 6, slots := #[.ref 2, .ref 3, .ref 4, .ref 5, .ref 6, .ref 7, .ref 8, .ref 9, .ref 10, .ref 11, .ref 12, .null], vm := .statics 6 },
  { cls := 8, slots := #[.int 0, .null, .int 0, .int 0, .int 0, .int 0], vm := .none },
  { cls := 6, slots := #[.null, .int 0, .int 0, .ref 1, .null], vm := .none },
  { cls := 6, slots := #[.null, .int 1, .int 0, .ref 1, .null], vm := .none },
  { cls := 6, slots := #[.null, .int 2, .int 0, .ref 1, .null], vm := .none },
  { cls := 6, slots := #[.null, .int 3, .int 0, .ref 1, .null], vm := .none },
  { cls := 6, slots := #[.null, .int 4, .int 0, .ref 1, .null], vm := .none },
  { cls := 6, slots := #[.null, .int 5, .int 0, .ref 1, .null], vm := .none },
  { cls := 6, slots := #[.null, .int 6, .int 0, .null, .null], vm := .none },
  { cls := 6, slots := #[.null, .int 7, .int 0, .null, .null], vm := .none },
  { cls := 6, slots := #[.null, .int 8, .int 0, .null, .null], vm := .none },
  { cls := 6, slots := #[.null, .int 9, .int 0, .null, .null], vm := .none },
  { cls := 6, slots := #[.null, .int 10, .int 0, .null, .null], vm := .none }]
def classes : Array Class := #[k0, k1, k2, k3, k4, k5, k6, k7, k8, k9, k10, k11, k12, k13, k14]
def interned : List (Array UInt16 × Addr) := []
def slotsUsed : Nat := 73
def theMethod : MethodId := ⟨1, 1⟩
def args0 : Array Value := #[.int 4]
def aboutOver (below : List Frame) : State where
  vm := { classes := classes, interned := interned.toArray }
  heap := heap
  slotsUsed := slotsUsed
  threads := #[{ frames := .invoking theMethod args0 :: below }]
def below0 : List Frame := [.native { method := ⟨0, 0⟩, args := #[] }]
def about1 : State := aboutOver below0
def p0 : Program := .bare "" "" ""
def e0 : Env := launch0.env 0 0 0
theorem w_frames : about1.frames = Frame.invoking theMethod args0 :: below0 := rfl
set_option maxRecDepth 65536 in
theorem w_args : argsFit about1.vm theMethod args0 = true := by decide +kernel
set_option maxRecDepth 65536 in
theorem w_heap : heapFits about1 = true := by decide +kernel
set_option maxRecDepth 65536 in
theorem w_runnable : about1.curStatus? = some .runnable := by decide +kernel
set_option maxRecDepth 65536 in
theorem w_alone : about1.alone = true := by decide +kernel
set_option maxRecDepth 65536 in
theorem w_named : about1.methodNamed? x = some theMethod := by decide +kernel
set_option maxRecDepth 65536 in
theorem w_hears : about1.hears theMethod below0 = true := by decide +kernel
set_option maxRecDepth 65536 in
theorem w_ripe : about1.ripe theMethod args0 below0 = true := by decide +kernel
theorem w_running : about1.status = .running := rfl
set_option maxRecDepth 65536 in
theorem w_room : about1.hasRoom e0.platform room_1 = true :=
  launch0.hasRoom_least _ room_1 (by decide +kernel) (by decide +kernel) (by decide +kernel) (by decide +kernel) (by decide +kernel) (by decide +kernel)
theorem allAtoms_all (ts : List Jvm.Cond) (a : Array Jvm.Value) (st : Jvm.State) : (allAtoms ts).before a st = ts.all (fun c => c.before a st) := by
  induction ts with
  | nil => rfl
  | cons c t ih =>
    show (Jvm.Cond.and c (allAtoms t)).before a st = _
    rw [Jvm.Cond.before_and, ih, List.all_cons]
def words1 : List Jvm.Cond := Jvm.Cond.code x code maxLocals ret :: tables_1
/-- a 'code' word, met by the world's own term for the bytes: nothing is compared byte by byte -/
theorem code_word {y : MethodName} {bytes : ByteArray} {mx : Nat} {rt : Option FieldType} {a : Array Value} {s : State} {m : MethodId} {meth : Method} {c : Code} (h1 : s.methodNamed? y = some m) (h2 : s.vm.method? m = some meth) (h3 : meth.code = some c) (h4 : c.code = bytes)
    (h5 : (c.maxLocals == mx && c.exceptionTable.isEmpty && decide (c.maxStack ≤ mostOperands) && decide (meth.sig.returnType = rt) && !meth.locks && decide (parseMethodDescriptor y.desc = some meth.sig)) = true) : (Jvm.Cond.code y bytes mx rt).before a s = true := by
  simp only [Bool.and_eq_true, beq_iff_eq, Bool.not_eq_true', decide_eq_true_eq] at h5
  obtain ⟨⟨⟨⟨⟨g1, g2⟩, g3⟩, g4⟩, g5⟩, g6⟩ := h5
  simp [Cond.before, Cond.holds, Cond.value, h1, h2, h3, h4, g1, g2, g3, g4, g5, g6]
def isCode : Jvm.Cond → Bool
  | .code _ _ _ _ => true
  | _ => false
theorem all_split {L : List Jvm.Cond} {P : Jvm.Cond → Bool} (h1 : L.all (fun c => isCode c || P c) = true) (h2 : ∀ c ∈ L.filter isCode, P c = true) : L.all P = true := by
  refine List.all_eq_true.mpr fun c hc => ?_
  have h := List.all_eq_true.mp h1 c hc
  rcases Bool.eq_false_or_eq_true (isCode c) with hi | hi
  · exact h2 c (List.mem_filter.mpr ⟨hc, hi⟩)
  · simpa [hi] using h
set_option maxRecDepth 65536 in
theorem w_c0 : (Jvm.Cond.code x code maxLocals ret).before args0 about1 = true := code_word (m := ⟨1, 1⟩) (meth := k1m1) (c := k1c1) (by decide +kernel) rfl rfl rfl (by decide +kernel)
set_option maxRecDepth 65536 in
theorem w_c1 : (Jvm.Cond.code ({ cls := "com/example/upbound/upbound/program/JavaType$Kind", name := "isIntegral", desc := "()Z" } : Jvm.MethodName) prog_52_method_5_code (1 : Nat) (Option.some Jvm.ClassFile.FieldType.boolean)).before args0 about1 = true := code_word (m := ⟨6, 0⟩) (meth := k6m0) (c := k6c0) (by decide +kernel) rfl rfl rfl (by decide +kernel)
def codes1 : List Jvm.Cond := [Jvm.Cond.code x code maxLocals ret, Jvm.Cond.code ({ cls := "com/example/upbound/upbound/program/JavaType$Kind", name := "isIntegral", desc := "()Z" } : Jvm.MethodName) prog_52_method_5_code (1 : Nat) (Option.some Jvm.ClassFile.FieldType.boolean)]
set_option maxRecDepth 65536 in
theorem codes_eq : words1.filter isCode = codes1 := rfl
theorem w_codes : ∀ c ∈ words1.filter isCode, c.before args0 about1 = true := by
  rw [codes_eq]
  intro c hc
  simp only [codes1, List.mem_cons, List.not_mem_nil, or_false] at hc
  rcases hc with rfl | rfl
  · exact w_c0
  · exact w_c1
set_option maxRecDepth 65536 in
theorem w_t1 : (words1.take 24).all (fun c => isCode c || c.before args0 about1) = true := by decide +kernel
set_option maxRecDepth 65536 in
theorem w_t2 : (words1.drop 24).all (fun c => isCode c || c.before args0 about1) = true := by decide +kernel
theorem w_tables : (allAtoms (Jvm.Cond.code x code maxLocals ret :: tables_1)).before args0 about1 = true := by
  rw [allAtoms_all]
  show words1.all (fun c => c.before args0 about1) = true
  refine all_split ?_ w_codes
  rw [← List.take_append_drop 24 words1, List.all_append, w_t1, w_t2]
  rfl
set_option maxRecDepth 65536 in
theorem w_case : (Jvm.Cond.and given_1 narrow_1).before args0 about1 = true := by decide +kernel
theorem w_applies : (headSpec (Jvm.Cond.code x code maxLocals ret :: tables_1) room_1).applies x e0.platform about1 = true :=
  (Spec.applies_iff w_frames).mpr ⟨w_running, w_runnable, w_alone, w_named, w_hears, w_ripe, w_room, w_tables⟩
theorem atStart : AtStart classFile x code maxLocals ret World_1 tables_1 room_1 Calls_1 rest_1 Pre_1 launch0 p0 e0 about1 theMethod args0 below0 :=
  ⟨lists_1, trivial, launch0.admits_env _ _ _, launch0.least_env, fairChoices_fair.cas, fairChoices_fair.clock, w_frames, w_args, w_heap, w_applies, trivial, trivial, w_case⟩
end start1
theorem witness_1 : WitnessClaimed_1 := ⟨start1.p0, start1.e0, start1.about1, start1.theMethod, start1.args0, start1.below0, start1.atStart⟩
end Jvm.Pilot.@@N@@
