import JvmDerived
import JvmDerived.Pilot.@@N@@Statement
import JvmDerived.Pilot.@@N@@Code
set_option linter.unusedVariables false
set_option linter.unusedSimpArgs false
namespace Jvm.RoadKit
open Sem ClassFile Op Lib Jvm.Stand Jvm.Free Jvm.LawKit
section New
variable {p : Program} {l : Launch} {e : Env} {R : Room} {s : State} {m : MethodId} {args : Array Value} {below : List Frame} {meth : Method} {c : Code} {T : State} {locs : List Loc} {cells slots : Nat}
theorem retI (X : Stand p l e R s m args below meth c T locs cells slots) (hx : p.tables.exec = Jvm.exec) {pc : Nat} {Ls : Array Slot} {z : Int32} {rest : List Value} (hret : meth.sig.returnType = some .int) (hd : decode c.code pc = .ok (.ireturn, 1)) {fs : List Frame}
    (hl : ∀ (f : JFrame) (acts : List Action), f.method = m → f.locked = none → f.entered = [] → (doReturn e (T.setTop f) acts (some (.int z))).1 = T.setFrames fs) : Steps p.tables e below (T.setTop (mkF m pc Ls (.int z :: rest))) (T.setFrames fs) :=
  retOut X hx hret rfl (Or.inl ⟨rfl, Or.inl rfl, z, rfl⟩) hd hl
theorem own_retJ (X : Stand p l e R s m args below meth c T locs cells slots) (hx : p.tables.exec = Jvm.exec) {pc : Nat} {Ls : Array Slot} {z : Int64} {rest : List Value} (hret : meth.sig.returnType = some .long) (hd : decode c.code pc = .ok (.lreturn, 1)) {fs : List Frame}
    (hl : ∀ (f : JFrame) (acts : List Action), f.method = m → f.locked = none → f.entered = [] → (doReturn e (T.setTop f) acts (some (.long z))).1 = T.setFrames fs) : Steps p.tables e below (T.setTop (mkF m pc Ls (.long z :: rest))) (T.setFrames fs) :=
  retOut X hx hret rfl (Or.inr (Or.inl ⟨rfl, rfl, z, rfl⟩)) hd hl
theorem own_retA (X : Stand p l e R s m args below meth c T locs cells slots) (hx : p.tables.exec = Jvm.exec) {pc : Nat} {Ls : Array Slot} {w : Value} {t : FieldType} {rest : List Value} (hret : meth.sig.returnType = some t) (ht : t.isReference = true) (hw : w.isRef = true) (hd : decode c.code pc = .ok (.areturn, 1)) {fs : List Frame}
    (hl : ∀ (f : JFrame) (acts : List Action), f.method = m → f.locked = none → f.entered = [] → (doReturn e (T.setTop f) acts (some w)).1 = T.setFrames fs) : Steps p.tables e below (T.setTop (mkF m pc Ls (w :: rest))) (T.setFrames fs) :=
  retOut X hx hret (by cases t <;> first | rfl | cases ht) (Or.inr (Or.inr (Or.inr (Or.inr ⟨rfl, ht, hw⟩)))) hd hl
end New
end Jvm.RoadKit
namespace Jvm.Pilot.@@N@@
open Jvm Jvm.ClassFile Sem Op Lib Jvm.Free Jvm.Stand Jvm.LawKit Jvm.RoadKit Bundle Jvm.Pilot.@@N@@.Jvm.D
abbrev own_Go (tb : Tables) (e : Env) (below : List Frame) (S0 S1 : State) : Prop := ∀ t, Steps tb e below S1 t → Steps tb e below S0 t
theorem own_eqI {args : Array Value} {s : State} {t : Term} {k : Int32} (h : (Jvm.Cond.eq t (.int k)).value args s none s [] = some true) : t.eval args s none [] s = some (.int k) := by
  obtain ⟨x, y, e1, e2, -, -⟩ := cmp_v (Or.inl h)
  obtain rfl : y = .int k := (Option.some.inj e2).symm
  cases x <;> simp [Cond.value, e1, Term.eval] at h <;> simp_all
theorem own_eqL {args : Array Value} {s : State} {t : Term} {k : Int64} (h : (Jvm.Cond.eq t (.long k)).value args s none s [] = some true) : t.eval args s none [] s = some (.long k) := by
  obtain ⟨x, y, e1, e2, -, -⟩ := cmp_v (Or.inl h)
  obtain rfl : y = .long k := (Option.some.inj e2).symm
  cases x <;> simp [Cond.value, e1, Term.eval] at h <;> simp_all
theorem own_nar0 : nar .boolean (0 : Int32) = 0 := by decide
theorem own_nar1 : nar .boolean (1 : Int32) = 1 := by decide
theorem own_nar_ite {P : Prop} [Decidable P] {a b : Int32} (ha : nar .boolean a = a) (hb : nar .boolean b = b) : nar .boolean (if P then a else b) = if P then a else b := by split <;> assumption
theorem own_fld {args : Array Value} {s : State} {t : Term} {a : Addr} {C n d : String} {v : Value} (ht : t.eval args s none [] s = some (.ref a)) (h : (Term.field t C n d).eval args s none [] s = some v) : Fld s s.heap a C n d v :=
  Fld.start (by rw [← fld_at (args := args) (first := s) (o := none) (idx := []) ht]; exact h)

theorem d1_0 : decode prog_30_method_11_code 0 = .ok (.iload_n 1, 1) := by decide +kernel
theorem d1_1 : decode prog_30_method_11_code 1 = .ok (.ifCond .lt 15, 3) := by decide +kernel
theorem d1_4 : decode prog_30_method_11_code 4 = .ok (.iload_n 1, 1) := by decide +kernel
theorem d1_5 : decode prog_30_method_11_code 5 = .ok (.aload_n 0, 1) := by decide +kernel
theorem d1_6 : decode prog_30_method_11_code 6 = .ok (.getfield 44, 3) := by decide +kernel
theorem d1_9 : decode prog_30_method_11_code 9 = .ok (.if_icmp .ge 7, 3) := by decide +kernel
theorem d1_12 : decode prog_30_method_11_code 12 = .ok (.iconst 1, 1) := by decide +kernel
theorem d1_13 : decode prog_30_method_11_code 13 = .ok (.goto 4, 3) := by decide +kernel
theorem d1_16 : decode prog_30_method_11_code 16 = .ok (.iconst 0, 1) := by decide +kernel
theorem d1_17 : decode prog_30_method_11_code 17 = .ok (.ireturn, 1) := by decide +kernel
theorem pn_1 : plainName "com/example/sectorline/sectorline/card/Layout" = true := by first | (simp [plainName, overriddenIn]; done) | decide +kernel
theorem ef_1 (m : MethodId) (a0 : Addr) (p1 : Int32) : entryFrame m #[(.ref a0), (.int p1)] 2 = mkF m 0 #[.val (.ref a0), .val (.int p1)] [] := by first | (simp [entryFrame, mkF, argsToLocals, Value.category]; done) | rfl
def Q1 (Z : State) (a0 : Addr) (p1 : Int32) (nn : Int32) (h0 : Heap) (v : Option Value) (h : Heap) (L : List Loc) : Prop := v = some (.int (if p1 < (0 : Int32) then (0 : Int32) else (if p1 < nn then (1 : Int32) else (0 : Int32)))) ∧ L = [] ∧ h = h0
set_option maxRecDepth 65536 in
set_option maxHeartbeats 40000000 in
theorem rm1 (l : Launch) (Z : State) (a0 : Array Value) (hw : ∀ d ∈ tables_1, d.before a0 Z = true) (ws : List Jvm.Cond) (a0 : Addr) (p1 : Int32) (nn : Int32) (h0 : Heap) (F_n : Fld Z h0 a0 "com/example/sectorline/sectorline/card/Layout" "blockCount" "I" (.int nn)) :
    MetFree l (⟨"com/example/sectorline/sectorline/card/Layout", "hasBlock", "(I)Z"⟩ : MethodName) (head1 (Jvm.Cond.code (⟨"com/example/sectorline/sectorline/card/Layout", "hasBlock", "(I)Z"⟩ : MethodName) prog_30_method_11_code 2 (some .boolean) :: ws) ({ frames := 0, cells := 0, slots := 0, locals := 0 } : Room)) (fun a U => a = #[(.ref a0), (.int p1)] ∧ Z.Warmed39 U.vm ∧ U.heap = h0) (fun _ _ _ _ _ => True) (fun _ U o U' => ∃ v L, o = .returned v ∧ Q1 Z a0 p1 nn h0 v U'.heap L ∧ FrameEnd U o U' L ({ frames := 0, cells := 0, slots := 0, locals := 0 } : Room).cells ({ frames := 0, cells := 0, slots := 0, locals := 0 } : Room).slots) := by
  refine MetFree.of_bodySF (plainFor_of_name pn_1) hisR ?_
  intro p e s m args below meth c s₁ Bd hml0 hP hK
  obtain ⟨rfl, hZ, hh⟩ := hP
  have hZ0 := hZ
  have hx := Bd.exec
  have hby := Bd.bytes
  have hml : c.maxLocals = 2 := hml0
  have hown : s.vm.findClass "com/example/sectorline/sectorline/card/Layout" = some m.cls := findClass_of_methodNamed Bd.named
  have hnm := (name_of_methodNamed Bd.named Bd.method).1
  have X0 : Stand p l e ({ frames := 0, cells := 0, slots := 0, locals := 0 } : Room) s m #[(.ref a0), (.int p1)] below meth c s₁ [] 0 0 := Stand.of_body Bd
  have e0 : s₁.heap = h0 := by rw [← hh, Bd.state]; rfl
  have G0 : own_Go p.tables e below (s₁.setTop (entryFrame m #[(.ref a0), (.int p1)] 2)) (s₁.setTop (mkF m 0 #[.val (.ref a0), .val (.int p1)] [])) := fun t k => castTop (ef_1 m a0 p1) k
  have G1 : own_Go p.tables e below (s₁.setTop (entryFrame m #[(.ref a0), (.int p1)] 2)) (s₁.setTop (mkF m 1 #[.val (.ref a0), .val (.int p1)] [(.int p1)])) := fun t k => G0 t (XS.iloadN X0.here hx rfl (hb hby d1_0) rfl k)
  obtain ⟨z2_0, T2, X2, e2, hz2_0, G2⟩ : ∃ (z2_0 : Int32) (T2 : State), Stand p l e ({ frames := 0, cells := 0, slots := 0, locals := 0 } : Room) s m #[(.ref a0), (.int p1)] below meth c T2 [] 0 0 ∧ T2.heap = h0 ∧ z2_0 = (if p1 < (0 : Int32) then (0 : Int32) else (if p1 < nn then (1 : Int32) else (0 : Int32))) ∧ own_Go p.tables e below (s₁.setTop (entryFrame m #[(.ref a0), (.int p1)] 2)) (T2.setTop (mkF m 17 #[.val (.ref a0), .val (.int p1)] [(.int z2_0)])) := by
    by_cases hc2 : p1 < (0 : Int32)
    · have G3 : own_Go p.tables e below (s₁.setTop (entryFrame m #[(.ref a0), (.int p1)] 2)) (s₁.setTop (mkF m 16 #[.val (.ref a0), .val (.int p1)] [])) := fun t k => G1 t (XS.ifYes X0.here hx rfl (pc0 := 1) (pc' := 16) rfl (hb hby d1_1) rfl ((if0 _ _).trans (tlt hc2).1) (by decide) (by decide) k)
      have G4 : own_Go p.tables e below (s₁.setTop (entryFrame m #[(.ref a0), (.int p1)] 2)) (s₁.setTop (mkF m 17 #[.val (.ref a0), .val (.int p1)] [(.int (0 : Int32))])) := fun t k => G3 t (XT.iconstV X0.here hx rfl (0 : Int32) (hb hby d1_16) (by decide) k)
      exact ⟨_, _, X0, e0, (if_pos hc2).symm, G4⟩
    · have G5 : own_Go p.tables e below (s₁.setTop (entryFrame m #[(.ref a0), (.int p1)] 2)) (s₁.setTop (mkF m 4 #[.val (.ref a0), .val (.int p1)] [])) := fun t k => G1 t (XS.ifNo X0.here hx rfl (hb hby d1_1) rfl ((if0 _ _).trans (flt hc2).1) k)
      have G6 : own_Go p.tables e below (s₁.setTop (entryFrame m #[(.ref a0), (.int p1)] 2)) (s₁.setTop (mkF m 5 #[.val (.ref a0), .val (.int p1)] [(.int p1)])) := fun t k => G5 t (XS.iloadN X0.here hx rfl (hb hby d1_4) rfl k)
      have G7 : own_Go p.tables e below (s₁.setTop (entryFrame m #[(.ref a0), (.int p1)] 2)) (s₁.setTop (mkF m 6 #[.val (.ref a0), .val (.int p1)] [(.ref a0), (.int p1)])) := fun t k => G6 t (XS.aloadN X0.here hx rfl (hb hby d1_5) rfl rfl k)
      obtain ⟨T8, X8, e8, st8⟩ := getF X0 hx hZ hown (host := "") (Or.inl (hw _ (List.mem_of_getElem? (i := 9) rfl))) Via.refl e0 F_n (g := (mkF m 6 #[.val (.ref a0), .val (.int p1)] [(.ref a0), (.int p1)])) rfl rfl (hb hby d1_6)
      have G8 : own_Go p.tables e below (s₁.setTop (entryFrame m #[(.ref a0), (.int p1)] 2)) (T8.setTop (mkF m 9 #[.val (.ref a0), .val (.int p1)] [(.int nn), (.int p1)])) := fun t k => G7 t (st8 t k)
      obtain ⟨z9_0, rfl, G9⟩ : ∃ (z9_0 : Int32), z9_0 = (if p1 < nn then (1 : Int32) else (0 : Int32)) ∧ own_Go p.tables e below (s₁.setTop (entryFrame m #[(.ref a0), (.int p1)] 2)) (T8.setTop (mkF m 17 #[.val (.ref a0), .val (.int p1)] [(.int z9_0)])) := by
        by_cases hc9 : p1 < nn
        · have G10 : own_Go p.tables e below (s₁.setTop (entryFrame m #[(.ref a0), (.int p1)] 2)) (T8.setTop (mkF m 12 #[.val (.ref a0), .val (.int p1)] [])) := fun t k => G8 t (XS.icmpNo X8.here hx rfl (hb hby d1_9) rfl (tlt hc9).2.1 k)
          have G11 : own_Go p.tables e below (s₁.setTop (entryFrame m #[(.ref a0), (.int p1)] 2)) (T8.setTop (mkF m 13 #[.val (.ref a0), .val (.int p1)] [(.int (1 : Int32))])) := fun t k => G10 t (XT.iconstV X8.here hx rfl (1 : Int32) (hb hby d1_12) (by decide) k)
          have G12 : own_Go p.tables e below (s₁.setTop (entryFrame m #[(.ref a0), (.int p1)] 2)) (T8.setTop (mkF m 17 #[.val (.ref a0), .val (.int p1)] [(.int (1 : Int32))])) := fun t k => G11 t (XS.goto X8.here hx rfl (pc0 := 13) (pc' := 17) rfl (hb hby d1_13) (by decide) (by decide) k)
          exact ⟨_, (if_pos hc9).symm, G12⟩
        · have G13 : own_Go p.tables e below (s₁.setTop (entryFrame m #[(.ref a0), (.int p1)] 2)) (T8.setTop (mkF m 16 #[.val (.ref a0), .val (.int p1)] [])) := fun t k => G8 t (XS.icmpYes X8.here hx rfl (pc0 := 9) (pc' := 16) rfl (hb hby d1_9) rfl (flt hc9).2.1 (by decide) (by decide) k)
          have G14 : own_Go p.tables e below (s₁.setTop (entryFrame m #[(.ref a0), (.int p1)] 2)) (T8.setTop (mkF m 17 #[.val (.ref a0), .val (.int p1)] [(.int (0 : Int32))])) := fun t k => G13 t (XT.iconstV X8.here hx rfl (0 : Int32) (hb hby d1_16) (by decide) k)
          exact ⟨_, (if_neg hc9).symm, G14⟩
      exact ⟨_, _, X8, e8, (if_neg hc2).symm, G9⟩
  obtain ⟨fs, hr, hrun, hended, hW, hsame⟩ := X2.leave (v := some (.int (nar .boolean z2_0))) (fun h => by rw [Bd.returns] at h; cases h)
  refine ⟨_, _, G2 _ ?_, hrun, hended, _, _, rfl, ?_, ⟨_, rfl⟩, hW, hsame.mono (by decide) (by decide)⟩
  · exact retN X2 hx (t := .boolean) Bd.returns (by simp) (hb hby d1_17) hr
  · show Q1 Z a0 p1 nn h0 _ T2.heap _
    rw [e2]
    exact ⟨congrArg (fun z => some (Value.int z)) (by rw [hz2_0]; (repeat (first | exact own_nar0 | exact own_nar1 | apply own_nar_ite))), rfl, rfl⟩
theorem pn_0 : plainName "com/example/sectorline/sectorline/card/LayoutHasBlockPinLaw" = true := by first | (simp [plainName, overriddenIn]; done) | decide +kernel
theorem pd_0_0 : parseMethodDescriptor "(I)Z" = some ⟨[.int], some .boolean⟩ := by decide +kernel
theorem ef_0 (m : MethodId) (p0 : Int32) (p1 : Int32) (p2 : Int32) : entryFrame m #[(.int p0), (.int p1), (.int p2)] maxLocals = mkF m 0 #[.val (.int p0), .val (.int p1), .val (.int p2), .unset, .unset, .unset, .unset, .unset, .unset] [] := by first | (simp [entryFrame, mkF, argsToLocals, Value.category, maxLocals]; done) | rfl
def Q0 (Z : State) (p0 : Int32) (p1 : Int32) (p2 : Int32) (aM a1 a4 : Addr) (h0 : Heap) (v : Option Value) (h : Heap) (L : List Loc) : Prop := v = some (.int 1) ∧ L = [] ∧ h = h0
set_option maxRecDepth 65536 in
set_option maxHeartbeats 40000000 in
theorem rm0 (l : Launch) (Z : State) (a0 : Array Value) (hw : ∀ d ∈ tables_1, d.before a0 Z = true) (ws : List Jvm.Cond) (p0 : Int32) (p1 : Int32) (p2 : Int32) (aM a1 a4 : Addr) (h0 : Heap) (S_aM : Sta Z h0 "com/example/sectorline/sectorline/card/Layout" "MINI" "Lcom/example/sectorline/sectorline/card/Layout;" (.ref aM)) (E_aM : Exa Z h0 aM "com/example/sectorline/sectorline/card/Layout") (F_aM : Fld Z h0 aM "com/example/sectorline/sectorline/card/Layout" "blockCount" "I" (.int (20 : Int32))) (S_a1 : Sta Z h0 "com/example/sectorline/sectorline/card/Layout" "CLASSIC_1K" "Lcom/example/sectorline/sectorline/card/Layout;" (.ref a1)) (E_a1 : Exa Z h0 a1 "com/example/sectorline/sectorline/card/Layout") (F_a1 : Fld Z h0 a1 "com/example/sectorline/sectorline/card/Layout" "blockCount" "I" (.int (64 : Int32))) (S_a4 : Sta Z h0 "com/example/sectorline/sectorline/card/Layout" "CLASSIC_4K" "Lcom/example/sectorline/sectorline/card/Layout;" (.ref a4)) (E_a4 : Exa Z h0 a4 "com/example/sectorline/sectorline/card/Layout") (F_a4 : Fld Z h0 a4 "com/example/sectorline/sectorline/card/Layout" "blockCount" "I" (.int (256 : Int32))) :
    MetFree l x (head1 (Jvm.Cond.code x code maxLocals ret :: ws) room_1) (fun a U => a = #[(.int p0), (.int p1), (.int p2)] ∧ Z.Warmed39 U.vm ∧ U.heap = h0) (fun _ _ _ _ _ => True) (fun _ U o U' => ∃ v L, o = .returned v ∧ Q0 Z p0 p1 p2 aM a1 a4 h0 v U'.heap L ∧ FrameEnd U o U' L room_1.cells room_1.slots) := by
  refine MetFree.of_bodySF (plainFor_of_name pn_0) hisR ?_
  intro p e s m args below meth c s₁ Bd hml0 hP hK
  obtain ⟨rfl, hZ, hh⟩ := hP
  have hZ0 := hZ
  have hx := Bd.exec
  have hby := Bd.bytes
  have hml : c.maxLocals = 9 := hml0
  have hown : s.vm.findClass "com/example/sectorline/sectorline/card/LayoutHasBlockPinLaw" = some m.cls := findClass_of_methodNamed Bd.named
  have hnm := (name_of_methodNamed Bd.named Bd.method).1
  have X0 : Stand p l e room_1 s m #[(.int p0), (.int p1), (.int p2)] below meth c s₁ [] 0 0 := Stand.of_body Bd
  have e0 : s₁.heap = h0 := by rw [← hh, Bd.state]; rfl
  have G0 : own_Go p.tables e below (s₁.setTop (entryFrame m #[(.int p0), (.int p1), (.int p2)] maxLocals)) (s₁.setTop (mkF m 0 #[.val (.int p0), .val (.int p1), .val (.int p2), .unset, .unset, .unset, .unset, .unset, .unset] [])) := fun t k => castTop (ef_0 m p0 p1 p2) k
  have G1 : own_Go p.tables e below (s₁.setTop (entryFrame m #[(.int p0), (.int p1), (.int p2)] maxLocals)) (s₁.setTop (mkF m 1 #[.val (.int p0), .val (.int p1), .val (.int p2), .unset, .unset, .unset, .unset, .unset, .unset] [(.int p0)])) := fun t k => G0 t (XS.iloadN X0.here hx rfl (hb hby at_0) rfl k)
  have G2 : own_Go p.tables e below (s₁.setTop (entryFrame m #[(.int p0), (.int p1), (.int p2)] maxLocals)) (s₁.setTop (mkF m 3 #[.val (.int p0), .val (.int p1), .val (.int p2), .unset, .unset, .unset, .unset, .unset, .unset] [(.int (2147483647 : Int32)), (.int p0)])) := fun t k => G1 t (X0.ldcInt hx hown (mvT hZ (hw _ (List.mem_of_getElem? (i := 0) rfl))) (g := (mkF m 1 #[.val (.int p0), .val (.int p1), .val (.int p2), .unset, .unset, .unset, .unset, .unset, .unset] [(.int p0)])) rfl (hb hby at_1) t k)
  have G3 : own_Go p.tables e below (s₁.setTop (entryFrame m #[(.int p0), (.int p1), (.int p2)] maxLocals)) (s₁.setTop (mkF m 4 #[.val (.int p0), .val (.int p1), .val (.int p2), .unset, .unset, .unset, .unset, .unset, .unset] [(.int (p0 &&& (2147483647 : Int32)))])) := fun t k => G2 t (XS.iand X0.here hx rfl (hb hby at_3) rfl k)
  have G4 : own_Go p.tables e below (s₁.setTop (entryFrame m #[(.int p0), (.int p1), (.int p2)] maxLocals)) (s₁.setTop (mkF m 5 #[.val (.int p0), .val (.int p1), .val (.int p2), .unset, .unset, .unset, .unset, .unset, .unset] [(.int (3 : Int32)), (.int (p0 &&& (2147483647 : Int32)))])) := fun t k => G3 t (XT.iconstV X0.here hx rfl (3 : Int32) (hb hby at_4) (by decide) k)
  have G5 : own_Go p.tables e below (s₁.setTop (entryFrame m #[(.int p0), (.int p1), (.int p2)] maxLocals)) (s₁.setTop (mkF m 6 #[.val (.int p0), .val (.int p1), .val (.int p2), .unset, .unset, .unset, .unset, .unset, .unset] [(.int ((p0 &&& (2147483647 : Int32)) % (3 : Int32)))])) := fun t k => G4 t (iremM X0 hx rfl (hb hby at_5) rfl (by decide) k)
  have G6 : own_Go p.tables e below (s₁.setTop (entryFrame m #[(.int p0), (.int p1), (.int p2)] maxLocals)) (s₁.setTop (mkF m 7 #[.val (.int p0), .val (.int p1), .val (.int p2), .val (.int ((p0 &&& (2147483647 : Int32)) % (3 : Int32))), .unset, .unset, .unset, .unset, .unset] [])) := fun t k => G5 t (XS.istoreN X0.here hx rfl (hb hby at_6) rfl (l' := #[.val (.int p0), .val (.int p1), .val (.int p2), .val (.int ((p0 &&& (2147483647 : Int32)) % (3 : Int32))), .unset, .unset, .unset, .unset, .unset]) rfl k)
  obtain ⟨z7, hz7, G7⟩ : ∃ z7 : Int32, z7 = ((p0 &&& (2147483647 : Int32)) % (3 : Int32)) ∧ own_Go p.tables e below (s₁.setTop (entryFrame m #[(.int p0), (.int p1), (.int p2)] maxLocals)) (s₁.setTop (mkF m 7 #[.val (.int p0), .val (.int p1), .val (.int p2), .val (.int z7), .unset, .unset, .unset, .unset, .unset] [])) := ⟨_, rfl, G6⟩
  have G8 : own_Go p.tables e below (s₁.setTop (entryFrame m #[(.int p0), (.int p1), (.int p2)] maxLocals)) (s₁.setTop (mkF m 8 #[.val (.int p0), .val (.int p1), .val (.int p2), .val (.int z7), .unset, .unset, .unset, .unset, .unset] [(.int z7)])) := fun t k => G7 t (XS.iloadN X0.here hx rfl (hb hby at_7) rfl k)
  by_cases hc9 : z7 = (0 : Int32)
  · have G10 : own_Go p.tables e below (s₁.setTop (entryFrame m #[(.int p0), (.int p1), (.int p2)] maxLocals)) (s₁.setTop (mkF m 11 #[.val (.int p0), .val (.int p1), .val (.int p2), .val (.int z7), .unset, .unset, .unset, .unset, .unset] [])) := fun t k => G8 t (XS.ifNo X0.here hx rfl (hb hby at_8) rfl ((if0 _ _).trans (teq hc9).2) k)
    obtain ⟨T11, X11, e11, st11⟩ := getS2 X0 hx hZ hown (host := "") (Or.inl (hw _ (List.mem_of_getElem? (i := 1) rfl))) Via.refl e0 S_aM (g := (mkF m 11 #[.val (.int p0), .val (.int p1), .val (.int p2), .val (.int z7), .unset, .unset, .unset, .unset, .unset] [])) rfl (hb hby at_11)
    have G11 : own_Go p.tables e below (s₁.setTop (entryFrame m #[(.int p0), (.int p1), (.int p2)] maxLocals)) (T11.setTop (mkF m 14 #[.val (.int p0), .val (.int p1), .val (.int p2), .val (.int z7), .unset, .unset, .unset, .unset, .unset] [(.ref aM)])) := fun t k => G10 t (st11 t k)
    have G12 : own_Go p.tables e below (s₁.setTop (entryFrame m #[(.int p0), (.int p1), (.int p2)] maxLocals)) (T11.setTop (mkF m 16 #[.val (.int p0), .val (.int p1), .val (.int p2), .val (.int z7), .val (.ref aM), .unset, .unset, .unset, .unset] [])) := fun t k => G11 t (XS.astore X11.here hx rfl (hb hby at_14) rfl rfl (l' := #[.val (.int p0), .val (.int p1), .val (.int p2), .val (.int z7), .val (.ref aM), .unset, .unset, .unset, .unset]) rfl k)
    have G13 : own_Go p.tables e below (s₁.setTop (entryFrame m #[(.int p0), (.int p1), (.int p2)] maxLocals)) (T11.setTop (mkF m 18 #[.val (.int p0), .val (.int p1), .val (.int p2), .val (.int z7), .val (.ref aM), .unset, .unset, .unset, .unset] [(.int (20 : Int32))])) := fun t k => G12 t (XT.bipushV X11.here hx rfl (20 : Int32) (hb hby at_16) (by decide) k)
    have G14 : own_Go p.tables e below (s₁.setTop (entryFrame m #[(.int p0), (.int p1), (.int p2)] maxLocals)) (T11.setTop (mkF m 20 #[.val (.int p0), .val (.int p1), .val (.int p2), .val (.int z7), .val (.ref aM), .val (.int (20 : Int32)), .unset, .unset, .unset] [])) := fun t k => G13 t (XS.istore X11.here hx rfl (hb hby at_18) rfl (l' := #[.val (.int p0), .val (.int p1), .val (.int p2), .val (.int z7), .val (.ref aM), .val (.int (20 : Int32)), .unset, .unset, .unset]) rfl k)
    have G15 : own_Go p.tables e below (s₁.setTop (entryFrame m #[(.int p0), (.int p1), (.int p2)] maxLocals)) (T11.setTop (mkF m 50 #[.val (.int p0), .val (.int p1), .val (.int p2), .val (.int z7), .val (.ref aM), .val (.int (20 : Int32)), .unset, .unset, .unset] [])) := fun t k => G14 t (XS.goto X11.here hx rfl (pc0 := 20) (pc' := 50) rfl (hb hby at_20) (by decide) (by decide) k)
    have G16 : own_Go p.tables e below (s₁.setTop (entryFrame m #[(.int p0), (.int p1), (.int p2)] maxLocals)) (T11.setTop (mkF m 51 #[.val (.int p0), .val (.int p1), .val (.int p2), .val (.int z7), .val (.ref aM), .val (.int (20 : Int32)), .unset, .unset, .unset] [(.int p2)])) := fun t k => G15 t (XS.iloadN X11.here hx rfl (hb hby at_50) rfl k)
    have G17 : own_Go p.tables e below (s₁.setTop (entryFrame m #[(.int p0), (.int p1), (.int p2)] maxLocals)) (T11.setTop (mkF m 52 #[.val (.int p0), .val (.int p1), .val (.int p2), .val (.int z7), .val (.ref aM), .val (.int (20 : Int32)), .unset, .unset, .unset] [(.int (3 : Int32)), (.int p2)])) := fun t k => G16 t (XT.iconstV X11.here hx rfl (3 : Int32) (hb hby at_51) (by decide) k)
    have G18 : own_Go p.tables e below (s₁.setTop (entryFrame m #[(.int p0), (.int p1), (.int p2)] maxLocals)) (T11.setTop (mkF m 53 #[.val (.int p0), .val (.int p1), .val (.int p2), .val (.int z7), .val (.ref aM), .val (.int (20 : Int32)), .unset, .unset, .unset] [(.int (p2 &&& (3 : Int32)))])) := fun t k => G17 t (XS.iand X11.here hx rfl (hb hby at_52) rfl k)
    have G19 : own_Go p.tables e below (s₁.setTop (entryFrame m #[(.int p0), (.int p1), (.int p2)] maxLocals)) (T11.setTop (mkF m 55 #[.val (.int p0), .val (.int p1), .val (.int p2), .val (.int z7), .val (.ref aM), .val (.int (20 : Int32)), .val (.int (p2 &&& (3 : Int32))), .unset, .unset] [])) := fun t k => G18 t (XS.istore X11.here hx rfl (hb hby at_53) rfl (l' := #[.val (.int p0), .val (.int p1), .val (.int p2), .val (.int z7), .val (.ref aM), .val (.int (20 : Int32)), .val (.int (p2 &&& (3 : Int32))), .unset, .unset]) rfl k)
    obtain ⟨z20, hz20, G20⟩ : ∃ z20 : Int32, z20 = (p2 &&& (3 : Int32)) ∧ own_Go p.tables e below (s₁.setTop (entryFrame m #[(.int p0), (.int p1), (.int p2)] maxLocals)) (T11.setTop (mkF m 55 #[.val (.int p0), .val (.int p1), .val (.int p2), .val (.int z7), .val (.ref aM), .val (.int (20 : Int32)), .val (.int z20), .unset, .unset] [])) := ⟨_, rfl, G19⟩
    have G21 : own_Go p.tables e below (s₁.setTop (entryFrame m #[(.int p0), (.int p1), (.int p2)] maxLocals)) (T11.setTop (mkF m 57 #[.val (.int p0), .val (.int p1), .val (.int p2), .val (.int z7), .val (.ref aM), .val (.int (20 : Int32)), .val (.int z20), .unset, .unset] [(.int z20)])) := fun t k => G20 t (XS.iload X11.here hx rfl (hb hby at_55) rfl k)
    obtain ⟨z22_0, hz22_0, G22⟩ : ∃ (z22_0 : Int32), z22_0 = (if z20 = (0 : Int32) then p1 else (if z20 = (1 : Int32) then ((20 : Int32) + (p1 % (8 : Int32))) else (if z20 = (2 : Int32) then (p1 % (8 : Int32)) else (-p1)))) ∧ own_Go p.tables e below (s₁.setTop (entryFrame m #[(.int p0), (.int p1), (.int p2)] maxLocals)) (T11.setTop (mkF m 103 #[.val (.int p0), .val (.int p1), .val (.int p2), .val (.int z7), .val (.ref aM), .val (.int (20 : Int32)), .val (.int z20), .val (.int z22_0), .unset] [])) := by
      by_cases hc22 : z20 = (0 : Int32)
      · have G23 : own_Go p.tables e below (s₁.setTop (entryFrame m #[(.int p0), (.int p1), (.int p2)] maxLocals)) (T11.setTop (mkF m 60 #[.val (.int p0), .val (.int p1), .val (.int p2), .val (.int z7), .val (.ref aM), .val (.int (20 : Int32)), .val (.int z20), .unset, .unset] [])) := fun t k => G21 t (XS.ifNo X11.here hx rfl (hb hby at_57) rfl ((if0 _ _).trans (teq hc22).2) k)
        have G24 : own_Go p.tables e below (s₁.setTop (entryFrame m #[(.int p0), (.int p1), (.int p2)] maxLocals)) (T11.setTop (mkF m 61 #[.val (.int p0), .val (.int p1), .val (.int p2), .val (.int z7), .val (.ref aM), .val (.int (20 : Int32)), .val (.int z20), .unset, .unset] [(.int p1)])) := fun t k => G23 t (XS.iloadN X11.here hx rfl (hb hby at_60) rfl k)
        have G25 : own_Go p.tables e below (s₁.setTop (entryFrame m #[(.int p0), (.int p1), (.int p2)] maxLocals)) (T11.setTop (mkF m 63 #[.val (.int p0), .val (.int p1), .val (.int p2), .val (.int z7), .val (.ref aM), .val (.int (20 : Int32)), .val (.int z20), .val (.int p1), .unset] [])) := fun t k => G24 t (XS.istore X11.here hx rfl (hb hby at_61) rfl (l' := #[.val (.int p0), .val (.int p1), .val (.int p2), .val (.int z7), .val (.ref aM), .val (.int (20 : Int32)), .val (.int z20), .val (.int p1), .unset]) rfl k)
        have G26 : own_Go p.tables e below (s₁.setTop (entryFrame m #[(.int p0), (.int p1), (.int p2)] maxLocals)) (T11.setTop (mkF m 103 #[.val (.int p0), .val (.int p1), .val (.int p2), .val (.int z7), .val (.ref aM), .val (.int (20 : Int32)), .val (.int z20), .val (.int p1), .unset] [])) := fun t k => G25 t (XS.goto X11.here hx rfl (pc0 := 63) (pc' := 103) rfl (hb hby at_63) (by decide) (by decide) k)
        exact ⟨_, (if_pos hc22).symm, G26⟩
      · have G27 : own_Go p.tables e below (s₁.setTop (entryFrame m #[(.int p0), (.int p1), (.int p2)] maxLocals)) (T11.setTop (mkF m 66 #[.val (.int p0), .val (.int p1), .val (.int p2), .val (.int z7), .val (.ref aM), .val (.int (20 : Int32)), .val (.int z20), .unset, .unset] [])) := fun t k => G21 t (XS.ifYes X11.here hx rfl (pc0 := 57) (pc' := 66) rfl (hb hby at_57) rfl ((if0 _ _).trans (feq hc22).2) (by decide) (by decide) k)
        have G28 : own_Go p.tables e below (s₁.setTop (entryFrame m #[(.int p0), (.int p1), (.int p2)] maxLocals)) (T11.setTop (mkF m 68 #[.val (.int p0), .val (.int p1), .val (.int p2), .val (.int z7), .val (.ref aM), .val (.int (20 : Int32)), .val (.int z20), .unset, .unset] [(.int z20)])) := fun t k => G27 t (XS.iload X11.here hx rfl (hb hby at_66) rfl k)
        have G29 : own_Go p.tables e below (s₁.setTop (entryFrame m #[(.int p0), (.int p1), (.int p2)] maxLocals)) (T11.setTop (mkF m 69 #[.val (.int p0), .val (.int p1), .val (.int p2), .val (.int z7), .val (.ref aM), .val (.int (20 : Int32)), .val (.int z20), .unset, .unset] [(.int (1 : Int32)), (.int z20)])) := fun t k => G28 t (XT.iconstV X11.here hx rfl (1 : Int32) (hb hby at_68) (by decide) k)
        obtain ⟨z30_0, rfl, G30⟩ : ∃ (z30_0 : Int32), z30_0 = (if z20 = (1 : Int32) then ((20 : Int32) + (p1 % (8 : Int32))) else (if z20 = (2 : Int32) then (p1 % (8 : Int32)) else (-p1))) ∧ own_Go p.tables e below (s₁.setTop (entryFrame m #[(.int p0), (.int p1), (.int p2)] maxLocals)) (T11.setTop (mkF m 103 #[.val (.int p0), .val (.int p1), .val (.int p2), .val (.int z7), .val (.ref aM), .val (.int (20 : Int32)), .val (.int z20), .val (.int z30_0), .unset] [])) := by
          by_cases hc30 : z20 = (1 : Int32)
          · have G31 : own_Go p.tables e below (s₁.setTop (entryFrame m #[(.int p0), (.int p1), (.int p2)] maxLocals)) (T11.setTop (mkF m 72 #[.val (.int p0), .val (.int p1), .val (.int p2), .val (.int z7), .val (.ref aM), .val (.int (20 : Int32)), .val (.int z20), .unset, .unset] [])) := fun t k => G29 t (XS.icmpNo X11.here hx rfl (hb hby at_69) rfl (teq hc30).2 k)
            have G32 : own_Go p.tables e below (s₁.setTop (entryFrame m #[(.int p0), (.int p1), (.int p2)] maxLocals)) (T11.setTop (mkF m 74 #[.val (.int p0), .val (.int p1), .val (.int p2), .val (.int z7), .val (.ref aM), .val (.int (20 : Int32)), .val (.int z20), .unset, .unset] [(.int (20 : Int32))])) := fun t k => G31 t (XS.iload X11.here hx rfl (hb hby at_72) rfl k)
            have G33 : own_Go p.tables e below (s₁.setTop (entryFrame m #[(.int p0), (.int p1), (.int p2)] maxLocals)) (T11.setTop (mkF m 75 #[.val (.int p0), .val (.int p1), .val (.int p2), .val (.int z7), .val (.ref aM), .val (.int (20 : Int32)), .val (.int z20), .unset, .unset] [(.int p1), (.int (20 : Int32))])) := fun t k => G32 t (XS.iloadN X11.here hx rfl (hb hby at_74) rfl k)
            have G34 : own_Go p.tables e below (s₁.setTop (entryFrame m #[(.int p0), (.int p1), (.int p2)] maxLocals)) (T11.setTop (mkF m 77 #[.val (.int p0), .val (.int p1), .val (.int p2), .val (.int z7), .val (.ref aM), .val (.int (20 : Int32)), .val (.int z20), .unset, .unset] [(.int (8 : Int32)), (.int p1), (.int (20 : Int32))])) := fun t k => G33 t (XT.bipushV X11.here hx rfl (8 : Int32) (hb hby at_75) (by decide) k)
            have G35 : own_Go p.tables e below (s₁.setTop (entryFrame m #[(.int p0), (.int p1), (.int p2)] maxLocals)) (T11.setTop (mkF m 78 #[.val (.int p0), .val (.int p1), .val (.int p2), .val (.int z7), .val (.ref aM), .val (.int (20 : Int32)), .val (.int z20), .unset, .unset] [(.int (p1 % (8 : Int32))), (.int (20 : Int32))])) := fun t k => G34 t (iremM X11 hx rfl (hb hby at_77) rfl (by decide) k)
            have G36 : own_Go p.tables e below (s₁.setTop (entryFrame m #[(.int p0), (.int p1), (.int p2)] maxLocals)) (T11.setTop (mkF m 79 #[.val (.int p0), .val (.int p1), .val (.int p2), .val (.int z7), .val (.ref aM), .val (.int (20 : Int32)), .val (.int z20), .unset, .unset] [(.int ((20 : Int32) + (p1 % (8 : Int32))))])) := fun t k => G35 t (XS.iadd X11.here hx rfl (hb hby at_78) rfl k)
            have G37 : own_Go p.tables e below (s₁.setTop (entryFrame m #[(.int p0), (.int p1), (.int p2)] maxLocals)) (T11.setTop (mkF m 81 #[.val (.int p0), .val (.int p1), .val (.int p2), .val (.int z7), .val (.ref aM), .val (.int (20 : Int32)), .val (.int z20), .val (.int ((20 : Int32) + (p1 % (8 : Int32)))), .unset] [])) := fun t k => G36 t (XS.istore X11.here hx rfl (hb hby at_79) rfl (l' := #[.val (.int p0), .val (.int p1), .val (.int p2), .val (.int z7), .val (.ref aM), .val (.int (20 : Int32)), .val (.int z20), .val (.int ((20 : Int32) + (p1 % (8 : Int32)))), .unset]) rfl k)
            have G38 : own_Go p.tables e below (s₁.setTop (entryFrame m #[(.int p0), (.int p1), (.int p2)] maxLocals)) (T11.setTop (mkF m 103 #[.val (.int p0), .val (.int p1), .val (.int p2), .val (.int z7), .val (.ref aM), .val (.int (20 : Int32)), .val (.int z20), .val (.int ((20 : Int32) + (p1 % (8 : Int32)))), .unset] [])) := fun t k => G37 t (XS.goto X11.here hx rfl (pc0 := 81) (pc' := 103) rfl (hb hby at_81) (by decide) (by decide) k)
            exact ⟨_, (if_pos hc30).symm, G38⟩
          · have G39 : own_Go p.tables e below (s₁.setTop (entryFrame m #[(.int p0), (.int p1), (.int p2)] maxLocals)) (T11.setTop (mkF m 84 #[.val (.int p0), .val (.int p1), .val (.int p2), .val (.int z7), .val (.ref aM), .val (.int (20 : Int32)), .val (.int z20), .unset, .unset] [])) := fun t k => G29 t (XS.icmpYes X11.here hx rfl (pc0 := 69) (pc' := 84) rfl (hb hby at_69) rfl (feq hc30).2 (by decide) (by decide) k)
            have G40 : own_Go p.tables e below (s₁.setTop (entryFrame m #[(.int p0), (.int p1), (.int p2)] maxLocals)) (T11.setTop (mkF m 86 #[.val (.int p0), .val (.int p1), .val (.int p2), .val (.int z7), .val (.ref aM), .val (.int (20 : Int32)), .val (.int z20), .unset, .unset] [(.int z20)])) := fun t k => G39 t (XS.iload X11.here hx rfl (hb hby at_84) rfl k)
            have G41 : own_Go p.tables e below (s₁.setTop (entryFrame m #[(.int p0), (.int p1), (.int p2)] maxLocals)) (T11.setTop (mkF m 87 #[.val (.int p0), .val (.int p1), .val (.int p2), .val (.int z7), .val (.ref aM), .val (.int (20 : Int32)), .val (.int z20), .unset, .unset] [(.int (2 : Int32)), (.int z20)])) := fun t k => G40 t (XT.iconstV X11.here hx rfl (2 : Int32) (hb hby at_86) (by decide) k)
            obtain ⟨z42_0, rfl, G42⟩ : ∃ (z42_0 : Int32), z42_0 = (if z20 = (2 : Int32) then (p1 % (8 : Int32)) else (-p1)) ∧ own_Go p.tables e below (s₁.setTop (entryFrame m #[(.int p0), (.int p1), (.int p2)] maxLocals)) (T11.setTop (mkF m 103 #[.val (.int p0), .val (.int p1), .val (.int p2), .val (.int z7), .val (.ref aM), .val (.int (20 : Int32)), .val (.int z20), .val (.int z42_0), .unset] [])) := by
              by_cases hc42 : z20 = (2 : Int32)
              · have G43 : own_Go p.tables e below (s₁.setTop (entryFrame m #[(.int p0), (.int p1), (.int p2)] maxLocals)) (T11.setTop (mkF m 90 #[.val (.int p0), .val (.int p1), .val (.int p2), .val (.int z7), .val (.ref aM), .val (.int (20 : Int32)), .val (.int z20), .unset, .unset] [])) := fun t k => G41 t (XS.icmpNo X11.here hx rfl (hb hby at_87) rfl (teq hc42).2 k)
                have G44 : own_Go p.tables e below (s₁.setTop (entryFrame m #[(.int p0), (.int p1), (.int p2)] maxLocals)) (T11.setTop (mkF m 91 #[.val (.int p0), .val (.int p1), .val (.int p2), .val (.int z7), .val (.ref aM), .val (.int (20 : Int32)), .val (.int z20), .unset, .unset] [(.int p1)])) := fun t k => G43 t (XS.iloadN X11.here hx rfl (hb hby at_90) rfl k)
                have G45 : own_Go p.tables e below (s₁.setTop (entryFrame m #[(.int p0), (.int p1), (.int p2)] maxLocals)) (T11.setTop (mkF m 93 #[.val (.int p0), .val (.int p1), .val (.int p2), .val (.int z7), .val (.ref aM), .val (.int (20 : Int32)), .val (.int z20), .unset, .unset] [(.int (8 : Int32)), (.int p1)])) := fun t k => G44 t (XT.bipushV X11.here hx rfl (8 : Int32) (hb hby at_91) (by decide) k)
                have G46 : own_Go p.tables e below (s₁.setTop (entryFrame m #[(.int p0), (.int p1), (.int p2)] maxLocals)) (T11.setTop (mkF m 94 #[.val (.int p0), .val (.int p1), .val (.int p2), .val (.int z7), .val (.ref aM), .val (.int (20 : Int32)), .val (.int z20), .unset, .unset] [(.int (p1 % (8 : Int32)))])) := fun t k => G45 t (iremM X11 hx rfl (hb hby at_93) rfl (by decide) k)
                have G47 : own_Go p.tables e below (s₁.setTop (entryFrame m #[(.int p0), (.int p1), (.int p2)] maxLocals)) (T11.setTop (mkF m 96 #[.val (.int p0), .val (.int p1), .val (.int p2), .val (.int z7), .val (.ref aM), .val (.int (20 : Int32)), .val (.int z20), .val (.int (p1 % (8 : Int32))), .unset] [])) := fun t k => G46 t (XS.istore X11.here hx rfl (hb hby at_94) rfl (l' := #[.val (.int p0), .val (.int p1), .val (.int p2), .val (.int z7), .val (.ref aM), .val (.int (20 : Int32)), .val (.int z20), .val (.int (p1 % (8 : Int32))), .unset]) rfl k)
                have G48 : own_Go p.tables e below (s₁.setTop (entryFrame m #[(.int p0), (.int p1), (.int p2)] maxLocals)) (T11.setTop (mkF m 103 #[.val (.int p0), .val (.int p1), .val (.int p2), .val (.int z7), .val (.ref aM), .val (.int (20 : Int32)), .val (.int z20), .val (.int (p1 % (8 : Int32))), .unset] [])) := fun t k => G47 t (XS.goto X11.here hx rfl (pc0 := 96) (pc' := 103) rfl (hb hby at_96) (by decide) (by decide) k)
                exact ⟨_, (if_pos hc42).symm, G48⟩
              · have G49 : own_Go p.tables e below (s₁.setTop (entryFrame m #[(.int p0), (.int p1), (.int p2)] maxLocals)) (T11.setTop (mkF m 99 #[.val (.int p0), .val (.int p1), .val (.int p2), .val (.int z7), .val (.ref aM), .val (.int (20 : Int32)), .val (.int z20), .unset, .unset] [])) := fun t k => G41 t (XS.icmpYes X11.here hx rfl (pc0 := 87) (pc' := 99) rfl (hb hby at_87) rfl (feq hc42).2 (by decide) (by decide) k)
                have G50 : own_Go p.tables e below (s₁.setTop (entryFrame m #[(.int p0), (.int p1), (.int p2)] maxLocals)) (T11.setTop (mkF m 100 #[.val (.int p0), .val (.int p1), .val (.int p2), .val (.int z7), .val (.ref aM), .val (.int (20 : Int32)), .val (.int z20), .unset, .unset] [(.int p1)])) := fun t k => G49 t (XS.iloadN X11.here hx rfl (hb hby at_99) rfl k)
                have G51 : own_Go p.tables e below (s₁.setTop (entryFrame m #[(.int p0), (.int p1), (.int p2)] maxLocals)) (T11.setTop (mkF m 101 #[.val (.int p0), .val (.int p1), .val (.int p2), .val (.int z7), .val (.ref aM), .val (.int (20 : Int32)), .val (.int z20), .unset, .unset] [(.int (-p1))])) := fun t k => G50 t (XS.ineg X11.here hx rfl (hb hby at_100) rfl k)
                have G52 : own_Go p.tables e below (s₁.setTop (entryFrame m #[(.int p0), (.int p1), (.int p2)] maxLocals)) (T11.setTop (mkF m 103 #[.val (.int p0), .val (.int p1), .val (.int p2), .val (.int z7), .val (.ref aM), .val (.int (20 : Int32)), .val (.int z20), .val (.int (-p1)), .unset] [])) := fun t k => G51 t (XS.istore X11.here hx rfl (hb hby at_101) rfl (l' := #[.val (.int p0), .val (.int p1), .val (.int p2), .val (.int z7), .val (.ref aM), .val (.int (20 : Int32)), .val (.int z20), .val (.int (-p1)), .unset]) rfl k)
                exact ⟨_, (if_neg hc42).symm, G52⟩
            exact ⟨_, (if_neg hc30).symm, G42⟩
        exact ⟨_, (if_neg hc22).symm, G30⟩
    have G53 : own_Go p.tables e below (s₁.setTop (entryFrame m #[(.int p0), (.int p1), (.int p2)] maxLocals)) (T11.setTop (mkF m 105 #[.val (.int p0), .val (.int p1), .val (.int p2), .val (.int z7), .val (.ref aM), .val (.int (20 : Int32)), .val (.int z20), .val (.int z22_0), .unset] [(.int z22_0)])) := fun t k => G22 t (XS.iload X11.here hx rfl (hb hby at_103) rfl k)
    obtain ⟨z54_0, hz54_0, G54⟩ : ∃ (z54_0 : Int32), z54_0 = (if z22_0 < (0 : Int32) then (0 : Int32) else (if z22_0 < (20 : Int32) then (1 : Int32) else (0 : Int32))) ∧ own_Go p.tables e below (s₁.setTop (entryFrame m #[(.int p0), (.int p1), (.int p2)] maxLocals)) (T11.setTop (mkF m 120 #[.val (.int p0), .val (.int p1), .val (.int p2), .val (.int z7), .val (.ref aM), .val (.int (20 : Int32)), .val (.int z20), .val (.int z22_0), .unset] [(.int z54_0)])) := by
      by_cases hc54 : z22_0 < (0 : Int32)
      · have G55 : own_Go p.tables e below (s₁.setTop (entryFrame m #[(.int p0), (.int p1), (.int p2)] maxLocals)) (T11.setTop (mkF m 119 #[.val (.int p0), .val (.int p1), .val (.int p2), .val (.int z7), .val (.ref aM), .val (.int (20 : Int32)), .val (.int z20), .val (.int z22_0), .unset] [])) := fun t k => G53 t (XS.ifYes X11.here hx rfl (pc0 := 105) (pc' := 119) rfl (hb hby at_105) rfl ((if0 _ _).trans (tlt hc54).1) (by decide) (by decide) k)
        have G56 : own_Go p.tables e below (s₁.setTop (entryFrame m #[(.int p0), (.int p1), (.int p2)] maxLocals)) (T11.setTop (mkF m 120 #[.val (.int p0), .val (.int p1), .val (.int p2), .val (.int z7), .val (.ref aM), .val (.int (20 : Int32)), .val (.int z20), .val (.int z22_0), .unset] [(.int (0 : Int32))])) := fun t k => G55 t (XT.iconstV X11.here hx rfl (0 : Int32) (hb hby at_119) (by decide) k)
        exact ⟨_, (if_pos hc54).symm, G56⟩
      · have G57 : own_Go p.tables e below (s₁.setTop (entryFrame m #[(.int p0), (.int p1), (.int p2)] maxLocals)) (T11.setTop (mkF m 108 #[.val (.int p0), .val (.int p1), .val (.int p2), .val (.int z7), .val (.ref aM), .val (.int (20 : Int32)), .val (.int z20), .val (.int z22_0), .unset] [])) := fun t k => G53 t (XS.ifNo X11.here hx rfl (hb hby at_105) rfl ((if0 _ _).trans (flt hc54).1) k)
        have G58 : own_Go p.tables e below (s₁.setTop (entryFrame m #[(.int p0), (.int p1), (.int p2)] maxLocals)) (T11.setTop (mkF m 110 #[.val (.int p0), .val (.int p1), .val (.int p2), .val (.int z7), .val (.ref aM), .val (.int (20 : Int32)), .val (.int z20), .val (.int z22_0), .unset] [(.int z22_0)])) := fun t k => G57 t (XS.iload X11.here hx rfl (hb hby at_108) rfl k)
        have G59 : own_Go p.tables e below (s₁.setTop (entryFrame m #[(.int p0), (.int p1), (.int p2)] maxLocals)) (T11.setTop (mkF m 112 #[.val (.int p0), .val (.int p1), .val (.int p2), .val (.int z7), .val (.ref aM), .val (.int (20 : Int32)), .val (.int z20), .val (.int z22_0), .unset] [(.int (20 : Int32)), (.int z22_0)])) := fun t k => G58 t (XS.iload X11.here hx rfl (hb hby at_110) rfl k)
        obtain ⟨z60_0, rfl, G60⟩ : ∃ (z60_0 : Int32), z60_0 = (if z22_0 < (20 : Int32) then (1 : Int32) else (0 : Int32)) ∧ own_Go p.tables e below (s₁.setTop (entryFrame m #[(.int p0), (.int p1), (.int p2)] maxLocals)) (T11.setTop (mkF m 120 #[.val (.int p0), .val (.int p1), .val (.int p2), .val (.int z7), .val (.ref aM), .val (.int (20 : Int32)), .val (.int z20), .val (.int z22_0), .unset] [(.int z60_0)])) := by
          by_cases hc60 : z22_0 < (20 : Int32)
          · have G61 : own_Go p.tables e below (s₁.setTop (entryFrame m #[(.int p0), (.int p1), (.int p2)] maxLocals)) (T11.setTop (mkF m 115 #[.val (.int p0), .val (.int p1), .val (.int p2), .val (.int z7), .val (.ref aM), .val (.int (20 : Int32)), .val (.int z20), .val (.int z22_0), .unset] [])) := fun t k => G59 t (XS.icmpNo X11.here hx rfl (hb hby at_112) rfl (tlt hc60).2.1 k)
            have G62 : own_Go p.tables e below (s₁.setTop (entryFrame m #[(.int p0), (.int p1), (.int p2)] maxLocals)) (T11.setTop (mkF m 116 #[.val (.int p0), .val (.int p1), .val (.int p2), .val (.int z7), .val (.ref aM), .val (.int (20 : Int32)), .val (.int z20), .val (.int z22_0), .unset] [(.int (1 : Int32))])) := fun t k => G61 t (XT.iconstV X11.here hx rfl (1 : Int32) (hb hby at_115) (by decide) k)
            have G63 : own_Go p.tables e below (s₁.setTop (entryFrame m #[(.int p0), (.int p1), (.int p2)] maxLocals)) (T11.setTop (mkF m 120 #[.val (.int p0), .val (.int p1), .val (.int p2), .val (.int z7), .val (.ref aM), .val (.int (20 : Int32)), .val (.int z20), .val (.int z22_0), .unset] [(.int (1 : Int32))])) := fun t k => G62 t (XS.goto X11.here hx rfl (pc0 := 116) (pc' := 120) rfl (hb hby at_116) (by decide) (by decide) k)
            exact ⟨_, (if_pos hc60).symm, G63⟩
          · have G64 : own_Go p.tables e below (s₁.setTop (entryFrame m #[(.int p0), (.int p1), (.int p2)] maxLocals)) (T11.setTop (mkF m 119 #[.val (.int p0), .val (.int p1), .val (.int p2), .val (.int z7), .val (.ref aM), .val (.int (20 : Int32)), .val (.int z20), .val (.int z22_0), .unset] [])) := fun t k => G59 t (XS.icmpYes X11.here hx rfl (pc0 := 112) (pc' := 119) rfl (hb hby at_112) rfl (flt hc60).2.1 (by decide) (by decide) k)
            have G65 : own_Go p.tables e below (s₁.setTop (entryFrame m #[(.int p0), (.int p1), (.int p2)] maxLocals)) (T11.setTop (mkF m 120 #[.val (.int p0), .val (.int p1), .val (.int p2), .val (.int z7), .val (.ref aM), .val (.int (20 : Int32)), .val (.int z20), .val (.int z22_0), .unset] [(.int (0 : Int32))])) := fun t k => G64 t (XT.iconstV X11.here hx rfl (0 : Int32) (hb hby at_119) (by decide) k)
            exact ⟨_, (if_neg hc60).symm, G65⟩
        exact ⟨_, (if_neg hc54).symm, G60⟩
    have G66 : own_Go p.tables e below (s₁.setTop (entryFrame m #[(.int p0), (.int p1), (.int p2)] maxLocals)) (T11.setTop (mkF m 122 #[.val (.int p0), .val (.int p1), .val (.int p2), .val (.int z7), .val (.ref aM), .val (.int (20 : Int32)), .val (.int z20), .val (.int z22_0), .val (.int z54_0)] [])) := fun t k => G54 t (XS.istore X11.here hx rfl (hb hby at_120) rfl (l' := #[.val (.int p0), .val (.int p1), .val (.int p2), .val (.int z7), .val (.ref aM), .val (.int (20 : Int32)), .val (.int z20), .val (.int z22_0), .val (.int z54_0)]) rfl k)
    have G67 : own_Go p.tables e below (s₁.setTop (entryFrame m #[(.int p0), (.int p1), (.int p2)] maxLocals)) (T11.setTop (mkF m 124 #[.val (.int p0), .val (.int p1), .val (.int p2), .val (.int z7), .val (.ref aM), .val (.int (20 : Int32)), .val (.int z20), .val (.int z22_0), .val (.int z54_0)] [(.ref aM)])) := fun t k => G66 t (XS.aload X11.here hx rfl (hb hby at_122) rfl rfl k)
    have G68 : own_Go p.tables e below (s₁.setTop (entryFrame m #[(.int p0), (.int p1), (.int p2)] maxLocals)) (T11.setTop (mkF m 126 #[.val (.int p0), .val (.int p1), .val (.int p2), .val (.int z7), .val (.ref aM), .val (.int (20 : Int32)), .val (.int z20), .val (.int z22_0), .val (.int z54_0)] [(.int z22_0), (.ref aM)])) := fun t k => G67 t (XS.iload X11.here hx rfl (hb hby at_124) rfl k)
    obtain ⟨cq69, kq69, q69a, q69b, q69c⟩ := isOf hZ e11 E_aM
    obtain ⟨vv69, _, ⟨T69, L69, k69, n69⟩, -, X69, ⟨Lc69, hQ69, l69, y69, z69⟩, st69⟩ := X11.virtualBack hx (y := (⟨"com/example/sectorline/sectorline/card/Layout", "hasBlock", "(I)Z"⟩ : MethodName)) (z := (⟨"com/example/sectorline/sectorline/card/Layout", "hasBlock", "(I)Z"⟩ : MethodName)) hown (mvT hZ (hw _ (List.mem_of_getElem? (i := 4) rfl))) (mvT hZ (hw _ (List.mem_of_getElem? (i := 5) rfl))) (notFace_of_selects (args := #[]) (mvT hZ (hw _ (List.mem_of_getElem? (i := 7) rfl)))) (mvT hZ (hw _ (List.mem_of_getElem? (i := 7) rfl))) (mvT hZ (hw _ (List.mem_of_getElem? (i := 6) rfl))) (by decide) (backOf (W := 0) (rm1 l Z a0 hw [] aM z22_0 (20 : Int32) h0 F_aM) hZ (hw _ (List.mem_of_getElem? (i := 8) rfl)) (hw _ (List.mem_of_getElem? (i := 2) rfl)) (by decide) (by decide)) q69a q69c (g := (mkF m 126 #[.val (.int p0), .val (.int p1), .val (.int p2), .val (.int z7), .val (.ref aM), .val (.int (20 : Int32)), .val (.int z20), .val (.int z22_0), .val (.int z54_0)] [(.int z22_0), (.ref aM)])) rfl (by rw [hml]; rfl) (Steps.refl _) (argsL := [(.int z22_0)]) (rest := []) (lenOf pd_0_0 rfl) rfl (by show 2 * 0 + _ ≤ _; exact Nat.le_of_eq rfl) (hb hby at_126) (fun _ _ => ⟨rfl, e11, (by decide : 0 + 0 ≤ _), (by decide : 0 + 0 ≤ _)⟩)
    dsimp only [Pt.U, Pt.locs, Pt.cells, Pt.slots] at X69 l69 y69 z69 st69 hQ69
    subst l69 y69 z69
    obtain ⟨rfl, rfl, e69⟩ := hQ69
    have Y69 : Stand p l e room_1 s m #[(.int p0), (.int p1), (.int p2)] below meth c T69 [] 0 0 := X69
    have G69 : own_Go p.tables e below (s₁.setTop (entryFrame m #[(.int p0), (.int p1), (.int p2)] maxLocals)) (T69.setTop (mkF m 129 #[.val (.int p0), .val (.int p1), .val (.int p2), .val (.int z7), .val (.ref aM), .val (.int (20 : Int32)), .val (.int z20), .val (.int z22_0), .val (.int z54_0)] [(.int (if z22_0 < (0 : Int32) then (0 : Int32) else (if z22_0 < (20 : Int32) then (1 : Int32) else (0 : Int32))))])) := fun t k => G68 t (st69.trans k)
    have G70 : own_Go p.tables e below (s₁.setTop (entryFrame m #[(.int p0), (.int p1), (.int p2)] maxLocals)) (T69.setTop (mkF m 131 #[.val (.int p0), .val (.int p1), .val (.int p2), .val (.int z7), .val (.ref aM), .val (.int (20 : Int32)), .val (.int z20), .val (.int z22_0), .val (.int z54_0)] [(.int z54_0), (.int (if z22_0 < (0 : Int32) then (0 : Int32) else (if z22_0 < (20 : Int32) then (1 : Int32) else (0 : Int32))))])) := fun t k => G69 t (XS.iload Y69.here hx rfl (hb hby at_129) rfl k)
    have hk71 : (if z22_0 < (0 : Int32) then (0 : Int32) else (if z22_0 < (20 : Int32) then (1 : Int32) else (0 : Int32))) = z54_0 := hz54_0.symm
    have G72 : own_Go p.tables e below (s₁.setTop (entryFrame m #[(.int p0), (.int p1), (.int p2)] maxLocals)) (T69.setTop (mkF m 134 #[.val (.int p0), .val (.int p1), .val (.int p2), .val (.int z7), .val (.ref aM), .val (.int (20 : Int32)), .val (.int z20), .val (.int z22_0), .val (.int z54_0)] [])) := fun t k => G70 t (XS.icmpNo Y69.here hx rfl (hb hby at_131) rfl (teq hk71).2 k)
    have G73 : own_Go p.tables e below (s₁.setTop (entryFrame m #[(.int p0), (.int p1), (.int p2)] maxLocals)) (T69.setTop (mkF m 135 #[.val (.int p0), .val (.int p1), .val (.int p2), .val (.int z7), .val (.ref aM), .val (.int (20 : Int32)), .val (.int z20), .val (.int z22_0), .val (.int z54_0)] [(.int (1 : Int32))])) := fun t k => G72 t (XT.iconstV Y69.here hx rfl (1 : Int32) (hb hby at_134) (by decide) k)
    have G74 : own_Go p.tables e below (s₁.setTop (entryFrame m #[(.int p0), (.int p1), (.int p2)] maxLocals)) (T69.setTop (mkF m 139 #[.val (.int p0), .val (.int p1), .val (.int p2), .val (.int z7), .val (.ref aM), .val (.int (20 : Int32)), .val (.int z20), .val (.int z22_0), .val (.int z54_0)] [(.int (1 : Int32))])) := fun t k => G73 t (XS.goto Y69.here hx rfl (pc0 := 135) (pc' := 139) rfl (hb hby at_135) (by decide) (by decide) k)
    obtain ⟨fs, hr, hrun, hended, hW, hsame⟩ := Y69.leave (v := some (.int (nar .boolean (1 : Int32)))) (fun h => by rw [Bd.returns] at h; cases h)
    refine ⟨_, _, G74 _ ?_, hrun, hended, _, _, rfl, ?_, ⟨_, rfl⟩, hW, hsame.mono (by decide) (by decide)⟩
    · exact retN Y69 hx (t := .boolean) Bd.returns (by simp) (hb hby at_139) hr
    · show Q0 Z p0 p1 p2 aM a1 a4 h0 _ T69.heap _
      rw [e69]
      exact ⟨rfl, rfl, rfl⟩
  · have G76 : own_Go p.tables e below (s₁.setTop (entryFrame m #[(.int p0), (.int p1), (.int p2)] maxLocals)) (s₁.setTop (mkF m 23 #[.val (.int p0), .val (.int p1), .val (.int p2), .val (.int z7), .unset, .unset, .unset, .unset, .unset] [])) := fun t k => G8 t (XS.ifYes X0.here hx rfl (pc0 := 8) (pc' := 23) rfl (hb hby at_8) rfl ((if0 _ _).trans (feq hc9).2) (by decide) (by decide) k)
    have G77 : own_Go p.tables e below (s₁.setTop (entryFrame m #[(.int p0), (.int p1), (.int p2)] maxLocals)) (s₁.setTop (mkF m 24 #[.val (.int p0), .val (.int p1), .val (.int p2), .val (.int z7), .unset, .unset, .unset, .unset, .unset] [(.int z7)])) := fun t k => G76 t (XS.iloadN X0.here hx rfl (hb hby at_23) rfl k)
    have G78 : own_Go p.tables e below (s₁.setTop (entryFrame m #[(.int p0), (.int p1), (.int p2)] maxLocals)) (s₁.setTop (mkF m 25 #[.val (.int p0), .val (.int p1), .val (.int p2), .val (.int z7), .unset, .unset, .unset, .unset, .unset] [(.int (1 : Int32)), (.int z7)])) := fun t k => G77 t (XT.iconstV X0.here hx rfl (1 : Int32) (hb hby at_24) (by decide) k)
    by_cases hc79 : z7 = (1 : Int32)
    · have G80 : own_Go p.tables e below (s₁.setTop (entryFrame m #[(.int p0), (.int p1), (.int p2)] maxLocals)) (s₁.setTop (mkF m 28 #[.val (.int p0), .val (.int p1), .val (.int p2), .val (.int z7), .unset, .unset, .unset, .unset, .unset] [])) := fun t k => G78 t (XS.icmpNo X0.here hx rfl (hb hby at_25) rfl (teq hc79).2 k)
      obtain ⟨T81, X81, e81, st81⟩ := getS2 X0 hx hZ hown (host := "") (Or.inl (hw _ (List.mem_of_getElem? (i := 11) rfl))) Via.refl e0 S_a1 (g := (mkF m 28 #[.val (.int p0), .val (.int p1), .val (.int p2), .val (.int z7), .unset, .unset, .unset, .unset, .unset] [])) rfl (hb hby at_28)
      have G81 : own_Go p.tables e below (s₁.setTop (entryFrame m #[(.int p0), (.int p1), (.int p2)] maxLocals)) (T81.setTop (mkF m 31 #[.val (.int p0), .val (.int p1), .val (.int p2), .val (.int z7), .unset, .unset, .unset, .unset, .unset] [(.ref a1)])) := fun t k => G80 t (st81 t k)
      have G82 : own_Go p.tables e below (s₁.setTop (entryFrame m #[(.int p0), (.int p1), (.int p2)] maxLocals)) (T81.setTop (mkF m 33 #[.val (.int p0), .val (.int p1), .val (.int p2), .val (.int z7), .val (.ref a1), .unset, .unset, .unset, .unset] [])) := fun t k => G81 t (XS.astore X81.here hx rfl (hb hby at_31) rfl rfl (l' := #[.val (.int p0), .val (.int p1), .val (.int p2), .val (.int z7), .val (.ref a1), .unset, .unset, .unset, .unset]) rfl k)
      have G83 : own_Go p.tables e below (s₁.setTop (entryFrame m #[(.int p0), (.int p1), (.int p2)] maxLocals)) (T81.setTop (mkF m 35 #[.val (.int p0), .val (.int p1), .val (.int p2), .val (.int z7), .val (.ref a1), .unset, .unset, .unset, .unset] [(.int (64 : Int32))])) := fun t k => G82 t (XT.bipushV X81.here hx rfl (64 : Int32) (hb hby at_33) (by decide) k)
      have G84 : own_Go p.tables e below (s₁.setTop (entryFrame m #[(.int p0), (.int p1), (.int p2)] maxLocals)) (T81.setTop (mkF m 37 #[.val (.int p0), .val (.int p1), .val (.int p2), .val (.int z7), .val (.ref a1), .val (.int (64 : Int32)), .unset, .unset, .unset] [])) := fun t k => G83 t (XS.istore X81.here hx rfl (hb hby at_35) rfl (l' := #[.val (.int p0), .val (.int p1), .val (.int p2), .val (.int z7), .val (.ref a1), .val (.int (64 : Int32)), .unset, .unset, .unset]) rfl k)
      have G85 : own_Go p.tables e below (s₁.setTop (entryFrame m #[(.int p0), (.int p1), (.int p2)] maxLocals)) (T81.setTop (mkF m 50 #[.val (.int p0), .val (.int p1), .val (.int p2), .val (.int z7), .val (.ref a1), .val (.int (64 : Int32)), .unset, .unset, .unset] [])) := fun t k => G84 t (XS.goto X81.here hx rfl (pc0 := 37) (pc' := 50) rfl (hb hby at_37) (by decide) (by decide) k)
      have G86 : own_Go p.tables e below (s₁.setTop (entryFrame m #[(.int p0), (.int p1), (.int p2)] maxLocals)) (T81.setTop (mkF m 51 #[.val (.int p0), .val (.int p1), .val (.int p2), .val (.int z7), .val (.ref a1), .val (.int (64 : Int32)), .unset, .unset, .unset] [(.int p2)])) := fun t k => G85 t (XS.iloadN X81.here hx rfl (hb hby at_50) rfl k)
      have G87 : own_Go p.tables e below (s₁.setTop (entryFrame m #[(.int p0), (.int p1), (.int p2)] maxLocals)) (T81.setTop (mkF m 52 #[.val (.int p0), .val (.int p1), .val (.int p2), .val (.int z7), .val (.ref a1), .val (.int (64 : Int32)), .unset, .unset, .unset] [(.int (3 : Int32)), (.int p2)])) := fun t k => G86 t (XT.iconstV X81.here hx rfl (3 : Int32) (hb hby at_51) (by decide) k)
      have G88 : own_Go p.tables e below (s₁.setTop (entryFrame m #[(.int p0), (.int p1), (.int p2)] maxLocals)) (T81.setTop (mkF m 53 #[.val (.int p0), .val (.int p1), .val (.int p2), .val (.int z7), .val (.ref a1), .val (.int (64 : Int32)), .unset, .unset, .unset] [(.int (p2 &&& (3 : Int32)))])) := fun t k => G87 t (XS.iand X81.here hx rfl (hb hby at_52) rfl k)
      have G89 : own_Go p.tables e below (s₁.setTop (entryFrame m #[(.int p0), (.int p1), (.int p2)] maxLocals)) (T81.setTop (mkF m 55 #[.val (.int p0), .val (.int p1), .val (.int p2), .val (.int z7), .val (.ref a1), .val (.int (64 : Int32)), .val (.int (p2 &&& (3 : Int32))), .unset, .unset] [])) := fun t k => G88 t (XS.istore X81.here hx rfl (hb hby at_53) rfl (l' := #[.val (.int p0), .val (.int p1), .val (.int p2), .val (.int z7), .val (.ref a1), .val (.int (64 : Int32)), .val (.int (p2 &&& (3 : Int32))), .unset, .unset]) rfl k)
      obtain ⟨z90, hz90, G90⟩ : ∃ z90 : Int32, z90 = (p2 &&& (3 : Int32)) ∧ own_Go p.tables e below (s₁.setTop (entryFrame m #[(.int p0), (.int p1), (.int p2)] maxLocals)) (T81.setTop (mkF m 55 #[.val (.int p0), .val (.int p1), .val (.int p2), .val (.int z7), .val (.ref a1), .val (.int (64 : Int32)), .val (.int z90), .unset, .unset] [])) := ⟨_, rfl, G89⟩
      have G91 : own_Go p.tables e below (s₁.setTop (entryFrame m #[(.int p0), (.int p1), (.int p2)] maxLocals)) (T81.setTop (mkF m 57 #[.val (.int p0), .val (.int p1), .val (.int p2), .val (.int z7), .val (.ref a1), .val (.int (64 : Int32)), .val (.int z90), .unset, .unset] [(.int z90)])) := fun t k => G90 t (XS.iload X81.here hx rfl (hb hby at_55) rfl k)
      obtain ⟨z92_0, hz92_0, G92⟩ : ∃ (z92_0 : Int32), z92_0 = (if z90 = (0 : Int32) then p1 else (if z90 = (1 : Int32) then ((64 : Int32) + (p1 % (8 : Int32))) else (if z90 = (2 : Int32) then (p1 % (8 : Int32)) else (-p1)))) ∧ own_Go p.tables e below (s₁.setTop (entryFrame m #[(.int p0), (.int p1), (.int p2)] maxLocals)) (T81.setTop (mkF m 103 #[.val (.int p0), .val (.int p1), .val (.int p2), .val (.int z7), .val (.ref a1), .val (.int (64 : Int32)), .val (.int z90), .val (.int z92_0), .unset] [])) := by
        by_cases hc92 : z90 = (0 : Int32)
        · have G93 : own_Go p.tables e below (s₁.setTop (entryFrame m #[(.int p0), (.int p1), (.int p2)] maxLocals)) (T81.setTop (mkF m 60 #[.val (.int p0), .val (.int p1), .val (.int p2), .val (.int z7), .val (.ref a1), .val (.int (64 : Int32)), .val (.int z90), .unset, .unset] [])) := fun t k => G91 t (XS.ifNo X81.here hx rfl (hb hby at_57) rfl ((if0 _ _).trans (teq hc92).2) k)
          have G94 : own_Go p.tables e below (s₁.setTop (entryFrame m #[(.int p0), (.int p1), (.int p2)] maxLocals)) (T81.setTop (mkF m 61 #[.val (.int p0), .val (.int p1), .val (.int p2), .val (.int z7), .val (.ref a1), .val (.int (64 : Int32)), .val (.int z90), .unset, .unset] [(.int p1)])) := fun t k => G93 t (XS.iloadN X81.here hx rfl (hb hby at_60) rfl k)
          have G95 : own_Go p.tables e below (s₁.setTop (entryFrame m #[(.int p0), (.int p1), (.int p2)] maxLocals)) (T81.setTop (mkF m 63 #[.val (.int p0), .val (.int p1), .val (.int p2), .val (.int z7), .val (.ref a1), .val (.int (64 : Int32)), .val (.int z90), .val (.int p1), .unset] [])) := fun t k => G94 t (XS.istore X81.here hx rfl (hb hby at_61) rfl (l' := #[.val (.int p0), .val (.int p1), .val (.int p2), .val (.int z7), .val (.ref a1), .val (.int (64 : Int32)), .val (.int z90), .val (.int p1), .unset]) rfl k)
          have G96 : own_Go p.tables e below (s₁.setTop (entryFrame m #[(.int p0), (.int p1), (.int p2)] maxLocals)) (T81.setTop (mkF m 103 #[.val (.int p0), .val (.int p1), .val (.int p2), .val (.int z7), .val (.ref a1), .val (.int (64 : Int32)), .val (.int z90), .val (.int p1), .unset] [])) := fun t k => G95 t (XS.goto X81.here hx rfl (pc0 := 63) (pc' := 103) rfl (hb hby at_63) (by decide) (by decide) k)
          exact ⟨_, (if_pos hc92).symm, G96⟩
        · have G97 : own_Go p.tables e below (s₁.setTop (entryFrame m #[(.int p0), (.int p1), (.int p2)] maxLocals)) (T81.setTop (mkF m 66 #[.val (.int p0), .val (.int p1), .val (.int p2), .val (.int z7), .val (.ref a1), .val (.int (64 : Int32)), .val (.int z90), .unset, .unset] [])) := fun t k => G91 t (XS.ifYes X81.here hx rfl (pc0 := 57) (pc' := 66) rfl (hb hby at_57) rfl ((if0 _ _).trans (feq hc92).2) (by decide) (by decide) k)
          have G98 : own_Go p.tables e below (s₁.setTop (entryFrame m #[(.int p0), (.int p1), (.int p2)] maxLocals)) (T81.setTop (mkF m 68 #[.val (.int p0), .val (.int p1), .val (.int p2), .val (.int z7), .val (.ref a1), .val (.int (64 : Int32)), .val (.int z90), .unset, .unset] [(.int z90)])) := fun t k => G97 t (XS.iload X81.here hx rfl (hb hby at_66) rfl k)
          have G99 : own_Go p.tables e below (s₁.setTop (entryFrame m #[(.int p0), (.int p1), (.int p2)] maxLocals)) (T81.setTop (mkF m 69 #[.val (.int p0), .val (.int p1), .val (.int p2), .val (.int z7), .val (.ref a1), .val (.int (64 : Int32)), .val (.int z90), .unset, .unset] [(.int (1 : Int32)), (.int z90)])) := fun t k => G98 t (XT.iconstV X81.here hx rfl (1 : Int32) (hb hby at_68) (by decide) k)
          obtain ⟨z100_0, rfl, G100⟩ : ∃ (z100_0 : Int32), z100_0 = (if z90 = (1 : Int32) then ((64 : Int32) + (p1 % (8 : Int32))) else (if z90 = (2 : Int32) then (p1 % (8 : Int32)) else (-p1))) ∧ own_Go p.tables e below (s₁.setTop (entryFrame m #[(.int p0), (.int p1), (.int p2)] maxLocals)) (T81.setTop (mkF m 103 #[.val (.int p0), .val (.int p1), .val (.int p2), .val (.int z7), .val (.ref a1), .val (.int (64 : Int32)), .val (.int z90), .val (.int z100_0), .unset] [])) := by
            by_cases hc100 : z90 = (1 : Int32)
            · have G101 : own_Go p.tables e below (s₁.setTop (entryFrame m #[(.int p0), (.int p1), (.int p2)] maxLocals)) (T81.setTop (mkF m 72 #[.val (.int p0), .val (.int p1), .val (.int p2), .val (.int z7), .val (.ref a1), .val (.int (64 : Int32)), .val (.int z90), .unset, .unset] [])) := fun t k => G99 t (XS.icmpNo X81.here hx rfl (hb hby at_69) rfl (teq hc100).2 k)
              have G102 : own_Go p.tables e below (s₁.setTop (entryFrame m #[(.int p0), (.int p1), (.int p2)] maxLocals)) (T81.setTop (mkF m 74 #[.val (.int p0), .val (.int p1), .val (.int p2), .val (.int z7), .val (.ref a1), .val (.int (64 : Int32)), .val (.int z90), .unset, .unset] [(.int (64 : Int32))])) := fun t k => G101 t (XS.iload X81.here hx rfl (hb hby at_72) rfl k)
              have G103 : own_Go p.tables e below (s₁.setTop (entryFrame m #[(.int p0), (.int p1), (.int p2)] maxLocals)) (T81.setTop (mkF m 75 #[.val (.int p0), .val (.int p1), .val (.int p2), .val (.int z7), .val (.ref a1), .val (.int (64 : Int32)), .val (.int z90), .unset, .unset] [(.int p1), (.int (64 : Int32))])) := fun t k => G102 t (XS.iloadN X81.here hx rfl (hb hby at_74) rfl k)
              have G104 : own_Go p.tables e below (s₁.setTop (entryFrame m #[(.int p0), (.int p1), (.int p2)] maxLocals)) (T81.setTop (mkF m 77 #[.val (.int p0), .val (.int p1), .val (.int p2), .val (.int z7), .val (.ref a1), .val (.int (64 : Int32)), .val (.int z90), .unset, .unset] [(.int (8 : Int32)), (.int p1), (.int (64 : Int32))])) := fun t k => G103 t (XT.bipushV X81.here hx rfl (8 : Int32) (hb hby at_75) (by decide) k)
              have G105 : own_Go p.tables e below (s₁.setTop (entryFrame m #[(.int p0), (.int p1), (.int p2)] maxLocals)) (T81.setTop (mkF m 78 #[.val (.int p0), .val (.int p1), .val (.int p2), .val (.int z7), .val (.ref a1), .val (.int (64 : Int32)), .val (.int z90), .unset, .unset] [(.int (p1 % (8 : Int32))), (.int (64 : Int32))])) := fun t k => G104 t (iremM X81 hx rfl (hb hby at_77) rfl (by decide) k)
              have G106 : own_Go p.tables e below (s₁.setTop (entryFrame m #[(.int p0), (.int p1), (.int p2)] maxLocals)) (T81.setTop (mkF m 79 #[.val (.int p0), .val (.int p1), .val (.int p2), .val (.int z7), .val (.ref a1), .val (.int (64 : Int32)), .val (.int z90), .unset, .unset] [(.int ((64 : Int32) + (p1 % (8 : Int32))))])) := fun t k => G105 t (XS.iadd X81.here hx rfl (hb hby at_78) rfl k)
              have G107 : own_Go p.tables e below (s₁.setTop (entryFrame m #[(.int p0), (.int p1), (.int p2)] maxLocals)) (T81.setTop (mkF m 81 #[.val (.int p0), .val (.int p1), .val (.int p2), .val (.int z7), .val (.ref a1), .val (.int (64 : Int32)), .val (.int z90), .val (.int ((64 : Int32) + (p1 % (8 : Int32)))), .unset] [])) := fun t k => G106 t (XS.istore X81.here hx rfl (hb hby at_79) rfl (l' := #[.val (.int p0), .val (.int p1), .val (.int p2), .val (.int z7), .val (.ref a1), .val (.int (64 : Int32)), .val (.int z90), .val (.int ((64 : Int32) + (p1 % (8 : Int32)))), .unset]) rfl k)
              have G108 : own_Go p.tables e below (s₁.setTop (entryFrame m #[(.int p0), (.int p1), (.int p2)] maxLocals)) (T81.setTop (mkF m 103 #[.val (.int p0), .val (.int p1), .val (.int p2), .val (.int z7), .val (.ref a1), .val (.int (64 : Int32)), .val (.int z90), .val (.int ((64 : Int32) + (p1 % (8 : Int32)))), .unset] [])) := fun t k => G107 t (XS.goto X81.here hx rfl (pc0 := 81) (pc' := 103) rfl (hb hby at_81) (by decide) (by decide) k)
              exact ⟨_, (if_pos hc100).symm, G108⟩
            · have G109 : own_Go p.tables e below (s₁.setTop (entryFrame m #[(.int p0), (.int p1), (.int p2)] maxLocals)) (T81.setTop (mkF m 84 #[.val (.int p0), .val (.int p1), .val (.int p2), .val (.int z7), .val (.ref a1), .val (.int (64 : Int32)), .val (.int z90), .unset, .unset] [])) := fun t k => G99 t (XS.icmpYes X81.here hx rfl (pc0 := 69) (pc' := 84) rfl (hb hby at_69) rfl (feq hc100).2 (by decide) (by decide) k)
              have G110 : own_Go p.tables e below (s₁.setTop (entryFrame m #[(.int p0), (.int p1), (.int p2)] maxLocals)) (T81.setTop (mkF m 86 #[.val (.int p0), .val (.int p1), .val (.int p2), .val (.int z7), .val (.ref a1), .val (.int (64 : Int32)), .val (.int z90), .unset, .unset] [(.int z90)])) := fun t k => G109 t (XS.iload X81.here hx rfl (hb hby at_84) rfl k)
              have G111 : own_Go p.tables e below (s₁.setTop (entryFrame m #[(.int p0), (.int p1), (.int p2)] maxLocals)) (T81.setTop (mkF m 87 #[.val (.int p0), .val (.int p1), .val (.int p2), .val (.int z7), .val (.ref a1), .val (.int (64 : Int32)), .val (.int z90), .unset, .unset] [(.int (2 : Int32)), (.int z90)])) := fun t k => G110 t (XT.iconstV X81.here hx rfl (2 : Int32) (hb hby at_86) (by decide) k)
              obtain ⟨z112_0, rfl, G112⟩ : ∃ (z112_0 : Int32), z112_0 = (if z90 = (2 : Int32) then (p1 % (8 : Int32)) else (-p1)) ∧ own_Go p.tables e below (s₁.setTop (entryFrame m #[(.int p0), (.int p1), (.int p2)] maxLocals)) (T81.setTop (mkF m 103 #[.val (.int p0), .val (.int p1), .val (.int p2), .val (.int z7), .val (.ref a1), .val (.int (64 : Int32)), .val (.int z90), .val (.int z112_0), .unset] [])) := by
                by_cases hc112 : z90 = (2 : Int32)
                · have G113 : own_Go p.tables e below (s₁.setTop (entryFrame m #[(.int p0), (.int p1), (.int p2)] maxLocals)) (T81.setTop (mkF m 90 #[.val (.int p0), .val (.int p1), .val (.int p2), .val (.int z7), .val (.ref a1), .val (.int (64 : Int32)), .val (.int z90), .unset, .unset] [])) := fun t k => G111 t (XS.icmpNo X81.here hx rfl (hb hby at_87) rfl (teq hc112).2 k)
                  have G114 : own_Go p.tables e below (s₁.setTop (entryFrame m #[(.int p0), (.int p1), (.int p2)] maxLocals)) (T81.setTop (mkF m 91 #[.val (.int p0), .val (.int p1), .val (.int p2), .val (.int z7), .val (.ref a1), .val (.int (64 : Int32)), .val (.int z90), .unset, .unset] [(.int p1)])) := fun t k => G113 t (XS.iloadN X81.here hx rfl (hb hby at_90) rfl k)
                  have G115 : own_Go p.tables e below (s₁.setTop (entryFrame m #[(.int p0), (.int p1), (.int p2)] maxLocals)) (T81.setTop (mkF m 93 #[.val (.int p0), .val (.int p1), .val (.int p2), .val (.int z7), .val (.ref a1), .val (.int (64 : Int32)), .val (.int z90), .unset, .unset] [(.int (8 : Int32)), (.int p1)])) := fun t k => G114 t (XT.bipushV X81.here hx rfl (8 : Int32) (hb hby at_91) (by decide) k)
                  have G116 : own_Go p.tables e below (s₁.setTop (entryFrame m #[(.int p0), (.int p1), (.int p2)] maxLocals)) (T81.setTop (mkF m 94 #[.val (.int p0), .val (.int p1), .val (.int p2), .val (.int z7), .val (.ref a1), .val (.int (64 : Int32)), .val (.int z90), .unset, .unset] [(.int (p1 % (8 : Int32)))])) := fun t k => G115 t (iremM X81 hx rfl (hb hby at_93) rfl (by decide) k)
                  have G117 : own_Go p.tables e below (s₁.setTop (entryFrame m #[(.int p0), (.int p1), (.int p2)] maxLocals)) (T81.setTop (mkF m 96 #[.val (.int p0), .val (.int p1), .val (.int p2), .val (.int z7), .val (.ref a1), .val (.int (64 : Int32)), .val (.int z90), .val (.int (p1 % (8 : Int32))), .unset] [])) := fun t k => G116 t (XS.istore X81.here hx rfl (hb hby at_94) rfl (l' := #[.val (.int p0), .val (.int p1), .val (.int p2), .val (.int z7), .val (.ref a1), .val (.int (64 : Int32)), .val (.int z90), .val (.int (p1 % (8 : Int32))), .unset]) rfl k)
                  have G118 : own_Go p.tables e below (s₁.setTop (entryFrame m #[(.int p0), (.int p1), (.int p2)] maxLocals)) (T81.setTop (mkF m 103 #[.val (.int p0), .val (.int p1), .val (.int p2), .val (.int z7), .val (.ref a1), .val (.int (64 : Int32)), .val (.int z90), .val (.int (p1 % (8 : Int32))), .unset] [])) := fun t k => G117 t (XS.goto X81.here hx rfl (pc0 := 96) (pc' := 103) rfl (hb hby at_96) (by decide) (by decide) k)
                  exact ⟨_, (if_pos hc112).symm, G118⟩
                · have G119 : own_Go p.tables e below (s₁.setTop (entryFrame m #[(.int p0), (.int p1), (.int p2)] maxLocals)) (T81.setTop (mkF m 99 #[.val (.int p0), .val (.int p1), .val (.int p2), .val (.int z7), .val (.ref a1), .val (.int (64 : Int32)), .val (.int z90), .unset, .unset] [])) := fun t k => G111 t (XS.icmpYes X81.here hx rfl (pc0 := 87) (pc' := 99) rfl (hb hby at_87) rfl (feq hc112).2 (by decide) (by decide) k)
                  have G120 : own_Go p.tables e below (s₁.setTop (entryFrame m #[(.int p0), (.int p1), (.int p2)] maxLocals)) (T81.setTop (mkF m 100 #[.val (.int p0), .val (.int p1), .val (.int p2), .val (.int z7), .val (.ref a1), .val (.int (64 : Int32)), .val (.int z90), .unset, .unset] [(.int p1)])) := fun t k => G119 t (XS.iloadN X81.here hx rfl (hb hby at_99) rfl k)
                  have G121 : own_Go p.tables e below (s₁.setTop (entryFrame m #[(.int p0), (.int p1), (.int p2)] maxLocals)) (T81.setTop (mkF m 101 #[.val (.int p0), .val (.int p1), .val (.int p2), .val (.int z7), .val (.ref a1), .val (.int (64 : Int32)), .val (.int z90), .unset, .unset] [(.int (-p1))])) := fun t k => G120 t (XS.ineg X81.here hx rfl (hb hby at_100) rfl k)
                  have G122 : own_Go p.tables e below (s₁.setTop (entryFrame m #[(.int p0), (.int p1), (.int p2)] maxLocals)) (T81.setTop (mkF m 103 #[.val (.int p0), .val (.int p1), .val (.int p2), .val (.int z7), .val (.ref a1), .val (.int (64 : Int32)), .val (.int z90), .val (.int (-p1)), .unset] [])) := fun t k => G121 t (XS.istore X81.here hx rfl (hb hby at_101) rfl (l' := #[.val (.int p0), .val (.int p1), .val (.int p2), .val (.int z7), .val (.ref a1), .val (.int (64 : Int32)), .val (.int z90), .val (.int (-p1)), .unset]) rfl k)
                  exact ⟨_, (if_neg hc112).symm, G122⟩
              exact ⟨_, (if_neg hc100).symm, G112⟩
          exact ⟨_, (if_neg hc92).symm, G100⟩
      have G123 : own_Go p.tables e below (s₁.setTop (entryFrame m #[(.int p0), (.int p1), (.int p2)] maxLocals)) (T81.setTop (mkF m 105 #[.val (.int p0), .val (.int p1), .val (.int p2), .val (.int z7), .val (.ref a1), .val (.int (64 : Int32)), .val (.int z90), .val (.int z92_0), .unset] [(.int z92_0)])) := fun t k => G92 t (XS.iload X81.here hx rfl (hb hby at_103) rfl k)
      obtain ⟨z124_0, hz124_0, G124⟩ : ∃ (z124_0 : Int32), z124_0 = (if z92_0 < (0 : Int32) then (0 : Int32) else (if z92_0 < (64 : Int32) then (1 : Int32) else (0 : Int32))) ∧ own_Go p.tables e below (s₁.setTop (entryFrame m #[(.int p0), (.int p1), (.int p2)] maxLocals)) (T81.setTop (mkF m 120 #[.val (.int p0), .val (.int p1), .val (.int p2), .val (.int z7), .val (.ref a1), .val (.int (64 : Int32)), .val (.int z90), .val (.int z92_0), .unset] [(.int z124_0)])) := by
        by_cases hc124 : z92_0 < (0 : Int32)
        · have G125 : own_Go p.tables e below (s₁.setTop (entryFrame m #[(.int p0), (.int p1), (.int p2)] maxLocals)) (T81.setTop (mkF m 119 #[.val (.int p0), .val (.int p1), .val (.int p2), .val (.int z7), .val (.ref a1), .val (.int (64 : Int32)), .val (.int z90), .val (.int z92_0), .unset] [])) := fun t k => G123 t (XS.ifYes X81.here hx rfl (pc0 := 105) (pc' := 119) rfl (hb hby at_105) rfl ((if0 _ _).trans (tlt hc124).1) (by decide) (by decide) k)
          have G126 : own_Go p.tables e below (s₁.setTop (entryFrame m #[(.int p0), (.int p1), (.int p2)] maxLocals)) (T81.setTop (mkF m 120 #[.val (.int p0), .val (.int p1), .val (.int p2), .val (.int z7), .val (.ref a1), .val (.int (64 : Int32)), .val (.int z90), .val (.int z92_0), .unset] [(.int (0 : Int32))])) := fun t k => G125 t (XT.iconstV X81.here hx rfl (0 : Int32) (hb hby at_119) (by decide) k)
          exact ⟨_, (if_pos hc124).symm, G126⟩
        · have G127 : own_Go p.tables e below (s₁.setTop (entryFrame m #[(.int p0), (.int p1), (.int p2)] maxLocals)) (T81.setTop (mkF m 108 #[.val (.int p0), .val (.int p1), .val (.int p2), .val (.int z7), .val (.ref a1), .val (.int (64 : Int32)), .val (.int z90), .val (.int z92_0), .unset] [])) := fun t k => G123 t (XS.ifNo X81.here hx rfl (hb hby at_105) rfl ((if0 _ _).trans (flt hc124).1) k)
          have G128 : own_Go p.tables e below (s₁.setTop (entryFrame m #[(.int p0), (.int p1), (.int p2)] maxLocals)) (T81.setTop (mkF m 110 #[.val (.int p0), .val (.int p1), .val (.int p2), .val (.int z7), .val (.ref a1), .val (.int (64 : Int32)), .val (.int z90), .val (.int z92_0), .unset] [(.int z92_0)])) := fun t k => G127 t (XS.iload X81.here hx rfl (hb hby at_108) rfl k)
          have G129 : own_Go p.tables e below (s₁.setTop (entryFrame m #[(.int p0), (.int p1), (.int p2)] maxLocals)) (T81.setTop (mkF m 112 #[.val (.int p0), .val (.int p1), .val (.int p2), .val (.int z7), .val (.ref a1), .val (.int (64 : Int32)), .val (.int z90), .val (.int z92_0), .unset] [(.int (64 : Int32)), (.int z92_0)])) := fun t k => G128 t (XS.iload X81.here hx rfl (hb hby at_110) rfl k)
          obtain ⟨z130_0, rfl, G130⟩ : ∃ (z130_0 : Int32), z130_0 = (if z92_0 < (64 : Int32) then (1 : Int32) else (0 : Int32)) ∧ own_Go p.tables e below (s₁.setTop (entryFrame m #[(.int p0), (.int p1), (.int p2)] maxLocals)) (T81.setTop (mkF m 120 #[.val (.int p0), .val (.int p1), .val (.int p2), .val (.int z7), .val (.ref a1), .val (.int (64 : Int32)), .val (.int z90), .val (.int z92_0), .unset] [(.int z130_0)])) := by
            by_cases hc130 : z92_0 < (64 : Int32)
            · have G131 : own_Go p.tables e below (s₁.setTop (entryFrame m #[(.int p0), (.int p1), (.int p2)] maxLocals)) (T81.setTop (mkF m 115 #[.val (.int p0), .val (.int p1), .val (.int p2), .val (.int z7), .val (.ref a1), .val (.int (64 : Int32)), .val (.int z90), .val (.int z92_0), .unset] [])) := fun t k => G129 t (XS.icmpNo X81.here hx rfl (hb hby at_112) rfl (tlt hc130).2.1 k)
              have G132 : own_Go p.tables e below (s₁.setTop (entryFrame m #[(.int p0), (.int p1), (.int p2)] maxLocals)) (T81.setTop (mkF m 116 #[.val (.int p0), .val (.int p1), .val (.int p2), .val (.int z7), .val (.ref a1), .val (.int (64 : Int32)), .val (.int z90), .val (.int z92_0), .unset] [(.int (1 : Int32))])) := fun t k => G131 t (XT.iconstV X81.here hx rfl (1 : Int32) (hb hby at_115) (by decide) k)
              have G133 : own_Go p.tables e below (s₁.setTop (entryFrame m #[(.int p0), (.int p1), (.int p2)] maxLocals)) (T81.setTop (mkF m 120 #[.val (.int p0), .val (.int p1), .val (.int p2), .val (.int z7), .val (.ref a1), .val (.int (64 : Int32)), .val (.int z90), .val (.int z92_0), .unset] [(.int (1 : Int32))])) := fun t k => G132 t (XS.goto X81.here hx rfl (pc0 := 116) (pc' := 120) rfl (hb hby at_116) (by decide) (by decide) k)
              exact ⟨_, (if_pos hc130).symm, G133⟩
            · have G134 : own_Go p.tables e below (s₁.setTop (entryFrame m #[(.int p0), (.int p1), (.int p2)] maxLocals)) (T81.setTop (mkF m 119 #[.val (.int p0), .val (.int p1), .val (.int p2), .val (.int z7), .val (.ref a1), .val (.int (64 : Int32)), .val (.int z90), .val (.int z92_0), .unset] [])) := fun t k => G129 t (XS.icmpYes X81.here hx rfl (pc0 := 112) (pc' := 119) rfl (hb hby at_112) rfl (flt hc130).2.1 (by decide) (by decide) k)
              have G135 : own_Go p.tables e below (s₁.setTop (entryFrame m #[(.int p0), (.int p1), (.int p2)] maxLocals)) (T81.setTop (mkF m 120 #[.val (.int p0), .val (.int p1), .val (.int p2), .val (.int z7), .val (.ref a1), .val (.int (64 : Int32)), .val (.int z90), .val (.int z92_0), .unset] [(.int (0 : Int32))])) := fun t k => G134 t (XT.iconstV X81.here hx rfl (0 : Int32) (hb hby at_119) (by decide) k)
              exact ⟨_, (if_neg hc130).symm, G135⟩
          exact ⟨_, (if_neg hc124).symm, G130⟩
      have G136 : own_Go p.tables e below (s₁.setTop (entryFrame m #[(.int p0), (.int p1), (.int p2)] maxLocals)) (T81.setTop (mkF m 122 #[.val (.int p0), .val (.int p1), .val (.int p2), .val (.int z7), .val (.ref a1), .val (.int (64 : Int32)), .val (.int z90), .val (.int z92_0), .val (.int z124_0)] [])) := fun t k => G124 t (XS.istore X81.here hx rfl (hb hby at_120) rfl (l' := #[.val (.int p0), .val (.int p1), .val (.int p2), .val (.int z7), .val (.ref a1), .val (.int (64 : Int32)), .val (.int z90), .val (.int z92_0), .val (.int z124_0)]) rfl k)
      have G137 : own_Go p.tables e below (s₁.setTop (entryFrame m #[(.int p0), (.int p1), (.int p2)] maxLocals)) (T81.setTop (mkF m 124 #[.val (.int p0), .val (.int p1), .val (.int p2), .val (.int z7), .val (.ref a1), .val (.int (64 : Int32)), .val (.int z90), .val (.int z92_0), .val (.int z124_0)] [(.ref a1)])) := fun t k => G136 t (XS.aload X81.here hx rfl (hb hby at_122) rfl rfl k)
      have G138 : own_Go p.tables e below (s₁.setTop (entryFrame m #[(.int p0), (.int p1), (.int p2)] maxLocals)) (T81.setTop (mkF m 126 #[.val (.int p0), .val (.int p1), .val (.int p2), .val (.int z7), .val (.ref a1), .val (.int (64 : Int32)), .val (.int z90), .val (.int z92_0), .val (.int z124_0)] [(.int z92_0), (.ref a1)])) := fun t k => G137 t (XS.iload X81.here hx rfl (hb hby at_124) rfl k)
      obtain ⟨cq139, kq139, q139a, q139b, q139c⟩ := isOf hZ e81 E_a1
      obtain ⟨vv139, _, ⟨T139, L139, k139, n139⟩, -, X139, ⟨Lc139, hQ139, l139, y139, z139⟩, st139⟩ := X81.virtualBack hx (y := (⟨"com/example/sectorline/sectorline/card/Layout", "hasBlock", "(I)Z"⟩ : MethodName)) (z := (⟨"com/example/sectorline/sectorline/card/Layout", "hasBlock", "(I)Z"⟩ : MethodName)) hown (mvT hZ (hw _ (List.mem_of_getElem? (i := 4) rfl))) (mvT hZ (hw _ (List.mem_of_getElem? (i := 5) rfl))) (notFace_of_selects (args := #[]) (mvT hZ (hw _ (List.mem_of_getElem? (i := 7) rfl)))) (mvT hZ (hw _ (List.mem_of_getElem? (i := 7) rfl))) (mvT hZ (hw _ (List.mem_of_getElem? (i := 6) rfl))) (by decide) (backOf (W := 0) (rm1 l Z a0 hw [] a1 z92_0 (64 : Int32) h0 F_a1) hZ (hw _ (List.mem_of_getElem? (i := 8) rfl)) (hw _ (List.mem_of_getElem? (i := 2) rfl)) (by decide) (by decide)) q139a q139c (g := (mkF m 126 #[.val (.int p0), .val (.int p1), .val (.int p2), .val (.int z7), .val (.ref a1), .val (.int (64 : Int32)), .val (.int z90), .val (.int z92_0), .val (.int z124_0)] [(.int z92_0), (.ref a1)])) rfl (by rw [hml]; rfl) (Steps.refl _) (argsL := [(.int z92_0)]) (rest := []) (lenOf pd_0_0 rfl) rfl (by show 2 * 0 + _ ≤ _; exact Nat.le_of_eq rfl) (hb hby at_126) (fun _ _ => ⟨rfl, e81, (by decide : 0 + 0 ≤ _), (by decide : 0 + 0 ≤ _)⟩)
      dsimp only [Pt.U, Pt.locs, Pt.cells, Pt.slots] at X139 l139 y139 z139 st139 hQ139
      subst l139 y139 z139
      obtain ⟨rfl, rfl, e139⟩ := hQ139
      have Y139 : Stand p l e room_1 s m #[(.int p0), (.int p1), (.int p2)] below meth c T139 [] 0 0 := X139
      have G139 : own_Go p.tables e below (s₁.setTop (entryFrame m #[(.int p0), (.int p1), (.int p2)] maxLocals)) (T139.setTop (mkF m 129 #[.val (.int p0), .val (.int p1), .val (.int p2), .val (.int z7), .val (.ref a1), .val (.int (64 : Int32)), .val (.int z90), .val (.int z92_0), .val (.int z124_0)] [(.int (if z92_0 < (0 : Int32) then (0 : Int32) else (if z92_0 < (64 : Int32) then (1 : Int32) else (0 : Int32))))])) := fun t k => G138 t (st139.trans k)
      have G140 : own_Go p.tables e below (s₁.setTop (entryFrame m #[(.int p0), (.int p1), (.int p2)] maxLocals)) (T139.setTop (mkF m 131 #[.val (.int p0), .val (.int p1), .val (.int p2), .val (.int z7), .val (.ref a1), .val (.int (64 : Int32)), .val (.int z90), .val (.int z92_0), .val (.int z124_0)] [(.int z124_0), (.int (if z92_0 < (0 : Int32) then (0 : Int32) else (if z92_0 < (64 : Int32) then (1 : Int32) else (0 : Int32))))])) := fun t k => G139 t (XS.iload Y139.here hx rfl (hb hby at_129) rfl k)
      have hk141 : (if z92_0 < (0 : Int32) then (0 : Int32) else (if z92_0 < (64 : Int32) then (1 : Int32) else (0 : Int32))) = z124_0 := hz124_0.symm
      have G142 : own_Go p.tables e below (s₁.setTop (entryFrame m #[(.int p0), (.int p1), (.int p2)] maxLocals)) (T139.setTop (mkF m 134 #[.val (.int p0), .val (.int p1), .val (.int p2), .val (.int z7), .val (.ref a1), .val (.int (64 : Int32)), .val (.int z90), .val (.int z92_0), .val (.int z124_0)] [])) := fun t k => G140 t (XS.icmpNo Y139.here hx rfl (hb hby at_131) rfl (teq hk141).2 k)
      have G143 : own_Go p.tables e below (s₁.setTop (entryFrame m #[(.int p0), (.int p1), (.int p2)] maxLocals)) (T139.setTop (mkF m 135 #[.val (.int p0), .val (.int p1), .val (.int p2), .val (.int z7), .val (.ref a1), .val (.int (64 : Int32)), .val (.int z90), .val (.int z92_0), .val (.int z124_0)] [(.int (1 : Int32))])) := fun t k => G142 t (XT.iconstV Y139.here hx rfl (1 : Int32) (hb hby at_134) (by decide) k)
      have G144 : own_Go p.tables e below (s₁.setTop (entryFrame m #[(.int p0), (.int p1), (.int p2)] maxLocals)) (T139.setTop (mkF m 139 #[.val (.int p0), .val (.int p1), .val (.int p2), .val (.int z7), .val (.ref a1), .val (.int (64 : Int32)), .val (.int z90), .val (.int z92_0), .val (.int z124_0)] [(.int (1 : Int32))])) := fun t k => G143 t (XS.goto Y139.here hx rfl (pc0 := 135) (pc' := 139) rfl (hb hby at_135) (by decide) (by decide) k)
      obtain ⟨fs, hr, hrun, hended, hW, hsame⟩ := Y139.leave (v := some (.int (nar .boolean (1 : Int32)))) (fun h => by rw [Bd.returns] at h; cases h)
      refine ⟨_, _, G144 _ ?_, hrun, hended, _, _, rfl, ?_, ⟨_, rfl⟩, hW, hsame.mono (by decide) (by decide)⟩
      · exact retN Y139 hx (t := .boolean) Bd.returns (by simp) (hb hby at_139) hr
      · show Q0 Z p0 p1 p2 aM a1 a4 h0 _ T139.heap _
        rw [e139]
        exact ⟨rfl, rfl, rfl⟩
    · have G146 : own_Go p.tables e below (s₁.setTop (entryFrame m #[(.int p0), (.int p1), (.int p2)] maxLocals)) (s₁.setTop (mkF m 40 #[.val (.int p0), .val (.int p1), .val (.int p2), .val (.int z7), .unset, .unset, .unset, .unset, .unset] [])) := fun t k => G78 t (XS.icmpYes X0.here hx rfl (pc0 := 25) (pc' := 40) rfl (hb hby at_25) rfl (feq hc79).2 (by decide) (by decide) k)
      obtain ⟨T147, X147, e147, st147⟩ := getS2 X0 hx hZ hown (host := "") (Or.inl (hw _ (List.mem_of_getElem? (i := 13) rfl))) Via.refl e0 S_a4 (g := (mkF m 40 #[.val (.int p0), .val (.int p1), .val (.int p2), .val (.int z7), .unset, .unset, .unset, .unset, .unset] [])) rfl (hb hby at_40)
      have G147 : own_Go p.tables e below (s₁.setTop (entryFrame m #[(.int p0), (.int p1), (.int p2)] maxLocals)) (T147.setTop (mkF m 43 #[.val (.int p0), .val (.int p1), .val (.int p2), .val (.int z7), .unset, .unset, .unset, .unset, .unset] [(.ref a4)])) := fun t k => G146 t (st147 t k)
      have G148 : own_Go p.tables e below (s₁.setTop (entryFrame m #[(.int p0), (.int p1), (.int p2)] maxLocals)) (T147.setTop (mkF m 45 #[.val (.int p0), .val (.int p1), .val (.int p2), .val (.int z7), .val (.ref a4), .unset, .unset, .unset, .unset] [])) := fun t k => G147 t (XS.astore X147.here hx rfl (hb hby at_43) rfl rfl (l' := #[.val (.int p0), .val (.int p1), .val (.int p2), .val (.int z7), .val (.ref a4), .unset, .unset, .unset, .unset]) rfl k)
      have G149 : own_Go p.tables e below (s₁.setTop (entryFrame m #[(.int p0), (.int p1), (.int p2)] maxLocals)) (T147.setTop (mkF m 48 #[.val (.int p0), .val (.int p1), .val (.int p2), .val (.int z7), .val (.ref a4), .unset, .unset, .unset, .unset] [(.int (256 : Int32))])) := fun t k => G148 t (XT.sipushV X147.here hx rfl (256 : Int32) (hb hby at_45) (by decide) k)
      have G150 : own_Go p.tables e below (s₁.setTop (entryFrame m #[(.int p0), (.int p1), (.int p2)] maxLocals)) (T147.setTop (mkF m 50 #[.val (.int p0), .val (.int p1), .val (.int p2), .val (.int z7), .val (.ref a4), .val (.int (256 : Int32)), .unset, .unset, .unset] [])) := fun t k => G149 t (XS.istore X147.here hx rfl (hb hby at_48) rfl (l' := #[.val (.int p0), .val (.int p1), .val (.int p2), .val (.int z7), .val (.ref a4), .val (.int (256 : Int32)), .unset, .unset, .unset]) rfl k)
      have G151 : own_Go p.tables e below (s₁.setTop (entryFrame m #[(.int p0), (.int p1), (.int p2)] maxLocals)) (T147.setTop (mkF m 51 #[.val (.int p0), .val (.int p1), .val (.int p2), .val (.int z7), .val (.ref a4), .val (.int (256 : Int32)), .unset, .unset, .unset] [(.int p2)])) := fun t k => G150 t (XS.iloadN X147.here hx rfl (hb hby at_50) rfl k)
      have G152 : own_Go p.tables e below (s₁.setTop (entryFrame m #[(.int p0), (.int p1), (.int p2)] maxLocals)) (T147.setTop (mkF m 52 #[.val (.int p0), .val (.int p1), .val (.int p2), .val (.int z7), .val (.ref a4), .val (.int (256 : Int32)), .unset, .unset, .unset] [(.int (3 : Int32)), (.int p2)])) := fun t k => G151 t (XT.iconstV X147.here hx rfl (3 : Int32) (hb hby at_51) (by decide) k)
      have G153 : own_Go p.tables e below (s₁.setTop (entryFrame m #[(.int p0), (.int p1), (.int p2)] maxLocals)) (T147.setTop (mkF m 53 #[.val (.int p0), .val (.int p1), .val (.int p2), .val (.int z7), .val (.ref a4), .val (.int (256 : Int32)), .unset, .unset, .unset] [(.int (p2 &&& (3 : Int32)))])) := fun t k => G152 t (XS.iand X147.here hx rfl (hb hby at_52) rfl k)
      have G154 : own_Go p.tables e below (s₁.setTop (entryFrame m #[(.int p0), (.int p1), (.int p2)] maxLocals)) (T147.setTop (mkF m 55 #[.val (.int p0), .val (.int p1), .val (.int p2), .val (.int z7), .val (.ref a4), .val (.int (256 : Int32)), .val (.int (p2 &&& (3 : Int32))), .unset, .unset] [])) := fun t k => G153 t (XS.istore X147.here hx rfl (hb hby at_53) rfl (l' := #[.val (.int p0), .val (.int p1), .val (.int p2), .val (.int z7), .val (.ref a4), .val (.int (256 : Int32)), .val (.int (p2 &&& (3 : Int32))), .unset, .unset]) rfl k)
      obtain ⟨z155, hz155, G155⟩ : ∃ z155 : Int32, z155 = (p2 &&& (3 : Int32)) ∧ own_Go p.tables e below (s₁.setTop (entryFrame m #[(.int p0), (.int p1), (.int p2)] maxLocals)) (T147.setTop (mkF m 55 #[.val (.int p0), .val (.int p1), .val (.int p2), .val (.int z7), .val (.ref a4), .val (.int (256 : Int32)), .val (.int z155), .unset, .unset] [])) := ⟨_, rfl, G154⟩
      have G156 : own_Go p.tables e below (s₁.setTop (entryFrame m #[(.int p0), (.int p1), (.int p2)] maxLocals)) (T147.setTop (mkF m 57 #[.val (.int p0), .val (.int p1), .val (.int p2), .val (.int z7), .val (.ref a4), .val (.int (256 : Int32)), .val (.int z155), .unset, .unset] [(.int z155)])) := fun t k => G155 t (XS.iload X147.here hx rfl (hb hby at_55) rfl k)
      obtain ⟨z157_0, hz157_0, G157⟩ : ∃ (z157_0 : Int32), z157_0 = (if z155 = (0 : Int32) then p1 else (if z155 = (1 : Int32) then ((256 : Int32) + (p1 % (8 : Int32))) else (if z155 = (2 : Int32) then (p1 % (8 : Int32)) else (-p1)))) ∧ own_Go p.tables e below (s₁.setTop (entryFrame m #[(.int p0), (.int p1), (.int p2)] maxLocals)) (T147.setTop (mkF m 103 #[.val (.int p0), .val (.int p1), .val (.int p2), .val (.int z7), .val (.ref a4), .val (.int (256 : Int32)), .val (.int z155), .val (.int z157_0), .unset] [])) := by
        by_cases hc157 : z155 = (0 : Int32)
        · have G158 : own_Go p.tables e below (s₁.setTop (entryFrame m #[(.int p0), (.int p1), (.int p2)] maxLocals)) (T147.setTop (mkF m 60 #[.val (.int p0), .val (.int p1), .val (.int p2), .val (.int z7), .val (.ref a4), .val (.int (256 : Int32)), .val (.int z155), .unset, .unset] [])) := fun t k => G156 t (XS.ifNo X147.here hx rfl (hb hby at_57) rfl ((if0 _ _).trans (teq hc157).2) k)
          have G159 : own_Go p.tables e below (s₁.setTop (entryFrame m #[(.int p0), (.int p1), (.int p2)] maxLocals)) (T147.setTop (mkF m 61 #[.val (.int p0), .val (.int p1), .val (.int p2), .val (.int z7), .val (.ref a4), .val (.int (256 : Int32)), .val (.int z155), .unset, .unset] [(.int p1)])) := fun t k => G158 t (XS.iloadN X147.here hx rfl (hb hby at_60) rfl k)
          have G160 : own_Go p.tables e below (s₁.setTop (entryFrame m #[(.int p0), (.int p1), (.int p2)] maxLocals)) (T147.setTop (mkF m 63 #[.val (.int p0), .val (.int p1), .val (.int p2), .val (.int z7), .val (.ref a4), .val (.int (256 : Int32)), .val (.int z155), .val (.int p1), .unset] [])) := fun t k => G159 t (XS.istore X147.here hx rfl (hb hby at_61) rfl (l' := #[.val (.int p0), .val (.int p1), .val (.int p2), .val (.int z7), .val (.ref a4), .val (.int (256 : Int32)), .val (.int z155), .val (.int p1), .unset]) rfl k)
          have G161 : own_Go p.tables e below (s₁.setTop (entryFrame m #[(.int p0), (.int p1), (.int p2)] maxLocals)) (T147.setTop (mkF m 103 #[.val (.int p0), .val (.int p1), .val (.int p2), .val (.int z7), .val (.ref a4), .val (.int (256 : Int32)), .val (.int z155), .val (.int p1), .unset] [])) := fun t k => G160 t (XS.goto X147.here hx rfl (pc0 := 63) (pc' := 103) rfl (hb hby at_63) (by decide) (by decide) k)
          exact ⟨_, (if_pos hc157).symm, G161⟩
        · have G162 : own_Go p.tables e below (s₁.setTop (entryFrame m #[(.int p0), (.int p1), (.int p2)] maxLocals)) (T147.setTop (mkF m 66 #[.val (.int p0), .val (.int p1), .val (.int p2), .val (.int z7), .val (.ref a4), .val (.int (256 : Int32)), .val (.int z155), .unset, .unset] [])) := fun t k => G156 t (XS.ifYes X147.here hx rfl (pc0 := 57) (pc' := 66) rfl (hb hby at_57) rfl ((if0 _ _).trans (feq hc157).2) (by decide) (by decide) k)
          have G163 : own_Go p.tables e below (s₁.setTop (entryFrame m #[(.int p0), (.int p1), (.int p2)] maxLocals)) (T147.setTop (mkF m 68 #[.val (.int p0), .val (.int p1), .val (.int p2), .val (.int z7), .val (.ref a4), .val (.int (256 : Int32)), .val (.int z155), .unset, .unset] [(.int z155)])) := fun t k => G162 t (XS.iload X147.here hx rfl (hb hby at_66) rfl k)
          have G164 : own_Go p.tables e below (s₁.setTop (entryFrame m #[(.int p0), (.int p1), (.int p2)] maxLocals)) (T147.setTop (mkF m 69 #[.val (.int p0), .val (.int p1), .val (.int p2), .val (.int z7), .val (.ref a4), .val (.int (256 : Int32)), .val (.int z155), .unset, .unset] [(.int (1 : Int32)), (.int z155)])) := fun t k => G163 t (XT.iconstV X147.here hx rfl (1 : Int32) (hb hby at_68) (by decide) k)
          obtain ⟨z165_0, rfl, G165⟩ : ∃ (z165_0 : Int32), z165_0 = (if z155 = (1 : Int32) then ((256 : Int32) + (p1 % (8 : Int32))) else (if z155 = (2 : Int32) then (p1 % (8 : Int32)) else (-p1))) ∧ own_Go p.tables e below (s₁.setTop (entryFrame m #[(.int p0), (.int p1), (.int p2)] maxLocals)) (T147.setTop (mkF m 103 #[.val (.int p0), .val (.int p1), .val (.int p2), .val (.int z7), .val (.ref a4), .val (.int (256 : Int32)), .val (.int z155), .val (.int z165_0), .unset] [])) := by
            by_cases hc165 : z155 = (1 : Int32)
            · have G166 : own_Go p.tables e below (s₁.setTop (entryFrame m #[(.int p0), (.int p1), (.int p2)] maxLocals)) (T147.setTop (mkF m 72 #[.val (.int p0), .val (.int p1), .val (.int p2), .val (.int z7), .val (.ref a4), .val (.int (256 : Int32)), .val (.int z155), .unset, .unset] [])) := fun t k => G164 t (XS.icmpNo X147.here hx rfl (hb hby at_69) rfl (teq hc165).2 k)
              have G167 : own_Go p.tables e below (s₁.setTop (entryFrame m #[(.int p0), (.int p1), (.int p2)] maxLocals)) (T147.setTop (mkF m 74 #[.val (.int p0), .val (.int p1), .val (.int p2), .val (.int z7), .val (.ref a4), .val (.int (256 : Int32)), .val (.int z155), .unset, .unset] [(.int (256 : Int32))])) := fun t k => G166 t (XS.iload X147.here hx rfl (hb hby at_72) rfl k)
              have G168 : own_Go p.tables e below (s₁.setTop (entryFrame m #[(.int p0), (.int p1), (.int p2)] maxLocals)) (T147.setTop (mkF m 75 #[.val (.int p0), .val (.int p1), .val (.int p2), .val (.int z7), .val (.ref a4), .val (.int (256 : Int32)), .val (.int z155), .unset, .unset] [(.int p1), (.int (256 : Int32))])) := fun t k => G167 t (XS.iloadN X147.here hx rfl (hb hby at_74) rfl k)
              have G169 : own_Go p.tables e below (s₁.setTop (entryFrame m #[(.int p0), (.int p1), (.int p2)] maxLocals)) (T147.setTop (mkF m 77 #[.val (.int p0), .val (.int p1), .val (.int p2), .val (.int z7), .val (.ref a4), .val (.int (256 : Int32)), .val (.int z155), .unset, .unset] [(.int (8 : Int32)), (.int p1), (.int (256 : Int32))])) := fun t k => G168 t (XT.bipushV X147.here hx rfl (8 : Int32) (hb hby at_75) (by decide) k)
              have G170 : own_Go p.tables e below (s₁.setTop (entryFrame m #[(.int p0), (.int p1), (.int p2)] maxLocals)) (T147.setTop (mkF m 78 #[.val (.int p0), .val (.int p1), .val (.int p2), .val (.int z7), .val (.ref a4), .val (.int (256 : Int32)), .val (.int z155), .unset, .unset] [(.int (p1 % (8 : Int32))), (.int (256 : Int32))])) := fun t k => G169 t (iremM X147 hx rfl (hb hby at_77) rfl (by decide) k)
              have G171 : own_Go p.tables e below (s₁.setTop (entryFrame m #[(.int p0), (.int p1), (.int p2)] maxLocals)) (T147.setTop (mkF m 79 #[.val (.int p0), .val (.int p1), .val (.int p2), .val (.int z7), .val (.ref a4), .val (.int (256 : Int32)), .val (.int z155), .unset, .unset] [(.int ((256 : Int32) + (p1 % (8 : Int32))))])) := fun t k => G170 t (XS.iadd X147.here hx rfl (hb hby at_78) rfl k)
              have G172 : own_Go p.tables e below (s₁.setTop (entryFrame m #[(.int p0), (.int p1), (.int p2)] maxLocals)) (T147.setTop (mkF m 81 #[.val (.int p0), .val (.int p1), .val (.int p2), .val (.int z7), .val (.ref a4), .val (.int (256 : Int32)), .val (.int z155), .val (.int ((256 : Int32) + (p1 % (8 : Int32)))), .unset] [])) := fun t k => G171 t (XS.istore X147.here hx rfl (hb hby at_79) rfl (l' := #[.val (.int p0), .val (.int p1), .val (.int p2), .val (.int z7), .val (.ref a4), .val (.int (256 : Int32)), .val (.int z155), .val (.int ((256 : Int32) + (p1 % (8 : Int32)))), .unset]) rfl k)
              have G173 : own_Go p.tables e below (s₁.setTop (entryFrame m #[(.int p0), (.int p1), (.int p2)] maxLocals)) (T147.setTop (mkF m 103 #[.val (.int p0), .val (.int p1), .val (.int p2), .val (.int z7), .val (.ref a4), .val (.int (256 : Int32)), .val (.int z155), .val (.int ((256 : Int32) + (p1 % (8 : Int32)))), .unset] [])) := fun t k => G172 t (XS.goto X147.here hx rfl (pc0 := 81) (pc' := 103) rfl (hb hby at_81) (by decide) (by decide) k)
              exact ⟨_, (if_pos hc165).symm, G173⟩
            · have G174 : own_Go p.tables e below (s₁.setTop (entryFrame m #[(.int p0), (.int p1), (.int p2)] maxLocals)) (T147.setTop (mkF m 84 #[.val (.int p0), .val (.int p1), .val (.int p2), .val (.int z7), .val (.ref a4), .val (.int (256 : Int32)), .val (.int z155), .unset, .unset] [])) := fun t k => G164 t (XS.icmpYes X147.here hx rfl (pc0 := 69) (pc' := 84) rfl (hb hby at_69) rfl (feq hc165).2 (by decide) (by decide) k)
              have G175 : own_Go p.tables e below (s₁.setTop (entryFrame m #[(.int p0), (.int p1), (.int p2)] maxLocals)) (T147.setTop (mkF m 86 #[.val (.int p0), .val (.int p1), .val (.int p2), .val (.int z7), .val (.ref a4), .val (.int (256 : Int32)), .val (.int z155), .unset, .unset] [(.int z155)])) := fun t k => G174 t (XS.iload X147.here hx rfl (hb hby at_84) rfl k)
              have G176 : own_Go p.tables e below (s₁.setTop (entryFrame m #[(.int p0), (.int p1), (.int p2)] maxLocals)) (T147.setTop (mkF m 87 #[.val (.int p0), .val (.int p1), .val (.int p2), .val (.int z7), .val (.ref a4), .val (.int (256 : Int32)), .val (.int z155), .unset, .unset] [(.int (2 : Int32)), (.int z155)])) := fun t k => G175 t (XT.iconstV X147.here hx rfl (2 : Int32) (hb hby at_86) (by decide) k)
              obtain ⟨z177_0, rfl, G177⟩ : ∃ (z177_0 : Int32), z177_0 = (if z155 = (2 : Int32) then (p1 % (8 : Int32)) else (-p1)) ∧ own_Go p.tables e below (s₁.setTop (entryFrame m #[(.int p0), (.int p1), (.int p2)] maxLocals)) (T147.setTop (mkF m 103 #[.val (.int p0), .val (.int p1), .val (.int p2), .val (.int z7), .val (.ref a4), .val (.int (256 : Int32)), .val (.int z155), .val (.int z177_0), .unset] [])) := by
                by_cases hc177 : z155 = (2 : Int32)
                · have G178 : own_Go p.tables e below (s₁.setTop (entryFrame m #[(.int p0), (.int p1), (.int p2)] maxLocals)) (T147.setTop (mkF m 90 #[.val (.int p0), .val (.int p1), .val (.int p2), .val (.int z7), .val (.ref a4), .val (.int (256 : Int32)), .val (.int z155), .unset, .unset] [])) := fun t k => G176 t (XS.icmpNo X147.here hx rfl (hb hby at_87) rfl (teq hc177).2 k)
                  have G179 : own_Go p.tables e below (s₁.setTop (entryFrame m #[(.int p0), (.int p1), (.int p2)] maxLocals)) (T147.setTop (mkF m 91 #[.val (.int p0), .val (.int p1), .val (.int p2), .val (.int z7), .val (.ref a4), .val (.int (256 : Int32)), .val (.int z155), .unset, .unset] [(.int p1)])) := fun t k => G178 t (XS.iloadN X147.here hx rfl (hb hby at_90) rfl k)
                  have G180 : own_Go p.tables e below (s₁.setTop (entryFrame m #[(.int p0), (.int p1), (.int p2)] maxLocals)) (T147.setTop (mkF m 93 #[.val (.int p0), .val (.int p1), .val (.int p2), .val (.int z7), .val (.ref a4), .val (.int (256 : Int32)), .val (.int z155), .unset, .unset] [(.int (8 : Int32)), (.int p1)])) := fun t k => G179 t (XT.bipushV X147.here hx rfl (8 : Int32) (hb hby at_91) (by decide) k)
                  have G181 : own_Go p.tables e below (s₁.setTop (entryFrame m #[(.int p0), (.int p1), (.int p2)] maxLocals)) (T147.setTop (mkF m 94 #[.val (.int p0), .val (.int p1), .val (.int p2), .val (.int z7), .val (.ref a4), .val (.int (256 : Int32)), .val (.int z155), .unset, .unset] [(.int (p1 % (8 : Int32)))])) := fun t k => G180 t (iremM X147 hx rfl (hb hby at_93) rfl (by decide) k)
                  have G182 : own_Go p.tables e below (s₁.setTop (entryFrame m #[(.int p0), (.int p1), (.int p2)] maxLocals)) (T147.setTop (mkF m 96 #[.val (.int p0), .val (.int p1), .val (.int p2), .val (.int z7), .val (.ref a4), .val (.int (256 : Int32)), .val (.int z155), .val (.int (p1 % (8 : Int32))), .unset] [])) := fun t k => G181 t (XS.istore X147.here hx rfl (hb hby at_94) rfl (l' := #[.val (.int p0), .val (.int p1), .val (.int p2), .val (.int z7), .val (.ref a4), .val (.int (256 : Int32)), .val (.int z155), .val (.int (p1 % (8 : Int32))), .unset]) rfl k)
                  have G183 : own_Go p.tables e below (s₁.setTop (entryFrame m #[(.int p0), (.int p1), (.int p2)] maxLocals)) (T147.setTop (mkF m 103 #[.val (.int p0), .val (.int p1), .val (.int p2), .val (.int z7), .val (.ref a4), .val (.int (256 : Int32)), .val (.int z155), .val (.int (p1 % (8 : Int32))), .unset] [])) := fun t k => G182 t (XS.goto X147.here hx rfl (pc0 := 96) (pc' := 103) rfl (hb hby at_96) (by decide) (by decide) k)
                  exact ⟨_, (if_pos hc177).symm, G183⟩
                · have G184 : own_Go p.tables e below (s₁.setTop (entryFrame m #[(.int p0), (.int p1), (.int p2)] maxLocals)) (T147.setTop (mkF m 99 #[.val (.int p0), .val (.int p1), .val (.int p2), .val (.int z7), .val (.ref a4), .val (.int (256 : Int32)), .val (.int z155), .unset, .unset] [])) := fun t k => G176 t (XS.icmpYes X147.here hx rfl (pc0 := 87) (pc' := 99) rfl (hb hby at_87) rfl (feq hc177).2 (by decide) (by decide) k)
                  have G185 : own_Go p.tables e below (s₁.setTop (entryFrame m #[(.int p0), (.int p1), (.int p2)] maxLocals)) (T147.setTop (mkF m 100 #[.val (.int p0), .val (.int p1), .val (.int p2), .val (.int z7), .val (.ref a4), .val (.int (256 : Int32)), .val (.int z155), .unset, .unset] [(.int p1)])) := fun t k => G184 t (XS.iloadN X147.here hx rfl (hb hby at_99) rfl k)
                  have G186 : own_Go p.tables e below (s₁.setTop (entryFrame m #[(.int p0), (.int p1), (.int p2)] maxLocals)) (T147.setTop (mkF m 101 #[.val (.int p0), .val (.int p1), .val (.int p2), .val (.int z7), .val (.ref a4), .val (.int (256 : Int32)), .val (.int z155), .unset, .unset] [(.int (-p1))])) := fun t k => G185 t (XS.ineg X147.here hx rfl (hb hby at_100) rfl k)
                  have G187 : own_Go p.tables e below (s₁.setTop (entryFrame m #[(.int p0), (.int p1), (.int p2)] maxLocals)) (T147.setTop (mkF m 103 #[.val (.int p0), .val (.int p1), .val (.int p2), .val (.int z7), .val (.ref a4), .val (.int (256 : Int32)), .val (.int z155), .val (.int (-p1)), .unset] [])) := fun t k => G186 t (XS.istore X147.here hx rfl (hb hby at_101) rfl (l' := #[.val (.int p0), .val (.int p1), .val (.int p2), .val (.int z7), .val (.ref a4), .val (.int (256 : Int32)), .val (.int z155), .val (.int (-p1)), .unset]) rfl k)
                  exact ⟨_, (if_neg hc177).symm, G187⟩
              exact ⟨_, (if_neg hc165).symm, G177⟩
          exact ⟨_, (if_neg hc157).symm, G165⟩
      have G188 : own_Go p.tables e below (s₁.setTop (entryFrame m #[(.int p0), (.int p1), (.int p2)] maxLocals)) (T147.setTop (mkF m 105 #[.val (.int p0), .val (.int p1), .val (.int p2), .val (.int z7), .val (.ref a4), .val (.int (256 : Int32)), .val (.int z155), .val (.int z157_0), .unset] [(.int z157_0)])) := fun t k => G157 t (XS.iload X147.here hx rfl (hb hby at_103) rfl k)
      obtain ⟨z189_0, hz189_0, G189⟩ : ∃ (z189_0 : Int32), z189_0 = (if z157_0 < (0 : Int32) then (0 : Int32) else (if z157_0 < (256 : Int32) then (1 : Int32) else (0 : Int32))) ∧ own_Go p.tables e below (s₁.setTop (entryFrame m #[(.int p0), (.int p1), (.int p2)] maxLocals)) (T147.setTop (mkF m 120 #[.val (.int p0), .val (.int p1), .val (.int p2), .val (.int z7), .val (.ref a4), .val (.int (256 : Int32)), .val (.int z155), .val (.int z157_0), .unset] [(.int z189_0)])) := by
        by_cases hc189 : z157_0 < (0 : Int32)
        · have G190 : own_Go p.tables e below (s₁.setTop (entryFrame m #[(.int p0), (.int p1), (.int p2)] maxLocals)) (T147.setTop (mkF m 119 #[.val (.int p0), .val (.int p1), .val (.int p2), .val (.int z7), .val (.ref a4), .val (.int (256 : Int32)), .val (.int z155), .val (.int z157_0), .unset] [])) := fun t k => G188 t (XS.ifYes X147.here hx rfl (pc0 := 105) (pc' := 119) rfl (hb hby at_105) rfl ((if0 _ _).trans (tlt hc189).1) (by decide) (by decide) k)
          have G191 : own_Go p.tables e below (s₁.setTop (entryFrame m #[(.int p0), (.int p1), (.int p2)] maxLocals)) (T147.setTop (mkF m 120 #[.val (.int p0), .val (.int p1), .val (.int p2), .val (.int z7), .val (.ref a4), .val (.int (256 : Int32)), .val (.int z155), .val (.int z157_0), .unset] [(.int (0 : Int32))])) := fun t k => G190 t (XT.iconstV X147.here hx rfl (0 : Int32) (hb hby at_119) (by decide) k)
          exact ⟨_, (if_pos hc189).symm, G191⟩
        · have G192 : own_Go p.tables e below (s₁.setTop (entryFrame m #[(.int p0), (.int p1), (.int p2)] maxLocals)) (T147.setTop (mkF m 108 #[.val (.int p0), .val (.int p1), .val (.int p2), .val (.int z7), .val (.ref a4), .val (.int (256 : Int32)), .val (.int z155), .val (.int z157_0), .unset] [])) := fun t k => G188 t (XS.ifNo X147.here hx rfl (hb hby at_105) rfl ((if0 _ _).trans (flt hc189).1) k)
          have G193 : own_Go p.tables e below (s₁.setTop (entryFrame m #[(.int p0), (.int p1), (.int p2)] maxLocals)) (T147.setTop (mkF m 110 #[.val (.int p0), .val (.int p1), .val (.int p2), .val (.int z7), .val (.ref a4), .val (.int (256 : Int32)), .val (.int z155), .val (.int z157_0), .unset] [(.int z157_0)])) := fun t k => G192 t (XS.iload X147.here hx rfl (hb hby at_108) rfl k)
          have G194 : own_Go p.tables e below (s₁.setTop (entryFrame m #[(.int p0), (.int p1), (.int p2)] maxLocals)) (T147.setTop (mkF m 112 #[.val (.int p0), .val (.int p1), .val (.int p2), .val (.int z7), .val (.ref a4), .val (.int (256 : Int32)), .val (.int z155), .val (.int z157_0), .unset] [(.int (256 : Int32)), (.int z157_0)])) := fun t k => G193 t (XS.iload X147.here hx rfl (hb hby at_110) rfl k)
          obtain ⟨z195_0, rfl, G195⟩ : ∃ (z195_0 : Int32), z195_0 = (if z157_0 < (256 : Int32) then (1 : Int32) else (0 : Int32)) ∧ own_Go p.tables e below (s₁.setTop (entryFrame m #[(.int p0), (.int p1), (.int p2)] maxLocals)) (T147.setTop (mkF m 120 #[.val (.int p0), .val (.int p1), .val (.int p2), .val (.int z7), .val (.ref a4), .val (.int (256 : Int32)), .val (.int z155), .val (.int z157_0), .unset] [(.int z195_0)])) := by
            by_cases hc195 : z157_0 < (256 : Int32)
            · have G196 : own_Go p.tables e below (s₁.setTop (entryFrame m #[(.int p0), (.int p1), (.int p2)] maxLocals)) (T147.setTop (mkF m 115 #[.val (.int p0), .val (.int p1), .val (.int p2), .val (.int z7), .val (.ref a4), .val (.int (256 : Int32)), .val (.int z155), .val (.int z157_0), .unset] [])) := fun t k => G194 t (XS.icmpNo X147.here hx rfl (hb hby at_112) rfl (tlt hc195).2.1 k)
              have G197 : own_Go p.tables e below (s₁.setTop (entryFrame m #[(.int p0), (.int p1), (.int p2)] maxLocals)) (T147.setTop (mkF m 116 #[.val (.int p0), .val (.int p1), .val (.int p2), .val (.int z7), .val (.ref a4), .val (.int (256 : Int32)), .val (.int z155), .val (.int z157_0), .unset] [(.int (1 : Int32))])) := fun t k => G196 t (XT.iconstV X147.here hx rfl (1 : Int32) (hb hby at_115) (by decide) k)
              have G198 : own_Go p.tables e below (s₁.setTop (entryFrame m #[(.int p0), (.int p1), (.int p2)] maxLocals)) (T147.setTop (mkF m 120 #[.val (.int p0), .val (.int p1), .val (.int p2), .val (.int z7), .val (.ref a4), .val (.int (256 : Int32)), .val (.int z155), .val (.int z157_0), .unset] [(.int (1 : Int32))])) := fun t k => G197 t (XS.goto X147.here hx rfl (pc0 := 116) (pc' := 120) rfl (hb hby at_116) (by decide) (by decide) k)
              exact ⟨_, (if_pos hc195).symm, G198⟩
            · have G199 : own_Go p.tables e below (s₁.setTop (entryFrame m #[(.int p0), (.int p1), (.int p2)] maxLocals)) (T147.setTop (mkF m 119 #[.val (.int p0), .val (.int p1), .val (.int p2), .val (.int z7), .val (.ref a4), .val (.int (256 : Int32)), .val (.int z155), .val (.int z157_0), .unset] [])) := fun t k => G194 t (XS.icmpYes X147.here hx rfl (pc0 := 112) (pc' := 119) rfl (hb hby at_112) rfl (flt hc195).2.1 (by decide) (by decide) k)
              have G200 : own_Go p.tables e below (s₁.setTop (entryFrame m #[(.int p0), (.int p1), (.int p2)] maxLocals)) (T147.setTop (mkF m 120 #[.val (.int p0), .val (.int p1), .val (.int p2), .val (.int z7), .val (.ref a4), .val (.int (256 : Int32)), .val (.int z155), .val (.int z157_0), .unset] [(.int (0 : Int32))])) := fun t k => G199 t (XT.iconstV X147.here hx rfl (0 : Int32) (hb hby at_119) (by decide) k)
              exact ⟨_, (if_neg hc195).symm, G200⟩
          exact ⟨_, (if_neg hc189).symm, G195⟩
      have G201 : own_Go p.tables e below (s₁.setTop (entryFrame m #[(.int p0), (.int p1), (.int p2)] maxLocals)) (T147.setTop (mkF m 122 #[.val (.int p0), .val (.int p1), .val (.int p2), .val (.int z7), .val (.ref a4), .val (.int (256 : Int32)), .val (.int z155), .val (.int z157_0), .val (.int z189_0)] [])) := fun t k => G189 t (XS.istore X147.here hx rfl (hb hby at_120) rfl (l' := #[.val (.int p0), .val (.int p1), .val (.int p2), .val (.int z7), .val (.ref a4), .val (.int (256 : Int32)), .val (.int z155), .val (.int z157_0), .val (.int z189_0)]) rfl k)
      have G202 : own_Go p.tables e below (s₁.setTop (entryFrame m #[(.int p0), (.int p1), (.int p2)] maxLocals)) (T147.setTop (mkF m 124 #[.val (.int p0), .val (.int p1), .val (.int p2), .val (.int z7), .val (.ref a4), .val (.int (256 : Int32)), .val (.int z155), .val (.int z157_0), .val (.int z189_0)] [(.ref a4)])) := fun t k => G201 t (XS.aload X147.here hx rfl (hb hby at_122) rfl rfl k)
      have G203 : own_Go p.tables e below (s₁.setTop (entryFrame m #[(.int p0), (.int p1), (.int p2)] maxLocals)) (T147.setTop (mkF m 126 #[.val (.int p0), .val (.int p1), .val (.int p2), .val (.int z7), .val (.ref a4), .val (.int (256 : Int32)), .val (.int z155), .val (.int z157_0), .val (.int z189_0)] [(.int z157_0), (.ref a4)])) := fun t k => G202 t (XS.iload X147.here hx rfl (hb hby at_124) rfl k)
      obtain ⟨cq204, kq204, q204a, q204b, q204c⟩ := isOf hZ e147 E_a4
      obtain ⟨vv204, _, ⟨T204, L204, k204, n204⟩, -, X204, ⟨Lc204, hQ204, l204, y204, z204⟩, st204⟩ := X147.virtualBack hx (y := (⟨"com/example/sectorline/sectorline/card/Layout", "hasBlock", "(I)Z"⟩ : MethodName)) (z := (⟨"com/example/sectorline/sectorline/card/Layout", "hasBlock", "(I)Z"⟩ : MethodName)) hown (mvT hZ (hw _ (List.mem_of_getElem? (i := 4) rfl))) (mvT hZ (hw _ (List.mem_of_getElem? (i := 5) rfl))) (notFace_of_selects (args := #[]) (mvT hZ (hw _ (List.mem_of_getElem? (i := 7) rfl)))) (mvT hZ (hw _ (List.mem_of_getElem? (i := 7) rfl))) (mvT hZ (hw _ (List.mem_of_getElem? (i := 6) rfl))) (by decide) (backOf (W := 0) (rm1 l Z a0 hw [] a4 z157_0 (256 : Int32) h0 F_a4) hZ (hw _ (List.mem_of_getElem? (i := 8) rfl)) (hw _ (List.mem_of_getElem? (i := 2) rfl)) (by decide) (by decide)) q204a q204c (g := (mkF m 126 #[.val (.int p0), .val (.int p1), .val (.int p2), .val (.int z7), .val (.ref a4), .val (.int (256 : Int32)), .val (.int z155), .val (.int z157_0), .val (.int z189_0)] [(.int z157_0), (.ref a4)])) rfl (by rw [hml]; rfl) (Steps.refl _) (argsL := [(.int z157_0)]) (rest := []) (lenOf pd_0_0 rfl) rfl (by show 2 * 0 + _ ≤ _; exact Nat.le_of_eq rfl) (hb hby at_126) (fun _ _ => ⟨rfl, e147, (by decide : 0 + 0 ≤ _), (by decide : 0 + 0 ≤ _)⟩)
      dsimp only [Pt.U, Pt.locs, Pt.cells, Pt.slots] at X204 l204 y204 z204 st204 hQ204
      subst l204 y204 z204
      obtain ⟨rfl, rfl, e204⟩ := hQ204
      have Y204 : Stand p l e room_1 s m #[(.int p0), (.int p1), (.int p2)] below meth c T204 [] 0 0 := X204
      have G204 : own_Go p.tables e below (s₁.setTop (entryFrame m #[(.int p0), (.int p1), (.int p2)] maxLocals)) (T204.setTop (mkF m 129 #[.val (.int p0), .val (.int p1), .val (.int p2), .val (.int z7), .val (.ref a4), .val (.int (256 : Int32)), .val (.int z155), .val (.int z157_0), .val (.int z189_0)] [(.int (if z157_0 < (0 : Int32) then (0 : Int32) else (if z157_0 < (256 : Int32) then (1 : Int32) else (0 : Int32))))])) := fun t k => G203 t (st204.trans k)
      have G205 : own_Go p.tables e below (s₁.setTop (entryFrame m #[(.int p0), (.int p1), (.int p2)] maxLocals)) (T204.setTop (mkF m 131 #[.val (.int p0), .val (.int p1), .val (.int p2), .val (.int z7), .val (.ref a4), .val (.int (256 : Int32)), .val (.int z155), .val (.int z157_0), .val (.int z189_0)] [(.int z189_0), (.int (if z157_0 < (0 : Int32) then (0 : Int32) else (if z157_0 < (256 : Int32) then (1 : Int32) else (0 : Int32))))])) := fun t k => G204 t (XS.iload Y204.here hx rfl (hb hby at_129) rfl k)
      have hk206 : (if z157_0 < (0 : Int32) then (0 : Int32) else (if z157_0 < (256 : Int32) then (1 : Int32) else (0 : Int32))) = z189_0 := hz189_0.symm
      have G207 : own_Go p.tables e below (s₁.setTop (entryFrame m #[(.int p0), (.int p1), (.int p2)] maxLocals)) (T204.setTop (mkF m 134 #[.val (.int p0), .val (.int p1), .val (.int p2), .val (.int z7), .val (.ref a4), .val (.int (256 : Int32)), .val (.int z155), .val (.int z157_0), .val (.int z189_0)] [])) := fun t k => G205 t (XS.icmpNo Y204.here hx rfl (hb hby at_131) rfl (teq hk206).2 k)
      have G208 : own_Go p.tables e below (s₁.setTop (entryFrame m #[(.int p0), (.int p1), (.int p2)] maxLocals)) (T204.setTop (mkF m 135 #[.val (.int p0), .val (.int p1), .val (.int p2), .val (.int z7), .val (.ref a4), .val (.int (256 : Int32)), .val (.int z155), .val (.int z157_0), .val (.int z189_0)] [(.int (1 : Int32))])) := fun t k => G207 t (XT.iconstV Y204.here hx rfl (1 : Int32) (hb hby at_134) (by decide) k)
      have G209 : own_Go p.tables e below (s₁.setTop (entryFrame m #[(.int p0), (.int p1), (.int p2)] maxLocals)) (T204.setTop (mkF m 139 #[.val (.int p0), .val (.int p1), .val (.int p2), .val (.int z7), .val (.ref a4), .val (.int (256 : Int32)), .val (.int z155), .val (.int z157_0), .val (.int z189_0)] [(.int (1 : Int32))])) := fun t k => G208 t (XS.goto Y204.here hx rfl (pc0 := 135) (pc' := 139) rfl (hb hby at_135) (by decide) (by decide) k)
      obtain ⟨fs, hr, hrun, hended, hW, hsame⟩ := Y204.leave (v := some (.int (nar .boolean (1 : Int32)))) (fun h => by rw [Bd.returns] at h; cases h)
      refine ⟨_, _, G209 _ ?_, hrun, hended, _, _, rfl, ?_, ⟨_, rfl⟩, hW, hsame.mono (by decide) (by decide)⟩
      · exact retN Y204 hx (t := .boolean) Bd.returns (by simp) (hb hby at_139) hr
      · show Q0 Z p0 p1 p2 aM a1 a4 h0 _ T204.heap _
        rw [e204]
        exact ⟨rfl, rfl, rfl⟩
set_option maxRecDepth 65536 in
set_option maxHeartbeats 40000000 in
theorem comes_1 {Post : Tables → Env → Array Value → State → Outcome → State → Prop} (hpost : ∀ tb e args s v u, (limb_1_1.after args s (.returned v) u = true ∧ limb_1_2.after args s (.returned v) u = true ∧ True) → FrameEnd s (.returned v) u (Jvm.fieldLocs frame_1_writes args s ++ Jvm.arrayLocs frame_1_arrays args s ++ Jvm.staticLocs frame_1_statics s) 0 0 → Post tb e args s (.returned v) u) :
    ArmFor flags0 classFile x code maxLocals ret World_1 tables_1 room_1 Calls_1 rest_1 Pre_1 Post := by
  intro l hfl _ _ p e ha hc hk s m args below hf hA hF happ hP
  obtain ⟨hcalls, hrest, hpre⟩ := hP
  obtain ⟨-, -, -, hnamed, -, -, -, hat⟩ := (Spec.applies_iff hf).mp happ
  obtain ⟨hg, hn⟩ := and_e (Cond.before_iff.mp (show (Jvm.Cond.and given_1 narrow_1).before args s = true from hpre))
  obtain ⟨ga1, gb1⟩ := and_e hg
  obtain ⟨ga2, gb2⟩ := and_e gb1
  obtain ⟨ga3, gb3⟩ := and_e gb2
  obtain ⟨w0, w1, w2, rfl⟩ : ∃ w0 w1 w2 : Value, args = #[w0, w1, w2] := by
    have hs : args.size = 3 := by simpa [Cond.value, given_1] using ga1
    obtain ⟨L⟩ := args
    match L, hs with
    | [w0, w1, w2], _ => exact ⟨w0, w1, w2, rfl⟩
  have hw := fun d (hd : d ∈ tables_1) => atoms_spec (ws := Jvm.Cond.code x code maxLocals ret :: tables_1) hat d (List.mem_cons_of_mem _ hd)
  have hfit : Fit s := fun {y c} hc i hi => by
    obtain ⟨ha, rfl⟩ := Array.getElem?_eq_some_iff.mp hc
    have q := List.all_eq_true.mp ((Array.all_eq_true_iff_forall_mem.mp hF) _ (Array.getElem_mem ha)) i (List.mem_range.mpr hi)
    simpa [Array.getElem?_eq_getElem hi] using q
  obtain ⟨i0, ei0⟩ := is_v ga2
  obtain rfl : w0 = (.int i0) := Option.some.inj ei0
  obtain ⟨i1, ei1⟩ := is_v ga3
  obtain rfl : w1 = (.int i1) := Option.some.inj ei1
  obtain ⟨i2, ei2⟩ := is_v gb3
  obtain rfl : w2 = (.int i2) := Option.some.inj ei2
  obtain ⟨ga101, gb101⟩ := and_e hn
  obtain ⟨ga102, gb102⟩ := and_e gb101
  obtain ⟨ga103, gb103⟩ := and_e gb102
  obtain ⟨ga104, gb104⟩ := and_e gb103
  obtain ⟨ga105, gb105⟩ := and_e gb104
  obtain ⟨a_MINI, ev_MINI⟩ := exa_v ga101
  have S_MINI : Sta s s.heap "com/example/sectorline/sectorline/card/Layout" "MINI" "Lcom/example/sectorline/sectorline/card/Layout;" (.ref a_MINI) := Sta.start ev_MINI (Or.inr ⟨(hw _ (List.mem_of_getElem? (i := 2) rfl)), (hw _ (List.mem_of_getElem? (i := 3) rfl))⟩)
  have E_MINI : Exa s s.heap a_MINI "com/example/sectorline/sectorline/card/Layout" := Exa.start ev_MINI ga101
  obtain ⟨a_CLASSIC_1K, ev_CLASSIC_1K⟩ := exa_v ga103
  have S_CLASSIC_1K : Sta s s.heap "com/example/sectorline/sectorline/card/Layout" "CLASSIC_1K" "Lcom/example/sectorline/sectorline/card/Layout;" (.ref a_CLASSIC_1K) := Sta.start ev_CLASSIC_1K (Or.inr ⟨(hw _ (List.mem_of_getElem? (i := 2) rfl)), (hw _ (List.mem_of_getElem? (i := 12) rfl))⟩)
  have E_CLASSIC_1K : Exa s s.heap a_CLASSIC_1K "com/example/sectorline/sectorline/card/Layout" := Exa.start ev_CLASSIC_1K ga103
  obtain ⟨a_CLASSIC_4K, ev_CLASSIC_4K⟩ := exa_v ga104
  have S_CLASSIC_4K : Sta s s.heap "com/example/sectorline/sectorline/card/Layout" "CLASSIC_4K" "Lcom/example/sectorline/sectorline/card/Layout;" (.ref a_CLASSIC_4K) := Sta.start ev_CLASSIC_4K (Or.inr ⟨(hw _ (List.mem_of_getElem? (i := 2) rfl)), (hw _ (List.mem_of_getElem? (i := 14) rfl))⟩)
  have E_CLASSIC_4K : Exa s s.heap a_CLASSIC_4K "com/example/sectorline/sectorline/card/Layout" := Exa.start ev_CLASSIC_4K ga104
  have F_MINI_blockCount : Fld s s.heap a_MINI "com/example/sectorline/sectorline/card/Layout" "blockCount" "I" (.int (20 : Int32)) := own_fld ev_MINI (own_eqI ga102)
  have F_CLASSIC_4K_blockCount : Fld s s.heap a_CLASSIC_4K "com/example/sectorline/sectorline/card/Layout" "blockCount" "I" (.int (256 : Int32)) := own_fld ev_CLASSIC_4K (own_eqI ga105)
  have F_CLASSIC_1K_blockCount : Fld s s.heap a_CLASSIC_1K "com/example/sectorline/sectorline/card/Layout" "blockCount" "I" (.int (64 : Int32)) := own_fld ev_CLASSIC_1K (own_eqI gb105)
  obtain ⟨n, o, h1, h2, h3, _, L, rfl, ⟨rfl, rfl, -⟩, hq⟩ := rm0 l s _ hw tables_1 i0 i1 i2 a_MINI a_CLASSIC_1K a_CLASSIC_4K s.heap S_MINI E_MINI F_MINI_blockCount S_CLASSIC_1K E_CLASSIC_1K F_CLASSIC_1K_blockCount S_CLASSIC_4K E_CLASSIC_4K F_CLASSIC_4K_blockCount p e ha hc hk s m _ below hf ((Spec.applies_iff_loose hf).mp happ).1 ⟨rfl, State.Warmed39.refl s, rfl⟩ trivial
  refine ⟨n, _, h1, h2, h3, hpost _ _ _ _ _ _ ⟨Cond.after_iff.mpr rfl, Cond.after_iff.mpr (eq_i res_at (Term.int_eval (1)) rfl), trivial⟩ ⟨hq.1, hq.2.1, (hq.2.2.sift fun y hy => nomatch hy).mono (by decide) (by decide)⟩⟩
theorem main_1_1 : Claimed_1_1 := comes_1 fun _ _ _ _ _ _ h hF => ⟨h.1, hF⟩
theorem main_1_2 : Claimed_1_2 := comes_1 fun _ _ _ _ _ _ h hF => ⟨h.2.1, hF⟩
end Jvm.Pilot.@@N@@
namespace Jvm.Pilot.@@N@@
open Jvm Jvm.ClassFile Sem Op Lib Jvm.Free Jvm.Stand Jvm.Pilot.@@N@@.Jvm.D
/-! MADE BY PROGRAM (witnessworld.py) out of the Statement's table words and the real class files: 12 classes; the members and pool entries that the words name. The judged class is class 1, her method 1. -/
namespace start1
open Jvm.ClassFile
def u (s : String) : CpInfo := .utf8 (stringToUtf16 s)
/-- a pool by its gaps: so many unusable entries, then the entry; so many at the end -/
def gap : Nat → List CpInfo → List CpInfo
  | 0, r => r
  | n + 1, r => .unusable :: gap n r
def poolList (es : List (Nat × CpInfo)) (last : Nat) : List CpInfo := es.foldr (fun e r => gap e.1 (e.2 :: r)) (gap last [])
def pool (es : List (Nat × CpInfo)) (last : Nat) : Array CpInfo := ⟨poolList es last⟩
def fileOf (pool : Array CpInfo) (this : Nat) (attrs : Array Attribute := #[]) (ms : Array MethodInfo := #[]) (fl : Nat := 33) (sup : Nat := 0) (ifs : Array Nat := #[]) (fds : Array FieldInfo := #[]) : ClassFile where
  minorVersion := 0
  majorVersion := 65
  constantPool := pool
  accessFlags := fl
  thisClass := this
  superClass := sup
  interfaces := ifs
  fields := fds
  methods := ms
  attributes := attrs
def plain (name : String) (sup : Option ClassId) : Class where
  name := name
  kind := .ordinary
  loader := none
  accessFlags := 33
  super := sup
  interfaces := #[]
  cf := none
  fields := #[]
  methods := #[]
  instanceTypes := #[]
  staticTypes := #[]
  resolved := #[]
  callSites := []
  init := .initialized
  statics := none
  mirror := none

def pool0 : Array CpInfo := pool [(5, u "<init>"), (0, u "()V"), (1, .class_ 10), (1, u "java/lang/Object")] 113

def k0m0 : Method := { name := "<init>", desc := "()V", sig := { parameters := [], returnType := none }, accessFlags := 1, code := none }
/-- java/lang/Object -/
def k0 : Class := { plain "java/lang/Object" none with
  accessFlags := 33
  interfaces := #[]
  cf := some (fileOf pool0 8 #[] #[{ accessFlags := 1, nameIndex := 5, descriptorIndex := 6, attributes := #[] }] 33 0 #[] #[])
  fields := #[]
  methods := #[k0m0]
  instanceTypes := #[]
  staticTypes := #[]
  resolved := Array.replicate 124 none
  statics := none }

def pool1 : Array CpInfo := pool [(2, .class_ 4), (1, u "java/lang/Object"), (0, u "<init>"), (0, u "()V"), (0, .integer 2147483647), (0, .fieldref 9 10), (0, .class_ 11), (0, .nameAndType 12 13), (0, u "com/example/sectorline/sectorline/card/Layout"), (0, u "MINI"), (0, u "Lcom/example/sectorline/sectorline/card/Layout;"), (0, .fieldref 9 15), (0, .nameAndType 16 13), (0, u "CLASSIC_1K"), (0, .fieldref 9 18), (0, .nameAndType 19 13), (0, u "CLASSIC_4K"), (0, .methodref 9 21), (0, .nameAndType 22 23), (0, u "hasBlock"), (0, u "(I)Z"), (0, .class_ 25), (0, u "com/example/sectorline/sectorline/card/LayoutHasBlockPinLaw"), (2, u "law"), (0, u "(III)Z")] 3

def k1m0 : Method := { name := "<init>", desc := "()V", sig := { parameters := [], returnType := none }, accessFlags := 1, code := none }
def k1c1 : Code := { maxStack := 3, maxLocals := 9, code := code, exceptionTable := #[], attributes := #[] }
def k1m1 : Method := { name := "law", desc := "(III)Z", sig := { parameters := [.int, .int, .int], returnType := some .boolean }, accessFlags := 9, code := some k1c1 }
/-- com/example/sectorline/sectorline/card/LayoutHasBlockPinLaw -/
def k1 : Class := { plain "com/example/sectorline/sectorline/card/LayoutHasBlockPinLaw" (some 0) with
  accessFlags := 49
  interfaces := #[]
  cf := some (fileOf pool1 24 #[] #[{ accessFlags := 1, nameIndex := 5, descriptorIndex := 6, attributes := #[] }, { accessFlags := 9, nameIndex := 28, descriptorIndex := 29, attributes := #[] }] 49 2 #[] #[])
  fields := #[]
  methods := #[k1m0, k1m1]
  instanceTypes := #[]
  staticTypes := #[]
  resolved := Array.replicate 33 none
  statics := none }

def pool2 : Array CpInfo := pool [(1, .class_ 2), (0, u "java/lang/constant/Constable"), (0, .class_ 4), (0, u "java/lang/Object")] 6

/-- java/lang/constant/Constable -/
def k2 : Class := { plain "java/lang/constant/Constable" (some 0) with
  accessFlags := 1537
  interfaces := #[]
  cf := some (fileOf pool2 1 #[] #[] 1537 3 #[] #[])
  fields := #[]
  methods := #[]
  instanceTypes := #[]
  staticTypes := #[]
  resolved := Array.replicate 11 none
  statics := none }

def pool3 : Array CpInfo := pool [(1, .class_ 2), (0, u "java/lang/Comparable"), (0, .class_ 4), (0, u "java/lang/Object")] 7

/-- java/lang/Comparable -/
def k3 : Class := { plain "java/lang/Comparable" (some 0) with
  accessFlags := 1537
  interfaces := #[]
  cf := some (fileOf pool3 1 #[] #[] 1537 3 #[] #[])
  fields := #[]
  methods := #[]
  instanceTypes := #[]
  staticTypes := #[]
  resolved := Array.replicate 12 none
  statics := none }

def pool4 : Array CpInfo := pool [(1, .class_ 2), (0, u "java/io/Serializable"), (0, .class_ 4), (0, u "java/lang/Object")] 2

/-- java/io/Serializable -/
def k4 : Class := { plain "java/io/Serializable" (some 0) with
  accessFlags := 1537
  interfaces := #[]
  cf := some (fileOf pool4 1 #[] #[] 1537 3 #[] #[])
  fields := #[]
  methods := #[]
  instanceTypes := #[]
  staticTypes := #[]
  resolved := Array.replicate 7 none
  statics := none }

def pool5 : Array CpInfo := pool [(2, .class_ 4), (1, u "java/lang/Enum"), (0, u "name"), (0, u "Ljava/lang/String;"), (2, u "ordinal"), (0, u "I"), (1, .class_ 14), (1, u "java/lang/Object"), (4, u "hash"), (86, .class_ 108), (1, u "java/lang/Enum$EnumDesc"), (2, .class_ 112), (0, u "java/lang/constant/Constable"), (0, .class_ 114), (0, u "java/lang/Comparable"), (0, .class_ 116), (0, u "java/io/Serializable")] 87

/-- java/lang/Enum -/
def k5 : Class := { plain "java/lang/Enum" (some 0) with
  accessFlags := 1057
  interfaces := #[2, 3, 4]
  cf := some (fileOf pool5 2 #[.nestMembers #[106]] #[] 1057 12 #[111, 113, 115] #[{ accessFlags := 18, nameIndex := 5, descriptorIndex := 6, attributes := #[] }, { accessFlags := 18, nameIndex := 9, descriptorIndex := 10, attributes := #[] }, { accessFlags := 2, nameIndex := 19, descriptorIndex := 10, attributes := #[] }])
  fields := #[{ name := "name", type := (.object "java/lang/String"), accessFlags := 18, slot := 0, constantValue := 0 }, { name := "ordinal", type := .int, accessFlags := 18, slot := 1, constantValue := 0 }, { name := "hash", type := .int, accessFlags := 2, slot := 2, constantValue := 0 }]
  methods := #[]
  instanceTypes := #[(.object "java/lang/String"), .int, .int]
  staticTypes := #[]
  resolved := Array.replicate 204 none
  statics := none }

def pool6 : Array CpInfo := pool [(1, .class_ 2), (0, u "com/example/sectorline/sectorline/card/Layout"), (2, u "MINI"), (0, u "Lcom/example/sectorline/sectorline/card/Layout;"), (2, u "CLASSIC_1K"), (2, u "CLASSIC_4K"), (2, u "$VALUES"), (0, u "[Lcom/example/sectorline/sectorline/card/Layout;"), (6, .class_ 25), (1, u "java/lang/Enum"), (8, u "model"), (0, u "Ljava/lang/String;"), (2, u "sectorCount"), (0, u "I"), (4, .fieldref 1 45), (0, .nameAndType 46 39), (0, u "blockCount"), (61, u "BLOCK_SIZE"), (2, u "MANUFACTURER_BLOCK"), (1, u "ACCESS_GROUPS"), (1, u "TRAILER_GROUP"), (1, u "SMALL_SECTORS"), (1, u "SMALL_SECTOR_BLOCKS"), (0, u "LARGE_SECTOR_BLOCKS"), (12, u "(I)Z"), (0, u "hasBlock")] 25

def k6c0 : Code := { maxStack := 2, maxLocals := 2, code := prog_30_method_11_code, exceptionTable := #[], attributes := #[] }
def k6m0 : Method := { name := "hasBlock", desc := "(I)Z", sig := { parameters := [.int], returnType := some .boolean }, accessFlags := 1, code := some k6c0 }
/-- com/example/sectorline/sectorline/card/Layout -/
def k6 : Class := { plain "com/example/sectorline/sectorline/card/Layout" (some 5) with
  accessFlags := 16433
  interfaces := #[]
  cf := some (fileOf pool6 1 #[] #[{ accessFlags := 1, nameIndex := 134, descriptorIndex := 133, attributes := #[] }] 16433 23 #[] #[{ accessFlags := 16409, nameIndex := 5, descriptorIndex := 6, attributes := #[] }, { accessFlags := 16409, nameIndex := 9, descriptorIndex := 6, attributes := #[] }, { accessFlags := 16409, nameIndex := 12, descriptorIndex := 6, attributes := #[] }, { accessFlags := 25, nameIndex := 108, descriptorIndex := 39, attributes := #[] }, { accessFlags := 24, nameIndex := 111, descriptorIndex := 39, attributes := #[] }, { accessFlags := 24, nameIndex := 113, descriptorIndex := 39, attributes := #[] }, { accessFlags := 24, nameIndex := 115, descriptorIndex := 39, attributes := #[] }, { accessFlags := 26, nameIndex := 117, descriptorIndex := 39, attributes := #[] }, { accessFlags := 26, nameIndex := 119, descriptorIndex := 39, attributes := #[] }, { accessFlags := 26, nameIndex := 120, descriptorIndex := 39, attributes := #[] }, { accessFlags := 18, nameIndex := 34, descriptorIndex := 35, attributes := #[] }, { accessFlags := 18, nameIndex := 38, descriptorIndex := 39, attributes := #[] }, { accessFlags := 18, nameIndex := 46, descriptorIndex := 39, attributes := #[] }, { accessFlags := 4122, nameIndex := 15, descriptorIndex := 16, attributes := #[] }])
  fields := #[{ name := "MINI", type := (.object "com/example/sectorline/sectorline/card/Layout"), accessFlags := 16409, slot := 0, constantValue := 0 }, { name := "CLASSIC_1K", type := (.object "com/example/sectorline/sectorline/card/Layout"), accessFlags := 16409, slot := 1, constantValue := 0 }, { name := "CLASSIC_4K", type := (.object "com/example/sectorline/sectorline/card/Layout"), accessFlags := 16409, slot := 2, constantValue := 0 }, { name := "BLOCK_SIZE", type := .int, accessFlags := 25, slot := 3, constantValue := 0 }, { name := "MANUFACTURER_BLOCK", type := .int, accessFlags := 24, slot := 4, constantValue := 0 }, { name := "ACCESS_GROUPS", type := .int, accessFlags := 24, slot := 5, constantValue := 0 }, { name := "TRAILER_GROUP", type := .int, accessFlags := 24, slot := 6, constantValue := 0 }, { name := "SMALL_SECTORS", type := .int, accessFlags := 26, slot := 7, constantValue := 0 }, { name := "SMALL_SECTOR_BLOCKS", type := .int, accessFlags := 26, slot := 8, constantValue := 0 }, { name := "LARGE_SECTOR_BLOCKS", type := .int, accessFlags := 26, slot := 9, constantValue := 0 }, { name := "model", type := (.object "java/lang/String"), accessFlags := 18, slot := 3, constantValue := 0 }, { name := "sectorCount", type := .int, accessFlags := 18, slot := 4, constantValue := 0 }, { name := "blockCount", type := .int, accessFlags := 18, slot := 5, constantValue := 0 }, { name := "$VALUES", type := (.array (.object "com/example/sectorline/sectorline/card/Layout")), accessFlags := 4122, slot := 10, constantValue := 0 }]
  methods := #[k6m0]
  instanceTypes := #[(.object "java/lang/String"), .int, .int, (.object "java/lang/String"), .int, .int]
  staticTypes := #[(.object "com/example/sectorline/sectorline/card/Layout"), (.object "com/example/sectorline/sectorline/card/Layout"), (.object "com/example/sectorline/sectorline/card/Layout"), .int, .int, .int, .int, .int, .int, .int, (.array (.object "com/example/sectorline/sectorline/card/Layout"))]
  resolved := Array.replicate 160 none
  statics := some 0 }

def pool7 : Array CpInfo := pool [(1, u "java/lang/Cloneable"), (0, .class_ 1), (0, u "java/lang/Object"), (0, .class_ 3)] 3

/-- java/lang/Cloneable -/
def k7 : Class := { plain "java/lang/Cloneable" (some 0) with
  accessFlags := 1537
  interfaces := #[]
  cf := some (fileOf pool7 2 #[] #[] 1537 4 #[] #[])
  fields := #[]
  methods := #[]
  instanceTypes := #[]
  staticTypes := #[]
  resolved := Array.replicate 8 none
  statics := none }

/-- the primitive byte -/
def k8 : Class := { plain "byte" none with kind := .primitive 'B', accessFlags := 0x411 }
/-- [B -/
def k9 : Class := { plain "[B" (some 0) with kind := .array 8 .byte, interfaces := #[7, 4], accessFlags := 1041 }

/-- the primitive int -/
def k10 : Class := { plain "int" none with kind := .primitive 'I', accessFlags := 0x411 }
/-- [I -/
def k11 : Class := { plain "[I" (some 0) with kind := .array 10 .int, interfaces := #[7, 4], accessFlags := 1041 }

def heap : Heap := #[{ cls := 6, slots := #[.ref 1, .ref 2, .ref 3, .int 0, .int 0, .int 0, .int 0, .int 0, .int 0, .int 0, .null], vm := .statics 6 },
  { cls := 6, slots := #[.null, .int 0, .int 0, .null, .int 5, .int 20], vm := .none },
  { cls := 6, slots := #[.null, .int 1, .int 0, .null, .int 5, .int 64], vm := .none },
  { cls := 6, slots := #[.null, .int 2, .int 0, .null, .int 5, .int 256], vm := .none }]
def classes : Array Class := #[k0, k1, k2, k3, k4, k5, k6, k7, k8, k9, k10, k11]
def interned : List (Array UInt16 × Addr) := []
def slotsUsed : Nat := 29
def theMethod : MethodId := ⟨1, 1⟩
def args0 : Array Value := #[.int 4, .int 5, .int 6]
def aboutOver (below : List Frame) : State where
  vm := { classes := classes, interned := interned.toArray }
  heap := heap
  slotsUsed := slotsUsed
  threads := #[{ frames := .invoking theMethod args0 :: below }]
def below0 : List Frame := [.native { method := ⟨0, 0⟩, args := #[] }]
def about1 : State := aboutOver below0
def p0 : Program := .bare "" "" ""
def e0 : Env := launch0.env 0 0 0
theorem w_frames : about1.frames = Frame.invoking theMethod args0 :: below0 := rfl
set_option maxRecDepth 65536 in
theorem w_args : argsFit about1.vm theMethod args0 = true := by decide +kernel
set_option maxRecDepth 65536 in
theorem w_heap : heapFits about1 = true := by decide +kernel
set_option maxRecDepth 65536 in
theorem w_runnable : about1.curStatus? = some .runnable := by decide +kernel
set_option maxRecDepth 65536 in
theorem w_alone : about1.alone = true := by decide +kernel
set_option maxRecDepth 65536 in
theorem w_named : about1.methodNamed? x = some theMethod := by decide +kernel
set_option maxRecDepth 65536 in
theorem w_hears : about1.hears theMethod below0 = true := by decide +kernel
set_option maxRecDepth 65536 in
theorem w_ripe : about1.ripe theMethod args0 below0 = true := by decide +kernel
theorem w_running : about1.status = .running := rfl
set_option maxRecDepth 65536 in
theorem w_room : about1.hasRoom e0.platform room_1 = true :=
  launch0.hasRoom_least _ room_1 (by decide +kernel) (by decide +kernel) (by decide +kernel) (by decide +kernel) (by decide +kernel) (by decide +kernel)
theorem allAtoms_all (ts : List Jvm.Cond) (a : Array Jvm.Value) (st : Jvm.State) : (allAtoms ts).before a st = ts.all (fun c => c.before a st) := by
  induction ts with
  | nil => rfl
  | cons c t ih =>
    show (Jvm.Cond.and c (allAtoms t)).before a st = _
    rw [Jvm.Cond.before_and, ih, List.all_cons]
def words1 : List Jvm.Cond := Jvm.Cond.code x code maxLocals ret :: tables_1
/-- a 'code' word, met by the world's own term for the bytes: nothing is compared byte by byte -/
theorem code_word {y : MethodName} {bytes : ByteArray} {mx : Nat} {rt : Option FieldType} {a : Array Value} {s : State} {m : MethodId} {meth : Method} {c : Code} (h1 : s.methodNamed? y = some m) (h2 : s.vm.method? m = some meth) (h3 : meth.code = some c) (h4 : c.code = bytes)
    (h5 : (c.maxLocals == mx && c.exceptionTable.isEmpty && decide (c.maxStack ≤ mostOperands) && decide (meth.sig.returnType = rt) && !meth.locks && decide (parseMethodDescriptor y.desc = some meth.sig)) = true) : (Jvm.Cond.code y bytes mx rt).before a s = true := by
  simp only [Bool.and_eq_true, beq_iff_eq, Bool.not_eq_true', decide_eq_true_eq] at h5
  obtain ⟨⟨⟨⟨⟨g1, g2⟩, g3⟩, g4⟩, g5⟩, g6⟩ := h5
  simp [Cond.before, Cond.holds, Cond.value, h1, h2, h3, h4, g1, g2, g3, g4, g5, g6]
def isCode : Jvm.Cond → Bool
  | .code _ _ _ _ => true
  | _ => false
theorem all_split {L : List Jvm.Cond} {P : Jvm.Cond → Bool} (h1 : L.all (fun c => isCode c || P c) = true) (h2 : ∀ c ∈ L.filter isCode, P c = true) : L.all P = true := by
  refine List.all_eq_true.mpr fun c hc => ?_
  have h := List.all_eq_true.mp h1 c hc
  rcases Bool.eq_false_or_eq_true (isCode c) with hi | hi
  · exact h2 c (List.mem_filter.mpr ⟨hc, hi⟩)
  · simpa [hi] using h
set_option maxRecDepth 65536 in
theorem w_c0 : (Jvm.Cond.code x code maxLocals ret).before args0 about1 = true := code_word (m := ⟨1, 1⟩) (meth := k1m1) (c := k1c1) (by decide +kernel) rfl rfl rfl (by decide +kernel)
set_option maxRecDepth 65536 in
theorem w_c1 : (Jvm.Cond.code ({ cls := "com/example/sectorline/sectorline/card/Layout", name := "hasBlock", desc := "(I)Z" } : Jvm.MethodName) prog_30_method_11_code (2 : Nat) (Option.some Jvm.ClassFile.FieldType.boolean)).before args0 about1 = true := code_word (m := ⟨6, 0⟩) (meth := k6m0) (c := k6c0) (by decide +kernel) rfl rfl rfl (by decide +kernel)
def codes1 : List Jvm.Cond := [Jvm.Cond.code x code maxLocals ret, Jvm.Cond.code ({ cls := "com/example/sectorline/sectorline/card/Layout", name := "hasBlock", desc := "(I)Z" } : Jvm.MethodName) prog_30_method_11_code (2 : Nat) (Option.some Jvm.ClassFile.FieldType.boolean)]
set_option maxRecDepth 65536 in
theorem codes_eq : words1.filter isCode = codes1 := rfl
theorem w_codes : ∀ c ∈ words1.filter isCode, c.before args0 about1 = true := by
  rw [codes_eq]
  intro c hc
  simp only [codes1, List.mem_cons, List.not_mem_nil, or_false] at hc
  rcases hc with rfl | rfl
  · exact w_c0
  · exact w_c1
set_option maxRecDepth 65536 in
theorem w_t1 : words1.all (fun c => isCode c || c.before args0 about1) = true := by decide +kernel
theorem w_tables : (allAtoms (Jvm.Cond.code x code maxLocals ret :: tables_1)).before args0 about1 = true := by
  rw [allAtoms_all]
  show words1.all (fun c => c.before args0 about1) = true
  refine all_split ?_ w_codes
  rw [w_t1]
set_option maxRecDepth 65536 in
theorem w_case : (Jvm.Cond.and given_1 narrow_1).before args0 about1 = true := by decide +kernel
theorem w_applies : (headSpec (Jvm.Cond.code x code maxLocals ret :: tables_1) room_1).applies x e0.platform about1 = true :=
  (Spec.applies_iff w_frames).mpr ⟨w_running, w_runnable, w_alone, w_named, w_hears, w_ripe, w_room, w_tables⟩
theorem atStart : AtStart classFile x code maxLocals ret World_1 tables_1 room_1 Calls_1 rest_1 Pre_1 launch0 p0 e0 about1 theMethod args0 below0 :=
  ⟨lists_1, trivial, launch0.admits_env _ _ _, launch0.least_env, fairChoices_fair.cas, fairChoices_fair.clock, w_frames, w_args, w_heap, w_applies, trivial, trivial, w_case⟩
end start1
theorem witness_1 : WitnessClaimed_1 := ⟨start1.p0, start1.e0, start1.about1, start1.theMethod, start1.args0, start1.below0, start1.atStart⟩
end Jvm.Pilot.@@N@@
