import JvmDerived
import JvmDerived.Pilot.@@N@@Statement
import JvmDerived.Pilot.@@N@@Code
set_option linter.unusedVariables false
set_option linter.unusedSimpArgs false
namespace Jvm.RoadKit
open Sem ClassFile Op Lib Jvm.Stand Jvm.Free Jvm.LawKit
section New
variable {p : Program} {l : Launch} {e : Env} {R : Room} {s : State} {m : MethodId} {args : Array Value} {below : List Frame} {meth : Method} {c : Code} {T : State} {locs : List Loc} {cells slots : Nat}
theorem retI (X : Stand p l e R s m args below meth c T locs cells slots) (hx : p.tables.exec = Jvm.exec) {pc : Nat} {Ls : Array Slot} {z : Int32} {rest : List Value} (hret : meth.sig.returnType = some .int) (hd : decode c.code pc = .ok (.ireturn, 1)) {fs : List Frame}
    (hl : ∀ (f : JFrame) (acts : List Action), f.method = m → f.locked = none → f.entered = [] → (doReturn e (T.setTop f) acts (some (.int z))).1 = T.setFrames fs) : Steps p.tables e below (T.setTop (mkF m pc Ls (.int z :: rest))) (T.setFrames fs) :=
  retOut X hx hret rfl (Or.inl ⟨rfl, Or.inl rfl, z, rfl⟩) hd hl
theorem own_retJ (X : Stand p l e R s m args below meth c T locs cells slots) (hx : p.tables.exec = Jvm.exec) {pc : Nat} {Ls : Array Slot} {z : Int64} {rest : List Value} (hret : meth.sig.returnType = some .long) (hd : decode c.code pc = .ok (.lreturn, 1)) {fs : List Frame}
    (hl : ∀ (f : JFrame) (acts : List Action), f.method = m → f.locked = none → f.entered = [] → (doReturn e (T.setTop f) acts (some (.long z))).1 = T.setFrames fs) : Steps p.tables e below (T.setTop (mkF m pc Ls (.long z :: rest))) (T.setFrames fs) :=
  retOut X hx hret rfl (Or.inr (Or.inl ⟨rfl, rfl, z, rfl⟩)) hd hl
theorem own_retA (X : Stand p l e R s m args below meth c T locs cells slots) (hx : p.tables.exec = Jvm.exec) {pc : Nat} {Ls : Array Slot} {w : Value} {t : FieldType} {rest : List Value} (hret : meth.sig.returnType = some t) (ht : t.isReference = true) (hw : w.isRef = true) (hd : decode c.code pc = .ok (.areturn, 1)) {fs : List Frame}
    (hl : ∀ (f : JFrame) (acts : List Action), f.method = m → f.locked = none → f.entered = [] → (doReturn e (T.setTop f) acts (some w)).1 = T.setFrames fs) : Steps p.tables e below (T.setTop (mkF m pc Ls (w :: rest))) (T.setFrames fs) :=
  retOut X hx hret (by cases t <;> first | rfl | cases ht) (Or.inr (Or.inr (Or.inr (Or.inr ⟨rfl, ht, hw⟩)))) hd hl
end New
end Jvm.RoadKit
namespace Jvm.Pilot.@@N@@
open Jvm Jvm.ClassFile Sem Op Lib Jvm.Free Jvm.Stand Jvm.LawKit Jvm.RoadKit Bundle Jvm.Pilot.@@N@@.Jvm.D
abbrev own_Go (tb : Tables) (e : Env) (below : List Frame) (S0 S1 : State) : Prop := ∀ t, Steps tb e below S1 t → Steps tb e below S0 t
theorem own_eqI {args : Array Value} {s : State} {t : Term} {k : Int32} (h : (Jvm.Cond.eq t (.int k)).value args s none s [] = some true) : t.eval args s none [] s = some (.int k) := by
  obtain ⟨x, y, e1, e2, -, -⟩ := cmp_v (Or.inl h)
  obtain rfl : y = .int k := (Option.some.inj e2).symm
  cases x <;> simp [Cond.value, e1, Term.eval] at h <;> simp_all
theorem own_eqL {args : Array Value} {s : State} {t : Term} {k : Int64} (h : (Jvm.Cond.eq t (.long k)).value args s none s [] = some true) : t.eval args s none [] s = some (.long k) := by
  obtain ⟨x, y, e1, e2, -, -⟩ := cmp_v (Or.inl h)
  obtain rfl : y = .long k := (Option.some.inj e2).symm
  cases x <;> simp [Cond.value, e1, Term.eval] at h <;> simp_all
theorem own_nar0 : nar .boolean (0 : Int32) = 0 := by decide
theorem own_nar1 : nar .boolean (1 : Int32) = 1 := by decide
theorem own_nar_ite {P : Prop} [Decidable P] {a b : Int32} (ha : nar .boolean a = a) (hb : nar .boolean b = b) : nar .boolean (if P then a else b) = if P then a else b := by split <;> assumption
theorem own_fld {args : Array Value} {s : State} {t : Term} {a : Addr} {C n d : String} {v : Value} (ht : t.eval args s none [] s = some (.ref a)) (h : (Term.field t C n d).eval args s none [] s = some v) : Fld s s.heap a C n d v :=
  Fld.start (by rw [← fld_at (args := args) (first := s) (o := none) (idx := []) ht]; exact h)


def own_hex (c : Int32) : Int32 := if c < 48 then (if c < 65 then -1 else if 70 < c then -1 else c - 65 + 10) else if 57 < c then (if c < 65 then -1 else if 70 < c then -1 else c - 65 + 10) else c - 48
theorem own_hex_low {c : Int32} (h : c < 0) : own_hex c = -1 := by
  have : c < 48 := by rw [Int32.lt_iff_toInt_lt] at *; have e0 : (0 : Int32).toInt = 0 := by decide
                      have e1 : (48 : Int32).toInt = 48 := by decide
                      omega
  have h2 : c < 65 := by
    rw [Int32.lt_iff_toInt_lt] at *
    have e0 : (0 : Int32).toInt = 0 := by decide
    have e1 : (65 : Int32).toInt = 65 := by decide
    omega
  simp [own_hex, this, h2]
theorem own_hex_high {c : Int32} (h : ¬ c < 128) : own_hex c = -1 := by
  rw [Int32.lt_iff_toInt_lt] at h
  have e0 : (128 : Int32).toInt = 128 := by decide
  have e1 : (48 : Int32).toInt = 48 := by decide
  have e2 : (57 : Int32).toInt = 57 := by decide
  have e3 : (65 : Int32).toInt = 65 := by decide
  have e4 : (70 : Int32).toInt = 70 := by decide
  have h1 : ¬ c < 48 := by rw [Int32.lt_iff_toInt_lt]; omega
  have h2 : 57 < c := by rw [Int32.lt_iff_toInt_lt]; omega
  have h3 : ¬ c < 65 := by rw [Int32.lt_iff_toInt_lt]; omega
  have h4 : 70 < c := by rw [Int32.lt_iff_toInt_lt]; omega
  simp [own_hex, h1, h2, h3, h4]
theorem own_hex_all (c : Int32) : (if c < 0 then (-1 : Int32) else if c < 128 then own_hex c else -1) = own_hex c := by
  by_cases h : c < 0
  · rw [if_pos h, own_hex_low h]
  · rw [if_neg h]
    by_cases h2 : c < 128
    · rw [if_pos h2]
    · rw [if_neg h2, own_hex_high h2]
theorem own_hex_of {j x : Int32} (u1 : 48 ≤ j ∨ x = -1) (u2 : j < 48 ∨ 58 ≤ j ∨ x = j - 48) (u3 : j < 58 ∨ 65 ≤ j ∨ x = -1) (u4 : j < 65 ∨ 71 ≤ j ∨ x = j - 55) (u5 : j < 71 ∨ x = -1) : x = own_hex j := by
  have c1 : (48 : Int32).toInt = 48 := by decide
  have c2 : (57 : Int32).toInt = 57 := by decide
  have c3 : (58 : Int32).toInt = 58 := by decide
  have c4 : (65 : Int32).toInt = 65 := by decide
  have c5 : (70 : Int32).toInt = 70 := by decide
  have c6 : (71 : Int32).toInt = 71 := by decide
  simp only [Int32.lt_iff_toInt_lt, Int32.le_iff_toInt_le, c1, c3, c4, c6] at u1 u2 u3 u4 u5
  unfold own_hex
  simp only [Int32.lt_iff_toInt_lt, c1, c2, c4, c5]
  by_cases h1 : j.toInt < 48
  · rw [if_pos h1, if_pos (by omega)]; exact u1.resolve_left (by omega)
  · rw [if_neg h1]
    by_cases h2 : 57 < j.toInt
    · rw [if_pos h2]
      by_cases h3 : j.toInt < 65
      · rw [if_pos h3]; exact (u3.resolve_left (by omega)).resolve_left (by omega)
      · rw [if_neg h3]
        by_cases h4 : 70 < j.toInt
        · rw [if_pos h4]; exact u5.resolve_left (by omega)
        · rw [if_neg h4, (u4.resolve_left (by omega)).resolve_left (by omega), Int32.sub_eq_add_neg, Int32.sub_eq_add_neg, Int32.add_assoc]; rfl
    · rw [if_neg h2]; exact (u2.resolve_left (by omega)).resolve_left (by omega)
theorem own_sub {args : Array Value} {first s : State} {o : Option Outcome} {idx : List Nat} {a b : Term} {x y : Int32} (ha : a.eval args first o idx s = some (.int x)) (hb : b.eval args first o idx s = some (.int y)) : (Term.sub a b).eval args first o idx s = some (.int (x - y)) := by simp [Term.eval, ha, hb]
theorem own_or_v {args : Array Value} {first s : State} {o : Option Outcome} {idx : List Nat} {c d : Jvm.Cond} (h : (Jvm.Cond.or c d).value args first o s idx = some true) : c.value args first o s idx = some true ∨ d.value args first o s idx = some true := by
  cases hc : c.value args first o s idx with
  | none => simp [Cond.value, hc] at h
  | some b => cases b with
    | true => exact Or.inl rfl
    | false => exact Or.inr (by simpa [Cond.value, hc] using h)
theorem own_len {args : Array Value} {s : State} {t : Term} {a : Addr} {cl : Cell} (ev : t.eval args s none [] s = some (.ref a)) (h1 : s.arrayAt? a = some cl) (h : (Term.length t).eval args s none [] s = some (.int (128 : Int32))) : cl.slots.size = 128 := by
  have hs : cl.slots.size < 2 ^ 31 := by
    apply Decidable.byContradiction
    intro q
    simp [Term.eval, ev, h1, q] at h
  rw [len_f ev h1 hs] at h
  have e : cl.slots.size.toInt32 = (128 : Int32) := by injection (Option.some.inj h)
  have e2 := len_toInt hs
  rw [e] at e2
  have e3 : (128 : Int32).toInt = 128 := by decide
  omega

theorem d1_0 : decode prog_49_method_5_code 0 = .ok (.iload_n 0, 1) := by decide +kernel
theorem d1_1 : decode prog_49_method_5_code 1 = .ok (.ifCond .lt 19, 3) := by decide +kernel
theorem d1_4 : decode prog_49_method_5_code 4 = .ok (.iload_n 0, 1) := by decide +kernel
theorem d1_5 : decode prog_49_method_5_code 5 = .ok (.getstatic 31, 3) := by decide +kernel
theorem d1_8 : decode prog_49_method_5_code 8 = .ok (.arraylength, 1) := by decide +kernel
theorem d1_9 : decode prog_49_method_5_code 9 = .ok (.if_icmp .ge 11, 3) := by decide +kernel
theorem d1_12 : decode prog_49_method_5_code 12 = .ok (.getstatic 31, 3) := by decide +kernel
theorem d1_15 : decode prog_49_method_5_code 15 = .ok (.iload_n 0, 1) := by decide +kernel
theorem d1_16 : decode prog_49_method_5_code 16 = .ok (.baload, 1) := by decide +kernel
theorem d1_17 : decode prog_49_method_5_code 17 = .ok (.goto 4, 3) := by decide +kernel
theorem d1_20 : decode prog_49_method_5_code 20 = .ok (.iconst (-1), 1) := by decide +kernel
theorem d1_21 : decode prog_49_method_5_code 21 = .ok (.ireturn, 1) := by decide +kernel
theorem pn_1 : plainName "com/example/sectorline/sectorline/reader/Hex" = true := by first | (simp [plainName, overriddenIn]; done) | decide +kernel
theorem ef_1 (m : MethodId) (p0 : Int32) : entryFrame m #[(.int p0)] 1 = mkF m 0 #[.val (.int p0)] [] := by first | (simp [entryFrame, mkF, argsToLocals, Value.category]; done) | rfl
def Q1 (Z : State) (p0 : Int32) (vA : Addr) (cl : Cell) (h0 : Heap) (v : Option Value) (h : Heap) (L : List Loc) : Prop := v = some (.int (own_hex p0)) ∧ L = [] ∧ h = h0
set_option maxRecDepth 65536 in
set_option maxHeartbeats 40000000 in
theorem rm1 (l : Launch) (Z : State) (aw : Array Value) (hw : ∀ d ∈ tables_1, d.before aw Z = true) (ws : List Jvm.Cond) (p0 : Int32) (vA : Addr) (cl : Cell) (h0 : Heap) (S_V : Sta Z h0 "com/example/sectorline/sectorline/reader/Hex" "VALUES" "[B" (.ref vA)) (Ar : Arr Z h0 vA cl .byte) (Sz : cl.slots.size = 128) (hv : ∀ j : Int32, ¬ j < 0 → j < 128 → cl.slots[j.toNatClampNeg]? = some (.int (own_hex j))) :
    MetFree l (⟨"com/example/sectorline/sectorline/reader/Hex", "digit", "(I)I"⟩ : MethodName) (head1 (Jvm.Cond.code (⟨"com/example/sectorline/sectorline/reader/Hex", "digit", "(I)I"⟩ : MethodName) prog_49_method_5_code 1 (some .int) :: ws) ({ frames := 0, cells := 0, slots := 0, locals := 0 } : Room)) (fun a U => a = #[(.int p0)] ∧ Z.Warmed39 U.vm ∧ U.heap = h0) (fun _ _ _ _ _ => True) (fun _ U o U' => ∃ v L, o = .returned v ∧ Q1 Z p0 vA cl h0 v U'.heap L ∧ FrameEnd U o U' L ({ frames := 0, cells := 0, slots := 0, locals := 0 } : Room).cells ({ frames := 0, cells := 0, slots := 0, locals := 0 } : Room).slots) := by
  refine MetFree.of_bodySF (plainFor_of_name pn_1) hisR ?_
  intro p e s m args below meth c s₁ Bd hml0 hP hK
  obtain ⟨rfl, hZ, hh⟩ := hP
  have hZ0 := hZ
  have hx := Bd.exec
  have hby := Bd.bytes
  have hml : c.maxLocals = 1 := hml0
  have hown : s.vm.findClass "com/example/sectorline/sectorline/reader/Hex" = some m.cls := findClass_of_methodNamed Bd.named
  have hnm := (name_of_methodNamed Bd.named Bd.method).1
  have X0 : Stand p l e ({ frames := 0, cells := 0, slots := 0, locals := 0 } : Room) s m #[(.int p0)] below meth c s₁ [] 0 0 := Stand.of_body Bd
  have e0 : s₁.heap = h0 := by rw [← hh, Bd.state]; rfl
  have G0 : own_Go p.tables e below (s₁.setTop (entryFrame m #[(.int p0)] 1)) (s₁.setTop (mkF m 0 #[.val (.int p0)] [])) := fun t k => castTop (ef_1 m p0) k
  have G1 : own_Go p.tables e below (s₁.setTop (entryFrame m #[(.int p0)] 1)) (s₁.setTop (mkF m 1 #[.val (.int p0)] [(.int p0)])) := fun t k => G0 t (XS.iloadN X0.here hx rfl (hb hby d1_0) rfl k)
  obtain ⟨z2_0, T2, X2, e2, hz2_0, G2⟩ : ∃ (z2_0 : Int32) (T2 : State), Stand p l e ({ frames := 0, cells := 0, slots := 0, locals := 0 } : Room) s m #[(.int p0)] below meth c T2 [] 0 0 ∧ T2.heap = h0 ∧ z2_0 = (if p0 < (0 : Int32) then (-1 : Int32) else (if p0 < (128 : Int32) then (own_hex p0) else (-1 : Int32))) ∧ own_Go p.tables e below (s₁.setTop (entryFrame m #[(.int p0)] 1)) (T2.setTop (mkF m 21 #[.val (.int p0)] [(.int z2_0)])) := by
    by_cases hc2 : p0 < (0 : Int32)
    · have G3 : own_Go p.tables e below (s₁.setTop (entryFrame m #[(.int p0)] 1)) (s₁.setTop (mkF m 20 #[.val (.int p0)] [])) := fun t k => G1 t (XS.ifYes X0.here hx rfl (pc0 := 1) (pc' := 20) rfl (hb hby d1_1) rfl ((if0 _ _).trans (tlt hc2).1) (by decide) (by decide) k)
      have G4 : own_Go p.tables e below (s₁.setTop (entryFrame m #[(.int p0)] 1)) (s₁.setTop (mkF m 21 #[.val (.int p0)] [(.int (-1 : Int32))])) := fun t k => G3 t (XT.iconstV X0.here hx rfl (-1 : Int32) (hb hby d1_20) (by decide) k)
      exact ⟨_, _, X0, e0, (if_pos hc2).symm, G4⟩
    · have G5 : own_Go p.tables e below (s₁.setTop (entryFrame m #[(.int p0)] 1)) (s₁.setTop (mkF m 4 #[.val (.int p0)] [])) := fun t k => G1 t (XS.ifNo X0.here hx rfl (hb hby d1_1) rfl ((if0 _ _).trans (flt hc2).1) k)
      have G6 : own_Go p.tables e below (s₁.setTop (entryFrame m #[(.int p0)] 1)) (s₁.setTop (mkF m 5 #[.val (.int p0)] [(.int p0)])) := fun t k => G5 t (XS.iloadN X0.here hx rfl (hb hby d1_4) rfl k)
      obtain ⟨T7, X7, e7, st7⟩ := getS2 X0 hx hZ hown (host := "") (Or.inl (hw _ (List.mem_of_getElem? (i := 4) rfl))) Via.refl e0 S_V (g := (mkF m 5 #[.val (.int p0)] [(.int p0)])) rfl (hb hby d1_5)
      have G7 : own_Go p.tables e below (s₁.setTop (entryFrame m #[(.int p0)] 1)) (T7.setTop (mkF m 8 #[.val (.int p0)] [(.ref vA), (.int p0)])) := fun t k => G6 t (st7 t k)
      have G8 : own_Go p.tables e below (s₁.setTop (entryFrame m #[(.int p0)] 1)) (T7.setTop (mkF m 9 #[.val (.int p0)] [(.int (128 : Int32)), (.int p0)])) := fun t k => G7 t (X7.arraylength hx (by rw [e7]; exact Ar.1) (State.isArrayOf_alike hZ.alike Ar.2.1) (g := (mkF m 8 #[.val (.int p0)] [(.ref vA), (.int p0)])) rfl rfl (hb hby d1_8) t (by rw [show cl.slots.size.toInt32 = (128 : Int32) from by rw [Sz]; rfl]; exact k))
      obtain ⟨z9_0, T9, X9, e9, rfl, G9⟩ : ∃ (z9_0 : Int32) (T9 : State), Stand p l e ({ frames := 0, cells := 0, slots := 0, locals := 0 } : Room) s m #[(.int p0)] below meth c T9 [] 0 0 ∧ T9.heap = h0 ∧ z9_0 = (if p0 < (128 : Int32) then (own_hex p0) else (-1 : Int32)) ∧ own_Go p.tables e below (s₁.setTop (entryFrame m #[(.int p0)] 1)) (T9.setTop (mkF m 21 #[.val (.int p0)] [(.int z9_0)])) := by
        by_cases hc9 : p0 < (128 : Int32)
        · have G10 : own_Go p.tables e below (s₁.setTop (entryFrame m #[(.int p0)] 1)) (T7.setTop (mkF m 12 #[.val (.int p0)] [])) := fun t k => G8 t (XS.icmpNo X7.here hx rfl (hb hby d1_9) rfl (tlt hc9).2.1 k)
          obtain ⟨T11, X11, e11, st11⟩ := getS2 X7 hx hZ hown (host := "") (Or.inl (hw _ (List.mem_of_getElem? (i := 4) rfl))) Via.refl e7 S_V (g := (mkF m 12 #[.val (.int p0)] [])) rfl (hb hby d1_12)
          have G11 : own_Go p.tables e below (s₁.setTop (entryFrame m #[(.int p0)] 1)) (T11.setTop (mkF m 15 #[.val (.int p0)] [(.ref vA)])) := fun t k => G10 t (st11 t k)
          have G12 : own_Go p.tables e below (s₁.setTop (entryFrame m #[(.int p0)] 1)) (T11.setTop (mkF m 16 #[.val (.int p0)] [(.int p0), (.ref vA)])) := fun t k => G11 t (XS.iloadN X11.here hx rfl (hb hby d1_15) rfl k)
          have G13 : own_Go p.tables e below (s₁.setTop (entryFrame m #[(.int p0)] 1)) (T11.setTop (mkF m 17 #[.val (.int p0)] [(.int (own_hex p0))])) := fun t k => G12 t (X11.baloadBytes hx (by rw [e11]; exact Ar.1) (State.isArrayOf_alike hZ.alike Ar.2.1) Ar.2.2 (inb_of (z := (128 : Int32)) Sz ⟨hc2, hc9⟩) (hv _ hc2 hc9) (g := (mkF m 16 #[.val (.int p0)] [(.int p0), (.ref vA)])) rfl rfl (hb hby d1_16) t k)
          have G14 : own_Go p.tables e below (s₁.setTop (entryFrame m #[(.int p0)] 1)) (T11.setTop (mkF m 21 #[.val (.int p0)] [(.int (own_hex p0))])) := fun t k => G13 t (XS.goto X11.here hx rfl (pc0 := 17) (pc' := 21) rfl (hb hby d1_17) (by decide) (by decide) k)
          exact ⟨_, _, X11, e11, (if_pos hc9).symm, G14⟩
        · have G15 : own_Go p.tables e below (s₁.setTop (entryFrame m #[(.int p0)] 1)) (T7.setTop (mkF m 20 #[.val (.int p0)] [])) := fun t k => G8 t (XS.icmpYes X7.here hx rfl (pc0 := 9) (pc' := 20) rfl (hb hby d1_9) rfl (flt hc9).2.1 (by decide) (by decide) k)
          have G16 : own_Go p.tables e below (s₁.setTop (entryFrame m #[(.int p0)] 1)) (T7.setTop (mkF m 21 #[.val (.int p0)] [(.int (-1 : Int32))])) := fun t k => G15 t (XT.iconstV X7.here hx rfl (-1 : Int32) (hb hby d1_20) (by decide) k)
          exact ⟨_, _, X7, e7, (if_neg hc9).symm, G16⟩
      exact ⟨_, _, X9, e9, (if_neg hc2).symm, G9⟩
  obtain ⟨fs, hr, hrun, hended, hW, hsame⟩ := X2.leave (v := some (.int z2_0)) (fun h => by rw [Bd.returns] at h; cases h)
  refine ⟨_, _, G2 _ ?_, hrun, hended, _, _, rfl, ?_, ⟨_, rfl⟩, hW, hsame.mono (by decide) (by decide)⟩
  · exact retI X2 hx Bd.returns (hb hby d1_21) hr
  · show Q1 Z p0 vA cl h0 _ T2.heap _
    rw [e2]
    exact ⟨congrArg (fun z => some (Value.int z)) (by rw [hz2_0]; exact own_hex_all p0), rfl, rfl⟩
theorem d2_0 : decode method_2_code 0 = .ok (.iload_n 0, 1) := by decide +kernel
theorem d2_1 : decode method_2_code 1 = .ok (.bipush 48, 2) := by decide +kernel
theorem d2_3 : decode method_2_code 3 = .ok (.if_icmp .lt 14, 3) := by decide +kernel
theorem d2_6 : decode method_2_code 6 = .ok (.iload_n 0, 1) := by decide +kernel
theorem d2_7 : decode method_2_code 7 = .ok (.bipush 57, 2) := by decide +kernel
theorem d2_9 : decode method_2_code 9 = .ok (.if_icmp .gt 8, 3) := by decide +kernel
theorem d2_12 : decode method_2_code 12 = .ok (.iload_n 0, 1) := by decide +kernel
theorem d2_13 : decode method_2_code 13 = .ok (.bipush 48, 2) := by decide +kernel
theorem d2_15 : decode method_2_code 15 = .ok (.isub, 1) := by decide +kernel
theorem d2_16 : decode method_2_code 16 = .ok (.ireturn, 1) := by decide +kernel
theorem d2_17 : decode method_2_code 17 = .ok (.iload_n 0, 1) := by decide +kernel
theorem d2_18 : decode method_2_code 18 = .ok (.bipush 65, 2) := by decide +kernel
theorem d2_20 : decode method_2_code 20 = .ok (.if_icmp .lt 17, 3) := by decide +kernel
theorem d2_23 : decode method_2_code 23 = .ok (.iload_n 0, 1) := by decide +kernel
theorem d2_24 : decode method_2_code 24 = .ok (.bipush 70, 2) := by decide +kernel
theorem d2_26 : decode method_2_code 26 = .ok (.if_icmp .gt 11, 3) := by decide +kernel
theorem d2_29 : decode method_2_code 29 = .ok (.iload_n 0, 1) := by decide +kernel
theorem d2_30 : decode method_2_code 30 = .ok (.bipush 65, 2) := by decide +kernel
theorem d2_32 : decode method_2_code 32 = .ok (.isub, 1) := by decide +kernel
theorem d2_33 : decode method_2_code 33 = .ok (.bipush 10, 2) := by decide +kernel
theorem d2_35 : decode method_2_code 35 = .ok (.iadd, 1) := by decide +kernel
theorem d2_36 : decode method_2_code 36 = .ok (.ireturn, 1) := by decide +kernel
theorem d2_37 : decode method_2_code 37 = .ok (.iconst (-1), 1) := by decide +kernel
theorem d2_38 : decode method_2_code 38 = .ok (.ireturn, 1) := by decide +kernel
theorem pn_2 : plainName "com/example/sectorline/sectorline/reader/HexDigitPinLaw" = true := by first | (simp [plainName, overriddenIn]; done) | decide +kernel
theorem ef_2 (m : MethodId) (p0 : Int32) : entryFrame m #[(.int p0)] 1 = mkF m 0 #[.val (.int p0)] [] := by first | (simp [entryFrame, mkF, argsToLocals, Value.category]; done) | rfl
def Q2 (Z : State) (p0 : Int32)  (h0 : Heap) (v : Option Value) (h : Heap) (L : List Loc) : Prop := v = some (.int (own_hex p0)) ∧ L = [] ∧ h = h0
set_option maxRecDepth 65536 in
set_option maxHeartbeats 40000000 in
theorem rm2 (l : Launch) (Z : State) (aw : Array Value) (hw : ∀ d ∈ tables_1, d.before aw Z = true) (ws : List Jvm.Cond) (p0 : Int32)  (h0 : Heap)  :
    MetFree l (⟨"com/example/sectorline/sectorline/reader/HexDigitPinLaw", "expected", "(I)I"⟩ : MethodName) (head1 (Jvm.Cond.code (⟨"com/example/sectorline/sectorline/reader/HexDigitPinLaw", "expected", "(I)I"⟩ : MethodName) method_2_code 1 (some .int) :: ws) ({ frames := 0, cells := 0, slots := 0, locals := 0 } : Room)) (fun a U => a = #[(.int p0)] ∧ Z.Warmed39 U.vm ∧ U.heap = h0) (fun _ _ _ _ _ => True) (fun _ U o U' => ∃ v L, o = .returned v ∧ Q2 Z p0 h0 v U'.heap L ∧ FrameEnd U o U' L ({ frames := 0, cells := 0, slots := 0, locals := 0 } : Room).cells ({ frames := 0, cells := 0, slots := 0, locals := 0 } : Room).slots) := by
  refine MetFree.of_bodySF (plainFor_of_name pn_2) hisR ?_
  intro p e s m args below meth c s₁ Bd hml0 hP hK
  obtain ⟨rfl, hZ, hh⟩ := hP
  have hZ0 := hZ
  have hx := Bd.exec
  have hby := Bd.bytes
  have hml : c.maxLocals = 1 := hml0
  have hown : s.vm.findClass "com/example/sectorline/sectorline/reader/HexDigitPinLaw" = some m.cls := findClass_of_methodNamed Bd.named
  have hnm := (name_of_methodNamed Bd.named Bd.method).1
  have X0 : Stand p l e ({ frames := 0, cells := 0, slots := 0, locals := 0 } : Room) s m #[(.int p0)] below meth c s₁ [] 0 0 := Stand.of_body Bd
  have e0 : s₁.heap = h0 := by rw [← hh, Bd.state]; rfl
  have G0 : own_Go p.tables e below (s₁.setTop (entryFrame m #[(.int p0)] 1)) (s₁.setTop (mkF m 0 #[.val (.int p0)] [])) := fun t k => castTop (ef_2 m p0) k
  have G1 : own_Go p.tables e below (s₁.setTop (entryFrame m #[(.int p0)] 1)) (s₁.setTop (mkF m 1 #[.val (.int p0)] [(.int p0)])) := fun t k => G0 t (XS.iloadN X0.here hx rfl (hb hby d2_0) rfl k)
  have G2 : own_Go p.tables e below (s₁.setTop (entryFrame m #[(.int p0)] 1)) (s₁.setTop (mkF m 3 #[.val (.int p0)] [(.int (48 : Int32)), (.int p0)])) := fun t k => G1 t (XT.bipushV X0.here hx rfl (48 : Int32) (hb hby d2_1) (by decide) k)
  by_cases hc3 : p0 < (48 : Int32)
  · have G4 : own_Go p.tables e below (s₁.setTop (entryFrame m #[(.int p0)] 1)) (s₁.setTop (mkF m 17 #[.val (.int p0)] [])) := fun t k => G2 t (XS.icmpYes X0.here hx rfl (pc0 := 3) (pc' := 17) rfl (hb hby d2_3) rfl (tlt hc3).1 (by decide) (by decide) k)
    have G5 : own_Go p.tables e below (s₁.setTop (entryFrame m #[(.int p0)] 1)) (s₁.setTop (mkF m 18 #[.val (.int p0)] [(.int p0)])) := fun t k => G4 t (XS.iloadN X0.here hx rfl (hb hby d2_17) rfl k)
    have G6 : own_Go p.tables e below (s₁.setTop (entryFrame m #[(.int p0)] 1)) (s₁.setTop (mkF m 20 #[.val (.int p0)] [(.int (65 : Int32)), (.int p0)])) := fun t k => G5 t (XT.bipushV X0.here hx rfl (65 : Int32) (hb hby d2_18) (by decide) k)
    by_cases hc7 : p0 < (65 : Int32)
    · have G8 : own_Go p.tables e below (s₁.setTop (entryFrame m #[(.int p0)] 1)) (s₁.setTop (mkF m 37 #[.val (.int p0)] [])) := fun t k => G6 t (XS.icmpYes X0.here hx rfl (pc0 := 20) (pc' := 37) rfl (hb hby d2_20) rfl (tlt hc7).1 (by decide) (by decide) k)
      have G9 : own_Go p.tables e below (s₁.setTop (entryFrame m #[(.int p0)] 1)) (s₁.setTop (mkF m 38 #[.val (.int p0)] [(.int (-1 : Int32))])) := fun t k => G8 t (XT.iconstV X0.here hx rfl (-1 : Int32) (hb hby d2_37) (by decide) k)
      obtain ⟨fs, hr, hrun, hended, hW, hsame⟩ := X0.leave (v := some (.int (-1 : Int32))) (fun h => by rw [Bd.returns] at h; cases h)
      refine ⟨_, _, G9 _ ?_, hrun, hended, _, _, rfl, ?_, ⟨_, rfl⟩, hW, hsame.mono (by decide) (by decide)⟩
      · exact retI X0 hx Bd.returns (hb hby d2_38) hr
      · show Q2 Z p0 h0 _ s₁.heap _
        rw [e0]
        exact ⟨congrArg (fun z => some (Value.int z)) (by simp [own_hex, hc3, hc7]), rfl, rfl⟩
    · have G11 : own_Go p.tables e below (s₁.setTop (entryFrame m #[(.int p0)] 1)) (s₁.setTop (mkF m 23 #[.val (.int p0)] [])) := fun t k => G6 t (XS.icmpNo X0.here hx rfl (hb hby d2_20) rfl (flt hc7).1 k)
      have G12 : own_Go p.tables e below (s₁.setTop (entryFrame m #[(.int p0)] 1)) (s₁.setTop (mkF m 24 #[.val (.int p0)] [(.int p0)])) := fun t k => G11 t (XS.iloadN X0.here hx rfl (hb hby d2_23) rfl k)
      have G13 : own_Go p.tables e below (s₁.setTop (entryFrame m #[(.int p0)] 1)) (s₁.setTop (mkF m 26 #[.val (.int p0)] [(.int (70 : Int32)), (.int p0)])) := fun t k => G12 t (XT.bipushV X0.here hx rfl (70 : Int32) (hb hby d2_24) (by decide) k)
      by_cases hc14 : (70 : Int32) < p0
      · have G15 : own_Go p.tables e below (s₁.setTop (entryFrame m #[(.int p0)] 1)) (s₁.setTop (mkF m 37 #[.val (.int p0)] [])) := fun t k => G13 t (XS.icmpYes X0.here hx rfl (pc0 := 26) (pc' := 37) rfl (hb hby d2_26) rfl (tlt hc14).2.2.1 (by decide) (by decide) k)
        have G16 : own_Go p.tables e below (s₁.setTop (entryFrame m #[(.int p0)] 1)) (s₁.setTop (mkF m 38 #[.val (.int p0)] [(.int (-1 : Int32))])) := fun t k => G15 t (XT.iconstV X0.here hx rfl (-1 : Int32) (hb hby d2_37) (by decide) k)
        obtain ⟨fs, hr, hrun, hended, hW, hsame⟩ := X0.leave (v := some (.int (-1 : Int32))) (fun h => by rw [Bd.returns] at h; cases h)
        refine ⟨_, _, G16 _ ?_, hrun, hended, _, _, rfl, ?_, ⟨_, rfl⟩, hW, hsame.mono (by decide) (by decide)⟩
        · exact retI X0 hx Bd.returns (hb hby d2_38) hr
        · show Q2 Z p0 h0 _ s₁.heap _
          rw [e0]
          exact ⟨congrArg (fun z => some (Value.int z)) (by simp [own_hex, hc3, hc7, hc14]), rfl, rfl⟩
      · have G18 : own_Go p.tables e below (s₁.setTop (entryFrame m #[(.int p0)] 1)) (s₁.setTop (mkF m 29 #[.val (.int p0)] [])) := fun t k => G13 t (XS.icmpNo X0.here hx rfl (hb hby d2_26) rfl (flt hc14).2.2.1 k)
        have G19 : own_Go p.tables e below (s₁.setTop (entryFrame m #[(.int p0)] 1)) (s₁.setTop (mkF m 30 #[.val (.int p0)] [(.int p0)])) := fun t k => G18 t (XS.iloadN X0.here hx rfl (hb hby d2_29) rfl k)
        have G20 : own_Go p.tables e below (s₁.setTop (entryFrame m #[(.int p0)] 1)) (s₁.setTop (mkF m 32 #[.val (.int p0)] [(.int (65 : Int32)), (.int p0)])) := fun t k => G19 t (XT.bipushV X0.here hx rfl (65 : Int32) (hb hby d2_30) (by decide) k)
        have G21 : own_Go p.tables e below (s₁.setTop (entryFrame m #[(.int p0)] 1)) (s₁.setTop (mkF m 33 #[.val (.int p0)] [(.int (p0 - (65 : Int32)))])) := fun t k => G20 t (XS.isub X0.here hx rfl (hb hby d2_32) rfl k)
        have G22 : own_Go p.tables e below (s₁.setTop (entryFrame m #[(.int p0)] 1)) (s₁.setTop (mkF m 35 #[.val (.int p0)] [(.int (10 : Int32)), (.int (p0 - (65 : Int32)))])) := fun t k => G21 t (XT.bipushV X0.here hx rfl (10 : Int32) (hb hby d2_33) (by decide) k)
        have G23 : own_Go p.tables e below (s₁.setTop (entryFrame m #[(.int p0)] 1)) (s₁.setTop (mkF m 36 #[.val (.int p0)] [(.int ((p0 - (65 : Int32)) + (10 : Int32)))])) := fun t k => G22 t (XS.iadd X0.here hx rfl (hb hby d2_35) rfl k)
        obtain ⟨fs, hr, hrun, hended, hW, hsame⟩ := X0.leave (v := some (.int ((p0 - (65 : Int32)) + (10 : Int32)))) (fun h => by rw [Bd.returns] at h; cases h)
        refine ⟨_, _, G23 _ ?_, hrun, hended, _, _, rfl, ?_, ⟨_, rfl⟩, hW, hsame.mono (by decide) (by decide)⟩
        · exact retI X0 hx Bd.returns (hb hby d2_36) hr
        · show Q2 Z p0 h0 _ s₁.heap _
          rw [e0]
          exact ⟨congrArg (fun z => some (Value.int z)) (by simp [own_hex, hc3, hc7, hc14]), rfl, rfl⟩
  · have G25 : own_Go p.tables e below (s₁.setTop (entryFrame m #[(.int p0)] 1)) (s₁.setTop (mkF m 6 #[.val (.int p0)] [])) := fun t k => G2 t (XS.icmpNo X0.here hx rfl (hb hby d2_3) rfl (flt hc3).1 k)
    have G26 : own_Go p.tables e below (s₁.setTop (entryFrame m #[(.int p0)] 1)) (s₁.setTop (mkF m 7 #[.val (.int p0)] [(.int p0)])) := fun t k => G25 t (XS.iloadN X0.here hx rfl (hb hby d2_6) rfl k)
    have G27 : own_Go p.tables e below (s₁.setTop (entryFrame m #[(.int p0)] 1)) (s₁.setTop (mkF m 9 #[.val (.int p0)] [(.int (57 : Int32)), (.int p0)])) := fun t k => G26 t (XT.bipushV X0.here hx rfl (57 : Int32) (hb hby d2_7) (by decide) k)
    by_cases hc28 : (57 : Int32) < p0
    · have G29 : own_Go p.tables e below (s₁.setTop (entryFrame m #[(.int p0)] 1)) (s₁.setTop (mkF m 17 #[.val (.int p0)] [])) := fun t k => G27 t (XS.icmpYes X0.here hx rfl (pc0 := 9) (pc' := 17) rfl (hb hby d2_9) rfl (tlt hc28).2.2.1 (by decide) (by decide) k)
      have G30 : own_Go p.tables e below (s₁.setTop (entryFrame m #[(.int p0)] 1)) (s₁.setTop (mkF m 18 #[.val (.int p0)] [(.int p0)])) := fun t k => G29 t (XS.iloadN X0.here hx rfl (hb hby d2_17) rfl k)
      have G31 : own_Go p.tables e below (s₁.setTop (entryFrame m #[(.int p0)] 1)) (s₁.setTop (mkF m 20 #[.val (.int p0)] [(.int (65 : Int32)), (.int p0)])) := fun t k => G30 t (XT.bipushV X0.here hx rfl (65 : Int32) (hb hby d2_18) (by decide) k)
      by_cases hc32 : p0 < (65 : Int32)
      · have G33 : own_Go p.tables e below (s₁.setTop (entryFrame m #[(.int p0)] 1)) (s₁.setTop (mkF m 37 #[.val (.int p0)] [])) := fun t k => G31 t (XS.icmpYes X0.here hx rfl (pc0 := 20) (pc' := 37) rfl (hb hby d2_20) rfl (tlt hc32).1 (by decide) (by decide) k)
        have G34 : own_Go p.tables e below (s₁.setTop (entryFrame m #[(.int p0)] 1)) (s₁.setTop (mkF m 38 #[.val (.int p0)] [(.int (-1 : Int32))])) := fun t k => G33 t (XT.iconstV X0.here hx rfl (-1 : Int32) (hb hby d2_37) (by decide) k)
        obtain ⟨fs, hr, hrun, hended, hW, hsame⟩ := X0.leave (v := some (.int (-1 : Int32))) (fun h => by rw [Bd.returns] at h; cases h)
        refine ⟨_, _, G34 _ ?_, hrun, hended, _, _, rfl, ?_, ⟨_, rfl⟩, hW, hsame.mono (by decide) (by decide)⟩
        · exact retI X0 hx Bd.returns (hb hby d2_38) hr
        · show Q2 Z p0 h0 _ s₁.heap _
          rw [e0]
          exact ⟨congrArg (fun z => some (Value.int z)) (by simp [own_hex, hc3, hc28, hc32]), rfl, rfl⟩
      · have G36 : own_Go p.tables e below (s₁.setTop (entryFrame m #[(.int p0)] 1)) (s₁.setTop (mkF m 23 #[.val (.int p0)] [])) := fun t k => G31 t (XS.icmpNo X0.here hx rfl (hb hby d2_20) rfl (flt hc32).1 k)
        have G37 : own_Go p.tables e below (s₁.setTop (entryFrame m #[(.int p0)] 1)) (s₁.setTop (mkF m 24 #[.val (.int p0)] [(.int p0)])) := fun t k => G36 t (XS.iloadN X0.here hx rfl (hb hby d2_23) rfl k)
        have G38 : own_Go p.tables e below (s₁.setTop (entryFrame m #[(.int p0)] 1)) (s₁.setTop (mkF m 26 #[.val (.int p0)] [(.int (70 : Int32)), (.int p0)])) := fun t k => G37 t (XT.bipushV X0.here hx rfl (70 : Int32) (hb hby d2_24) (by decide) k)
        by_cases hc39 : (70 : Int32) < p0
        · have G40 : own_Go p.tables e below (s₁.setTop (entryFrame m #[(.int p0)] 1)) (s₁.setTop (mkF m 37 #[.val (.int p0)] [])) := fun t k => G38 t (XS.icmpYes X0.here hx rfl (pc0 := 26) (pc' := 37) rfl (hb hby d2_26) rfl (tlt hc39).2.2.1 (by decide) (by decide) k)
          have G41 : own_Go p.tables e below (s₁.setTop (entryFrame m #[(.int p0)] 1)) (s₁.setTop (mkF m 38 #[.val (.int p0)] [(.int (-1 : Int32))])) := fun t k => G40 t (XT.iconstV X0.here hx rfl (-1 : Int32) (hb hby d2_37) (by decide) k)
          obtain ⟨fs, hr, hrun, hended, hW, hsame⟩ := X0.leave (v := some (.int (-1 : Int32))) (fun h => by rw [Bd.returns] at h; cases h)
          refine ⟨_, _, G41 _ ?_, hrun, hended, _, _, rfl, ?_, ⟨_, rfl⟩, hW, hsame.mono (by decide) (by decide)⟩
          · exact retI X0 hx Bd.returns (hb hby d2_38) hr
          · show Q2 Z p0 h0 _ s₁.heap _
            rw [e0]
            exact ⟨congrArg (fun z => some (Value.int z)) (by simp [own_hex, hc3, hc28, hc32, hc39]), rfl, rfl⟩
        · have G43 : own_Go p.tables e below (s₁.setTop (entryFrame m #[(.int p0)] 1)) (s₁.setTop (mkF m 29 #[.val (.int p0)] [])) := fun t k => G38 t (XS.icmpNo X0.here hx rfl (hb hby d2_26) rfl (flt hc39).2.2.1 k)
          have G44 : own_Go p.tables e below (s₁.setTop (entryFrame m #[(.int p0)] 1)) (s₁.setTop (mkF m 30 #[.val (.int p0)] [(.int p0)])) := fun t k => G43 t (XS.iloadN X0.here hx rfl (hb hby d2_29) rfl k)
          have G45 : own_Go p.tables e below (s₁.setTop (entryFrame m #[(.int p0)] 1)) (s₁.setTop (mkF m 32 #[.val (.int p0)] [(.int (65 : Int32)), (.int p0)])) := fun t k => G44 t (XT.bipushV X0.here hx rfl (65 : Int32) (hb hby d2_30) (by decide) k)
          have G46 : own_Go p.tables e below (s₁.setTop (entryFrame m #[(.int p0)] 1)) (s₁.setTop (mkF m 33 #[.val (.int p0)] [(.int (p0 - (65 : Int32)))])) := fun t k => G45 t (XS.isub X0.here hx rfl (hb hby d2_32) rfl k)
          have G47 : own_Go p.tables e below (s₁.setTop (entryFrame m #[(.int p0)] 1)) (s₁.setTop (mkF m 35 #[.val (.int p0)] [(.int (10 : Int32)), (.int (p0 - (65 : Int32)))])) := fun t k => G46 t (XT.bipushV X0.here hx rfl (10 : Int32) (hb hby d2_33) (by decide) k)
          have G48 : own_Go p.tables e below (s₁.setTop (entryFrame m #[(.int p0)] 1)) (s₁.setTop (mkF m 36 #[.val (.int p0)] [(.int ((p0 - (65 : Int32)) + (10 : Int32)))])) := fun t k => G47 t (XS.iadd X0.here hx rfl (hb hby d2_35) rfl k)
          obtain ⟨fs, hr, hrun, hended, hW, hsame⟩ := X0.leave (v := some (.int ((p0 - (65 : Int32)) + (10 : Int32)))) (fun h => by rw [Bd.returns] at h; cases h)
          refine ⟨_, _, G48 _ ?_, hrun, hended, _, _, rfl, ?_, ⟨_, rfl⟩, hW, hsame.mono (by decide) (by decide)⟩
          · exact retI X0 hx Bd.returns (hb hby d2_36) hr
          · show Q2 Z p0 h0 _ s₁.heap _
            rw [e0]
            exact ⟨congrArg (fun z => some (Value.int z)) (by simp [own_hex, hc3, hc28, hc32, hc39]), rfl, rfl⟩
    · have G50 : own_Go p.tables e below (s₁.setTop (entryFrame m #[(.int p0)] 1)) (s₁.setTop (mkF m 12 #[.val (.int p0)] [])) := fun t k => G27 t (XS.icmpNo X0.here hx rfl (hb hby d2_9) rfl (flt hc28).2.2.1 k)
      have G51 : own_Go p.tables e below (s₁.setTop (entryFrame m #[(.int p0)] 1)) (s₁.setTop (mkF m 13 #[.val (.int p0)] [(.int p0)])) := fun t k => G50 t (XS.iloadN X0.here hx rfl (hb hby d2_12) rfl k)
      have G52 : own_Go p.tables e below (s₁.setTop (entryFrame m #[(.int p0)] 1)) (s₁.setTop (mkF m 15 #[.val (.int p0)] [(.int (48 : Int32)), (.int p0)])) := fun t k => G51 t (XT.bipushV X0.here hx rfl (48 : Int32) (hb hby d2_13) (by decide) k)
      have G53 : own_Go p.tables e below (s₁.setTop (entryFrame m #[(.int p0)] 1)) (s₁.setTop (mkF m 16 #[.val (.int p0)] [(.int (p0 - (48 : Int32)))])) := fun t k => G52 t (XS.isub X0.here hx rfl (hb hby d2_15) rfl k)
      obtain ⟨fs, hr, hrun, hended, hW, hsame⟩ := X0.leave (v := some (.int (p0 - (48 : Int32)))) (fun h => by rw [Bd.returns] at h; cases h)
      refine ⟨_, _, G53 _ ?_, hrun, hended, _, _, rfl, ?_, ⟨_, rfl⟩, hW, hsame.mono (by decide) (by decide)⟩
      · exact retI X0 hx Bd.returns (hb hby d2_16) hr
      · show Q2 Z p0 h0 _ s₁.heap _
        rw [e0]
        exact ⟨congrArg (fun z => some (Value.int z)) (by simp [own_hex, hc3, hc28]), rfl, rfl⟩
theorem pn_0 : plainName "com/example/sectorline/sectorline/reader/HexDigitPinLaw" = true := by first | (simp [plainName, overriddenIn]; done) | decide +kernel
theorem pd_0_0 : parseMethodDescriptor "(I)I" = some ⟨[.int], some .int⟩ := by decide +kernel
theorem ef_0 (m : MethodId) (p0 : Int32) (p1 : Int32) : entryFrame m #[(.int p0), (.int p1)] maxLocals = mkF m 0 #[.val (.int p0), .val (.int p1), .unset] [] := by first | (simp [entryFrame, mkF, argsToLocals, Value.category, maxLocals]; done) | rfl
def Q0 (Z : State) (p0 : Int32) (p1 : Int32) (vA : Addr) (cl : Cell) (h0 : Heap) (v : Option Value) (h : Heap) (L : List Loc) : Prop := v = some (.int 1) ∧ L = [] ∧ h = h0
set_option maxRecDepth 65536 in
set_option maxHeartbeats 40000000 in
theorem rm0 (l : Launch) (Z : State) (aw : Array Value) (hw : ∀ d ∈ tables_1, d.before aw Z = true) (ws : List Jvm.Cond) (p0 : Int32) (p1 : Int32) (vA : Addr) (cl : Cell) (h0 : Heap) (S_V : Sta Z h0 "com/example/sectorline/sectorline/reader/Hex" "VALUES" "[B" (.ref vA)) (Ar : Arr Z h0 vA cl .byte) (Sz : cl.slots.size = 128) (hv : ∀ j : Int32, ¬ j < 0 → j < 128 → cl.slots[j.toNatClampNeg]? = some (.int (own_hex j))) :
    MetFree l x (head1 (Jvm.Cond.code x code maxLocals ret :: ws) room_1) (fun a U => a = #[(.int p0), (.int p1)] ∧ Z.Warmed39 U.vm ∧ U.heap = h0) (fun _ _ _ _ _ => True) (fun _ U o U' => ∃ v L, o = .returned v ∧ Q0 Z p0 p1 vA cl h0 v U'.heap L ∧ FrameEnd U o U' L room_1.cells room_1.slots) := by
  refine MetFree.of_bodySF (plainFor_of_name pn_0) hisR ?_
  intro p e s m args below meth c s₁ Bd hml0 hP hK
  obtain ⟨rfl, hZ, hh⟩ := hP
  have hZ0 := hZ
  have hx := Bd.exec
  have hby := Bd.bytes
  have hml : c.maxLocals = 3 := hml0
  have hown : s.vm.findClass "com/example/sectorline/sectorline/reader/HexDigitPinLaw" = some m.cls := findClass_of_methodNamed Bd.named
  have hnm := (name_of_methodNamed Bd.named Bd.method).1
  have X0 : Stand p l e room_1 s m #[(.int p0), (.int p1)] below meth c s₁ [] 0 0 := Stand.of_body Bd
  have e0 : s₁.heap = h0 := by rw [← hh, Bd.state]; rfl
  have G0 : own_Go p.tables e below (s₁.setTop (entryFrame m #[(.int p0), (.int p1)] maxLocals)) (s₁.setTop (mkF m 0 #[.val (.int p0), .val (.int p1), .unset] [])) := fun t k => castTop (ef_0 m p0 p1) k
  have G1 : own_Go p.tables e below (s₁.setTop (entryFrame m #[(.int p0), (.int p1)] maxLocals)) (s₁.setTop (mkF m 1 #[.val (.int p0), .val (.int p1), .unset] [(.int p1)])) := fun t k => G0 t (XS.iloadN X0.here hx rfl (hb hby at_0) rfl k)
  have G2 : own_Go p.tables e below (s₁.setTop (entryFrame m #[(.int p0), (.int p1)] maxLocals)) (s₁.setTop (mkF m 2 #[.val (.int p0), .val (.int p1), .unset] [(.int (1 : Int32)), (.int p1)])) := fun t k => G1 t (XT.iconstV X0.here hx rfl (1 : Int32) (hb hby at_1) (by decide) k)
  have G3 : own_Go p.tables e below (s₁.setTop (entryFrame m #[(.int p0), (.int p1)] maxLocals)) (s₁.setTop (mkF m 3 #[.val (.int p0), .val (.int p1), .unset] [(.int (p1 &&& (1 : Int32)))])) := fun t k => G2 t (XS.iand X0.here hx rfl (hb hby at_2) rfl k)
  obtain ⟨z4_0, hz4_0, G4⟩ : ∃ (z4_0 : Int32), z4_0 = (if (p1 &&& (1 : Int32)) = (0 : Int32) then ((p0 &&& (511 : Int32)) - (128 : Int32)) else p0) ∧ own_Go p.tables e below (s₁.setTop (entryFrame m #[(.int p0), (.int p1)] maxLocals)) (s₁.setTop (mkF m 21 #[.val (.int p0), .val (.int p1), .val (.int z4_0)] [])) := by
    by_cases hc4 : (p1 &&& (1 : Int32)) = (0 : Int32)
    · have G5 : own_Go p.tables e below (s₁.setTop (entryFrame m #[(.int p0), (.int p1)] maxLocals)) (s₁.setTop (mkF m 11 #[.val (.int p0), .val (.int p1), .unset] [])) := fun t k => G3 t (XS.ifYes X0.here hx rfl (pc0 := 3) (pc' := 11) rfl (hb hby at_3) rfl ((if0 _ _).trans (teq hc4).1) (by decide) (by decide) k)
      have G6 : own_Go p.tables e below (s₁.setTop (entryFrame m #[(.int p0), (.int p1)] maxLocals)) (s₁.setTop (mkF m 12 #[.val (.int p0), .val (.int p1), .unset] [(.int p0)])) := fun t k => G5 t (XS.iloadN X0.here hx rfl (hb hby at_11) rfl k)
      have G7 : own_Go p.tables e below (s₁.setTop (entryFrame m #[(.int p0), (.int p1)] maxLocals)) (s₁.setTop (mkF m 15 #[.val (.int p0), .val (.int p1), .unset] [(.int (511 : Int32)), (.int p0)])) := fun t k => G6 t (XT.sipushV X0.here hx rfl (511 : Int32) (hb hby at_12) (by decide) k)
      have G8 : own_Go p.tables e below (s₁.setTop (entryFrame m #[(.int p0), (.int p1)] maxLocals)) (s₁.setTop (mkF m 16 #[.val (.int p0), .val (.int p1), .unset] [(.int (p0 &&& (511 : Int32)))])) := fun t k => G7 t (XS.iand X0.here hx rfl (hb hby at_15) rfl k)
      have G9 : own_Go p.tables e below (s₁.setTop (entryFrame m #[(.int p0), (.int p1)] maxLocals)) (s₁.setTop (mkF m 19 #[.val (.int p0), .val (.int p1), .unset] [(.int (128 : Int32)), (.int (p0 &&& (511 : Int32)))])) := fun t k => G8 t (XT.sipushV X0.here hx rfl (128 : Int32) (hb hby at_16) (by decide) k)
      have G10 : own_Go p.tables e below (s₁.setTop (entryFrame m #[(.int p0), (.int p1)] maxLocals)) (s₁.setTop (mkF m 20 #[.val (.int p0), .val (.int p1), .unset] [(.int ((p0 &&& (511 : Int32)) - (128 : Int32)))])) := fun t k => G9 t (XS.isub X0.here hx rfl (hb hby at_19) rfl k)
      have G11 : own_Go p.tables e below (s₁.setTop (entryFrame m #[(.int p0), (.int p1)] maxLocals)) (s₁.setTop (mkF m 21 #[.val (.int p0), .val (.int p1), .val (.int ((p0 &&& (511 : Int32)) - (128 : Int32)))] [])) := fun t k => G10 t (XS.istoreN X0.here hx rfl (hb hby at_20) rfl (l' := #[.val (.int p0), .val (.int p1), .val (.int ((p0 &&& (511 : Int32)) - (128 : Int32)))]) rfl k)
      exact ⟨_, (if_pos hc4).symm, G11⟩
    · have G12 : own_Go p.tables e below (s₁.setTop (entryFrame m #[(.int p0), (.int p1)] maxLocals)) (s₁.setTop (mkF m 6 #[.val (.int p0), .val (.int p1), .unset] [])) := fun t k => G3 t (XS.ifNo X0.here hx rfl (hb hby at_3) rfl ((if0 _ _).trans (feq hc4).1) k)
      have G13 : own_Go p.tables e below (s₁.setTop (entryFrame m #[(.int p0), (.int p1)] maxLocals)) (s₁.setTop (mkF m 7 #[.val (.int p0), .val (.int p1), .unset] [(.int p0)])) := fun t k => G12 t (XS.iloadN X0.here hx rfl (hb hby at_6) rfl k)
      have G14 : own_Go p.tables e below (s₁.setTop (entryFrame m #[(.int p0), (.int p1)] maxLocals)) (s₁.setTop (mkF m 8 #[.val (.int p0), .val (.int p1), .val (.int p0)] [])) := fun t k => G13 t (XS.istoreN X0.here hx rfl (hb hby at_7) rfl (l' := #[.val (.int p0), .val (.int p1), .val (.int p0)]) rfl k)
      have G15 : own_Go p.tables e below (s₁.setTop (entryFrame m #[(.int p0), (.int p1)] maxLocals)) (s₁.setTop (mkF m 21 #[.val (.int p0), .val (.int p1), .val (.int p0)] [])) := fun t k => G14 t (XS.goto X0.here hx rfl (pc0 := 8) (pc' := 21) rfl (hb hby at_8) (by decide) (by decide) k)
      exact ⟨_, (if_neg hc4).symm, G15⟩
  have G16 : own_Go p.tables e below (s₁.setTop (entryFrame m #[(.int p0), (.int p1)] maxLocals)) (s₁.setTop (mkF m 22 #[.val (.int p0), .val (.int p1), .val (.int z4_0)] [(.int z4_0)])) := fun t k => G4 t (XS.iloadN X0.here hx rfl (hb hby at_21) rfl k)
  obtain ⟨vv17, _, ⟨T17, L17, k17, n17⟩, -, X17, ⟨Lc17, hQ17, l17, y17, z17⟩, st17⟩ := Jvm.LawKit.callS X0 hx (y := (⟨"com/example/sectorline/sectorline/reader/Hex", "digit", "(I)I"⟩ : MethodName)) hown (mvT hZ (hw _ (List.mem_of_getElem? (i := 0) rfl))) (mvT hZ (hw _ (List.mem_of_getElem? (i := 1) rfl))) (mvT hZ (hw _ (List.mem_of_getElem? (i := 2) rfl))) (mvT hZ (hw _ (List.mem_of_getElem? (i := 3) rfl))) (by decide) (backOf (W := 0) (rm1 l Z aw hw [] z4_0 vA cl h0 S_V Ar Sz hv) hZ (hw _ (List.mem_of_getElem? (i := 3) rfl)) (hw _ (List.mem_of_getElem? (i := 2) rfl)) (by decide) (by decide)) (g := (mkF m 22 #[.val (.int p0), .val (.int p1), .val (.int z4_0)] [(.int z4_0)])) rfl (by rw [hml]; rfl) (argsL := [(.int z4_0)]) (rest := []) (lenOf pd_0_0 rfl) rfl (by show 2 * 0 + _ ≤ _; exact Nat.le_of_eq rfl) (hb hby at_22) (fun _ _ => ⟨rfl, e0, (by decide : 0 + 0 ≤ _), (by decide : 0 + 0 ≤ _)⟩)
  dsimp only [Pt.U, Pt.locs, Pt.cells, Pt.slots] at X17 l17 y17 z17 st17 hQ17
  subst l17 y17 z17
  obtain ⟨rfl, rfl, e17⟩ := hQ17
  have Y17 : Stand p l e room_1 s m #[(.int p0), (.int p1)] below meth c T17 [] 0 0 := X17
  have G17 : own_Go p.tables e below (s₁.setTop (entryFrame m #[(.int p0), (.int p1)] maxLocals)) (T17.setTop (mkF m 25 #[.val (.int p0), .val (.int p1), .val (.int z4_0)] [(.int (own_hex z4_0))])) := fun t k => G16 t (st17 t k)
  have G18 : own_Go p.tables e below (s₁.setTop (entryFrame m #[(.int p0), (.int p1)] maxLocals)) (T17.setTop (mkF m 26 #[.val (.int p0), .val (.int p1), .val (.int z4_0)] [(.int z4_0), (.int (own_hex z4_0))])) := fun t k => G17 t (XS.iloadN Y17.here hx rfl (hb hby at_25) rfl k)
  obtain ⟨vv19, _, ⟨T19, L19, k19, n19⟩, -, X19, ⟨Lc19, hQ19, l19, y19, z19⟩, st19⟩ := Jvm.LawKit.callS Y17 hx (y := (⟨"com/example/sectorline/sectorline/reader/HexDigitPinLaw", "expected", "(I)I"⟩ : MethodName)) hown (mvT hZ (hw _ (List.mem_of_getElem? (i := 6) rfl))) (mvT hZ (hw _ (List.mem_of_getElem? (i := 7) rfl))) (mvT hZ (hw _ (List.mem_of_getElem? (i := 8) rfl))) (mvT hZ (hw _ (List.mem_of_getElem? (i := 9) rfl))) (by decide) (backOf (W := 1) (rm2 l Z aw hw [] z4_0  h0 ) hZ (hw _ (List.mem_of_getElem? (i := 9) rfl)) (hw _ (List.mem_of_getElem? (i := 8) rfl)) (by decide) (by decide)) (g := (mkF m 26 #[.val (.int p0), .val (.int p1), .val (.int z4_0)] [(.int z4_0), (.int (own_hex z4_0))])) rfl (by rw [hml]; rfl) (argsL := [(.int z4_0)]) (rest := [(.int (own_hex z4_0))]) (lenOf pd_0_0 rfl) rfl (by show 2 * 0 + _ ≤ _; exact Nat.le_of_eq rfl) (hb hby at_26) (fun _ _ => ⟨rfl, e17, (by decide : 0 + 0 ≤ _), (by decide : 0 + 0 ≤ _)⟩)
  dsimp only [Pt.U, Pt.locs, Pt.cells, Pt.slots] at X19 l19 y19 z19 st19 hQ19
  subst l19 y19 z19
  obtain ⟨rfl, rfl, e19⟩ := hQ19
  have Y19 : Stand p l e room_1 s m #[(.int p0), (.int p1)] below meth c T19 [] 0 0 := X19
  have G19 : own_Go p.tables e below (s₁.setTop (entryFrame m #[(.int p0), (.int p1)] maxLocals)) (T19.setTop (mkF m 29 #[.val (.int p0), .val (.int p1), .val (.int z4_0)] [(.int (own_hex z4_0)), (.int (own_hex z4_0))])) := fun t k => G18 t (st19 t k)
  have hk20 : (own_hex z4_0) = (own_hex z4_0) := rfl
  have G21 : own_Go p.tables e below (s₁.setTop (entryFrame m #[(.int p0), (.int p1)] maxLocals)) (T19.setTop (mkF m 32 #[.val (.int p0), .val (.int p1), .val (.int z4_0)] [])) := fun t k => G19 t (XS.icmpNo Y19.here hx rfl (hb hby at_29) rfl (teq hk20).2 k)
  have G22 : own_Go p.tables e below (s₁.setTop (entryFrame m #[(.int p0), (.int p1)] maxLocals)) (T19.setTop (mkF m 33 #[.val (.int p0), .val (.int p1), .val (.int z4_0)] [(.int (1 : Int32))])) := fun t k => G21 t (XT.iconstV Y19.here hx rfl (1 : Int32) (hb hby at_32) (by decide) k)
  have G23 : own_Go p.tables e below (s₁.setTop (entryFrame m #[(.int p0), (.int p1)] maxLocals)) (T19.setTop (mkF m 37 #[.val (.int p0), .val (.int p1), .val (.int z4_0)] [(.int (1 : Int32))])) := fun t k => G22 t (XS.goto Y19.here hx rfl (pc0 := 33) (pc' := 37) rfl (hb hby at_33) (by decide) (by decide) k)
  obtain ⟨fs, hr, hrun, hended, hW, hsame⟩ := Y19.leave (v := some (.int (nar .boolean (1 : Int32)))) (fun h => by rw [Bd.returns] at h; cases h)
  refine ⟨_, _, G23 _ ?_, hrun, hended, _, _, rfl, ?_, ⟨_, rfl⟩, hW, hsame.mono (by decide) (by decide)⟩
  · exact retN Y19 hx (t := .boolean) Bd.returns (by simp) (hb hby at_37) hr
  · show Q0 Z p0 p1 vA cl h0 _ T19.heap _
    rw [e19]
    exact ⟨rfl, rfl, rfl⟩
set_option maxRecDepth 65536 in
set_option maxHeartbeats 40000000 in
theorem comes_1 {Post : Tables → Env → Array Value → State → Outcome → State → Prop} (hpost : ∀ tb e args s v u, (limb_1_1.after args s (.returned v) u = true ∧ limb_1_2.after args s (.returned v) u = true ∧ True) → FrameEnd s (.returned v) u (Jvm.fieldLocs frame_1_writes args s ++ Jvm.arrayLocs frame_1_arrays args s ++ Jvm.staticLocs frame_1_statics s) 0 0 → Post tb e args s (.returned v) u) :
    ArmFor flags0 classFile x code maxLocals ret World_1 tables_1 room_1 Calls_1 rest_1 Pre_1 Post := by
  intro l hfl _ _ p e ha hc hk s m args below hf hA hF happ hP
  obtain ⟨hcalls, hrest, hpre⟩ := hP
  obtain ⟨-, -, -, hnamed, -, -, -, hat⟩ := (Spec.applies_iff hf).mp happ
  obtain ⟨hg, hn⟩ := and_e (Cond.before_iff.mp (show (Jvm.Cond.and given_1 narrow_1).before args s = true from hpre))
  obtain ⟨ga1, gb1⟩ := and_e hg
  obtain ⟨ga2, gb2⟩ := and_e gb1
  obtain ⟨w0, w1, rfl⟩ : ∃ w0 w1 : Value, args = #[w0, w1] := by
    have hs : args.size = 2 := by simpa [Cond.value, given_1] using ga1
    obtain ⟨L⟩ := args
    match L, hs with
    | [w0, w1], _ => exact ⟨w0, w1, rfl⟩
  have hw := fun d (hd : d ∈ tables_1) => atoms_spec (ws := Jvm.Cond.code x code maxLocals ret :: tables_1) hat d (List.mem_cons_of_mem _ hd)
  have hfit : Fit s := fun {y c} hc i hi => by
    obtain ⟨ha, rfl⟩ := Array.getElem?_eq_some_iff.mp hc
    have q := List.all_eq_true.mp ((Array.all_eq_true_iff_forall_mem.mp hF) _ (Array.getElem_mem ha)) i (List.mem_range.mpr hi)
    simpa [Array.getElem?_eq_getElem hi] using q
  obtain ⟨i0, ei0⟩ := is_v ga2
  obtain rfl : w0 = (.int i0) := Option.some.inj ei0
  obtain ⟨i1, ei1⟩ := is_v gb2
  obtain rfl : w1 = (.int i1) := Option.some.inj ei1
  obtain ⟨ga101, gb101⟩ := and_e hn
  obtain ⟨ga102, gb102⟩ := and_e gb101
  obtain ⟨ga103, gb103⟩ := and_e gb102
  obtain ⟨ga104, gb104⟩ := and_e gb103
  obtain ⟨ga105, gb105⟩ := and_e gb104
  obtain ⟨ga106, gb106⟩ := and_e gb105
  obtain ⟨a_VALUES, ev_VALUES⟩ := arr_v ga101
  have S_VALUES : Sta s s.heap "com/example/sectorline/sectorline/reader/Hex" "VALUES" "[B" (.ref a_VALUES) := Sta.start ev_VALUES (Or.inr ⟨(hw _ (List.mem_of_getElem? (i := 2) rfl)), (hw _ (List.mem_of_getElem? (i := 5) rfl))⟩)
  obtain ⟨cl_VALUES, Ar_VALUES⟩ := Arr.start ev_VALUES ga101
  have ev' : ∀ idx, (Jvm.Term.static "com/example/sectorline/sectorline/reader/Hex" "VALUES" "[B").eval #[.int i0, .int i1] s none idx s = some (.ref a_VALUES) := fun _ => ev_VALUES
  have h1v : s.arrayAt? a_VALUES = some cl_VALUES := Ar_VALUES.fin (Vm.Alike.refl _)
  have hsz : cl_VALUES.slots.size = 128 := own_len ev_VALUES h1v (own_eqI ga102)
  have hvv : ∀ j : Int32, ¬ j < 0 → j < 128 → cl_VALUES.slots[j.toNatClampNeg]? = some (.int (own_hex j)) := by
    intro j hj0 hj1
    have hin := inb_of (z := (128 : Int32)) hsz ⟨hj0, hj1⟩
    have hlt : j.toNatClampNeg < cl_VALUES.slots.size := Nat.lt_of_not_le fun y => hin (Or.inr y)
    obtain ⟨v, hv, hf'⟩ := elem_fit hfit Ar_VALUES hin
    obtain ⟨x, rfl⟩ := fit_I hf' (Or.inr (Or.inr (Or.inl rfl)))
    have ee := (elem_f (ev' [j.toNatClampNeg]) (idx_at hj0) h1v hj0).trans hv
    have u1 := (own_or_v (Cond.all_elim ev_VALUES h1v ga103 _ hlt)).imp (fun q => gotT (Cond.le_ints (Term.int_eval _) (idx_at hj0)) q) (fun q => gotT (Cond.eq_ints ee (Term.int_eval _)) q)
    have u2 := (own_or_v (Cond.all_elim ev_VALUES h1v ga104 _ hlt)).imp (fun q => gotT (Cond.lt_ints (idx_at hj0) (Term.int_eval _)) q) (fun q => (own_or_v q).imp (fun q => gotT (Cond.le_ints (Term.int_eval _) (idx_at hj0)) q) (fun q => gotT (Cond.eq_ints ee (own_sub (idx_at hj0) (Term.int_eval _))) q))
    have u3 := (own_or_v (Cond.all_elim ev_VALUES h1v ga105 _ hlt)).imp (fun q => gotT (Cond.lt_ints (idx_at hj0) (Term.int_eval _)) q) (fun q => (own_or_v q).imp (fun q => gotT (Cond.le_ints (Term.int_eval _) (idx_at hj0)) q) (fun q => gotT (Cond.eq_ints ee (Term.int_eval _)) q))
    have u4 := (own_or_v (Cond.all_elim ev_VALUES h1v ga106 _ hlt)).imp (fun q => gotT (Cond.lt_ints (idx_at hj0) (Term.int_eval _)) q) (fun q => (own_or_v q).imp (fun q => gotT (Cond.le_ints (Term.int_eval _) (idx_at hj0)) q) (fun q => gotT (Cond.eq_ints ee (own_sub (idx_at hj0) (Term.int_eval _))) q))
    have u5 := (own_or_v (Cond.all_elim ev_VALUES h1v gb106 _ hlt)).imp (fun q => gotT (Cond.lt_ints (idx_at hj0) (Term.int_eval _)) q) (fun q => gotT (Cond.eq_ints ee (Term.int_eval _)) q)
    rw [hv]
    exact congrArg (fun z => some (Value.int z)) (own_hex_of u1 u2 u3 u4 u5)
  obtain ⟨n, o, h1, h2, h3, _, L, rfl, ⟨rfl, rfl, -⟩, hq⟩ := rm0 l s _ hw tables_1 i0 i1 a_VALUES cl_VALUES s.heap S_VALUES Ar_VALUES hsz hvv p e ha hc hk s m _ below hf ((Spec.applies_iff_loose hf).mp happ).1 ⟨rfl, State.Warmed39.refl s, rfl⟩ trivial
  refine ⟨n, _, h1, h2, h3, hpost _ _ _ _ _ _ ⟨Cond.after_iff.mpr rfl, Cond.after_iff.mpr (eq_i res_at (Term.int_eval (1)) rfl), trivial⟩ ⟨hq.1, hq.2.1, (hq.2.2.sift fun y hy => nomatch hy).mono (by decide) (by decide)⟩⟩
theorem main_1_1 : Claimed_1_1 := comes_1 fun _ _ _ _ _ _ h hF => ⟨h.1, hF⟩
theorem main_1_2 : Claimed_1_2 := comes_1 fun _ _ _ _ _ _ h hF => ⟨h.2.1, hF⟩
end Jvm.Pilot.@@N@@
namespace Jvm.Pilot.@@N@@
open Jvm Jvm.ClassFile Sem Op Lib Jvm.Free Jvm.Stand Jvm.Pilot.@@N@@.Jvm.D
/-! MADE BY PROGRAM (witnessworld.py) out of the Statement's table words and the real class files: 9 classes; the members and pool entries that the words name. The judged class is class 1, her method 2. -/
namespace start1
open Jvm.ClassFile
def u (s : String) : CpInfo := .utf8 (stringToUtf16 s)
/-- a pool by its gaps: so many unusable entries, then the entry; so many at the end -/
def gap : Nat → List CpInfo → List CpInfo
  | 0, r => r
  | n + 1, r => .unusable :: gap n r
def poolList (es : List (Nat × CpInfo)) (last : Nat) : List CpInfo := es.foldr (fun e r => gap e.1 (e.2 :: r)) (gap last [])
def pool (es : List (Nat × CpInfo)) (last : Nat) : Array CpInfo := ⟨poolList es last⟩
def fileOf (pool : Array CpInfo) (this : Nat) (attrs : Array Attribute := #[]) (ms : Array MethodInfo := #[]) (fl : Nat := 33) (sup : Nat := 0) (ifs : Array Nat := #[]) (fds : Array FieldInfo := #[]) : ClassFile where
  minorVersion := 0
  majorVersion := 65
  constantPool := pool
  accessFlags := fl
  thisClass := this
  superClass := sup
  interfaces := ifs
  fields := fds
  methods := ms
  attributes := attrs
def plain (name : String) (sup : Option ClassId) : Class where
  name := name
  kind := .ordinary
  loader := none
  accessFlags := 33
  super := sup
  interfaces := #[]
  cf := none
  fields := #[]
  methods := #[]
  instanceTypes := #[]
  staticTypes := #[]
  resolved := #[]
  callSites := []
  init := .initialized
  statics := none
  mirror := none

def pool0 : Array CpInfo := pool [(5, u "<init>"), (0, u "()V"), (1, .class_ 10), (1, u "java/lang/Object")] 113

def k0m0 : Method := { name := "<init>", desc := "()V", sig := { parameters := [], returnType := none }, accessFlags := 1, code := none }
/-- java/lang/Object -/
def k0 : Class := { plain "java/lang/Object" none with
  accessFlags := 33
  interfaces := #[]
  cf := some (fileOf pool0 8 #[] #[{ accessFlags := 1, nameIndex := 5, descriptorIndex := 6, attributes := #[] }] 33 0 #[] #[])
  fields := #[]
  methods := #[k0m0]
  instanceTypes := #[]
  staticTypes := #[]
  resolved := Array.replicate 124 none
  statics := none }

def pool1 : Array CpInfo := pool [(2, .class_ 4), (1, u "java/lang/Object"), (0, u "<init>"), (0, u "()V"), (0, .methodref 8 9), (0, .class_ 10), (0, .nameAndType 11 12), (0, u "com/example/sectorline/sectorline/reader/Hex"), (0, u "digit"), (0, u "(I)I"), (0, .methodref 14 15), (0, .class_ 16), (0, .nameAndType 17 12), (0, u "com/example/sectorline/sectorline/reader/HexDigitPinLaw"), (0, u "expected"), (3, u "law"), (0, u "(II)Z")] 2

def k1m0 : Method := { name := "<init>", desc := "()V", sig := { parameters := [], returnType := none }, accessFlags := 2, code := none }
def k1c1 : Code := { maxStack := 2, maxLocals := 1, code := method_2_code, exceptionTable := #[], attributes := #[] }
def k1m1 : Method := { name := "expected", desc := "(I)I", sig := { parameters := [.int], returnType := some .int }, accessFlags := 10, code := some k1c1 }
def k1c2 : Code := { maxStack := 2, maxLocals := 3, code := code, exceptionTable := #[], attributes := #[] }
def k1m2 : Method := { name := "law", desc := "(II)Z", sig := { parameters := [.int, .int], returnType := some .boolean }, accessFlags := 9, code := some k1c2 }
/-- com/example/sectorline/sectorline/reader/HexDigitPinLaw -/
def k1 : Class := { plain "com/example/sectorline/sectorline/reader/HexDigitPinLaw" (some 0) with
  accessFlags := 49
  interfaces := #[]
  cf := some (fileOf pool1 14 #[] #[{ accessFlags := 2, nameIndex := 5, descriptorIndex := 6, attributes := #[] }, { accessFlags := 10, nameIndex := 17, descriptorIndex := 12, attributes := #[] }, { accessFlags := 9, nameIndex := 21, descriptorIndex := 22, attributes := #[] }] 49 2 #[] #[])
  fields := #[]
  methods := #[k1m0, k1m1, k1m2]
  instanceTypes := #[]
  staticTypes := #[]
  resolved := Array.replicate 25 none
  statics := none }

def pool2 : Array CpInfo := pool [(2, .class_ 4), (1, u "java/lang/Object"), (0, u "<init>"), (0, u "()V"), (1, .class_ 10), (1, u "com/example/sectorline/sectorline/reader/Hex"), (18, u "DIGITS"), (0, u "[B"), (0, .fieldref 8 32), (0, .nameAndType 33 30), (0, u "VALUES"), (32, u "EITHER_CASE"), (0, u "Ljava/util/HexFormat;"), (29, u "digit"), (0, u "(I)I")] 27

def k2m0 : Method := { name := "<init>", desc := "()V", sig := { parameters := [], returnType := none }, accessFlags := 2, code := none }
def k2c1 : Code := { maxStack := 2, maxLocals := 1, code := prog_49_method_5_code, exceptionTable := #[], attributes := #[] }
def k2m1 : Method := { name := "digit", desc := "(I)I", sig := { parameters := [.int], returnType := some .int }, accessFlags := 9, code := some k2c1 }
/-- com/example/sectorline/sectorline/reader/Hex -/
def k2 : Class := { plain "com/example/sectorline/sectorline/reader/Hex" (some 0) with
  accessFlags := 49
  interfaces := #[]
  cf := some (fileOf pool2 8 #[] #[{ accessFlags := 2, nameIndex := 5, descriptorIndex := 6, attributes := #[] }, { accessFlags := 9, nameIndex := 97, descriptorIndex := 98, attributes := #[] }] 49 2 #[] #[{ accessFlags := 26, nameIndex := 29, descriptorIndex := 30, attributes := #[] }, { accessFlags := 26, nameIndex := 33, descriptorIndex := 30, attributes := #[] }, { accessFlags := 26, nameIndex := 66, descriptorIndex := 67, attributes := #[] }])
  fields := #[{ name := "DIGITS", type := (.array .byte), accessFlags := 26, slot := 0, constantValue := 0 }, { name := "VALUES", type := (.array .byte), accessFlags := 26, slot := 1, constantValue := 0 }, { name := "EITHER_CASE", type := (.object "java/util/HexFormat"), accessFlags := 26, slot := 2, constantValue := 0 }]
  methods := #[k2m0, k2m1]
  instanceTypes := #[]
  staticTypes := #[(.array .byte), (.array .byte), (.object "java/util/HexFormat")]
  resolved := Array.replicate 126 none
  statics := some 0 }

def pool3 : Array CpInfo := pool [(1, u "java/lang/Cloneable"), (0, .class_ 1), (0, u "java/lang/Object"), (0, .class_ 3)] 3

/-- java/lang/Cloneable -/
def k3 : Class := { plain "java/lang/Cloneable" (some 0) with
  accessFlags := 1537
  interfaces := #[]
  cf := some (fileOf pool3 2 #[] #[] 1537 4 #[] #[])
  fields := #[]
  methods := #[]
  instanceTypes := #[]
  staticTypes := #[]
  resolved := Array.replicate 8 none
  statics := none }

def pool4 : Array CpInfo := pool [(1, u "java/io/Serializable"), (0, .class_ 1), (0, u "java/lang/Object"), (0, .class_ 3)] 3

/-- java/io/Serializable -/
def k4 : Class := { plain "java/io/Serializable" (some 0) with
  accessFlags := 1537
  interfaces := #[]
  cf := some (fileOf pool4 2 #[] #[] 1537 4 #[] #[])
  fields := #[]
  methods := #[]
  instanceTypes := #[]
  staticTypes := #[]
  resolved := Array.replicate 8 none
  statics := none }

/-- the primitive byte -/
def k5 : Class := { plain "byte" none with kind := .primitive 'B', accessFlags := 0x411 }
/-- [B -/
def k6 : Class := { plain "[B" (some 0) with kind := .array 5 .byte, interfaces := #[3, 4], accessFlags := 1041 }

/-- the primitive int -/
def k7 : Class := { plain "int" none with kind := .primitive 'I', accessFlags := 0x411 }
/-- [I -/
def k8 : Class := { plain "[I" (some 0) with kind := .array 7 .int, interfaces := #[3, 4], accessFlags := 1041 }

def heap : Heap := #[{ cls := 2, slots := #[.null, .ref 1, .null], vm := .statics 2 },
  { cls := 6, slots := #[.int (-1), .int (-1), .int (-1), .int (-1), .int (-1), .int (-1), .int (-1), .int (-1), .int (-1), .int (-1), .int (-1), .int (-1), .int (-1), .int (-1), .int (-1), .int (-1), .int (-1), .int (-1), .int (-1), .int (-1), .int (-1), .int (-1), .int (-1), .int (-1), .int (-1), .int (-1), .int (-1), .int (-1), .int (-1), .int (-1), .int (-1), .int (-1), .int (-1), .int (-1), .int (-1), .int (-1), .int (-1), .int (-1), .int (-1), .int (-1), .int (-1), .int (-1), .int (-1), .int (-1), .int (-1), .int (-1), .int (-1), .int (-1), .int 0, .int 1, .int 2, .int 3, .int 4, .int 5, .int 6, .int 7, .int 8, .int 9, .int (-1), .int (-1), .int (-1), .int (-1), .int (-1), .int (-1), .int (-1), .int 10, .int 11, .int 12, .int 13, .int 14, .int 15, .int (-1), .int (-1), .int (-1), .int (-1), .int (-1), .int (-1), .int (-1), .int (-1), .int (-1), .int (-1), .int (-1), .int (-1), .int (-1), .int (-1), .int (-1), .int (-1), .int (-1), .int (-1), .int (-1), .int (-1), .int (-1), .int (-1), .int (-1), .int (-1), .int (-1), .int (-1), .int (-1), .int (-1), .int (-1), .int (-1), .int (-1), .int (-1), .int (-1), .int (-1), .int (-1), .int (-1), .int (-1), .int (-1), .int (-1), .int (-1), .int (-1), .int (-1), .int (-1), .int (-1), .int (-1), .int (-1), .int (-1), .int (-1), .int (-1), .int (-1), .int (-1), .int (-1), .int (-1), .int (-1), .int (-1), .int (-1), .int (-1)], vm := .none }]
def classes : Array Class := #[k0, k1, k2, k3, k4, k5, k6, k7, k8]
def interned : List (Array UInt16 × Addr) := []
def slotsUsed : Nat := 131
def theMethod : MethodId := ⟨1, 2⟩
def args0 : Array Value := #[.int 4, .int 5]
def aboutOver (below : List Frame) : State where
  vm := { classes := classes, interned := interned.toArray }
  heap := heap
  slotsUsed := slotsUsed
  threads := #[{ frames := .invoking theMethod args0 :: below }]
def below0 : List Frame := [.native { method := ⟨0, 0⟩, args := #[] }]
def about1 : State := aboutOver below0
def p0 : Program := .bare "" "" ""
def e0 : Env := launch0.env 0 0 0
theorem w_frames : about1.frames = Frame.invoking theMethod args0 :: below0 := rfl
set_option maxRecDepth 65536 in
theorem w_args : argsFit about1.vm theMethod args0 = true := by decide +kernel
set_option maxRecDepth 65536 in
theorem w_heap : heapFits about1 = true := by decide +kernel
set_option maxRecDepth 65536 in
theorem w_runnable : about1.curStatus? = some .runnable := by decide +kernel
set_option maxRecDepth 65536 in
theorem w_alone : about1.alone = true := by decide +kernel
set_option maxRecDepth 65536 in
theorem w_named : about1.methodNamed? x = some theMethod := by decide +kernel
set_option maxRecDepth 65536 in
theorem w_hears : about1.hears theMethod below0 = true := by decide +kernel
set_option maxRecDepth 65536 in
theorem w_ripe : about1.ripe theMethod args0 below0 = true := by decide +kernel
theorem w_running : about1.status = .running := rfl
set_option maxRecDepth 65536 in
theorem w_room : about1.hasRoom e0.platform room_1 = true :=
  launch0.hasRoom_least _ room_1 (by decide +kernel) (by decide +kernel) (by decide +kernel) (by decide +kernel) (by decide +kernel) (by decide +kernel)
theorem allAtoms_all (ts : List Jvm.Cond) (a : Array Jvm.Value) (st : Jvm.State) : (allAtoms ts).before a st = ts.all (fun c => c.before a st) := by
  induction ts with
  | nil => rfl
  | cons c t ih =>
    show (Jvm.Cond.and c (allAtoms t)).before a st = _
    rw [Jvm.Cond.before_and, ih, List.all_cons]
def words1 : List Jvm.Cond := Jvm.Cond.code x code maxLocals ret :: tables_1
/-- a 'code' word, met by the world's own term for the bytes: nothing is compared byte by byte -/
theorem code_word {y : MethodName} {bytes : ByteArray} {mx : Nat} {rt : Option FieldType} {a : Array Value} {s : State} {m : MethodId} {meth : Method} {c : Code} (h1 : s.methodNamed? y = some m) (h2 : s.vm.method? m = some meth) (h3 : meth.code = some c) (h4 : c.code = bytes)
    (h5 : (c.maxLocals == mx && c.exceptionTable.isEmpty && decide (c.maxStack ≤ mostOperands) && decide (meth.sig.returnType = rt) && !meth.locks && decide (parseMethodDescriptor y.desc = some meth.sig)) = true) : (Jvm.Cond.code y bytes mx rt).before a s = true := by
  simp only [Bool.and_eq_true, beq_iff_eq, Bool.not_eq_true', decide_eq_true_eq] at h5
  obtain ⟨⟨⟨⟨⟨g1, g2⟩, g3⟩, g4⟩, g5⟩, g6⟩ := h5
  simp [Cond.before, Cond.holds, Cond.value, h1, h2, h3, h4, g1, g2, g3, g4, g5, g6]
def isCode : Jvm.Cond → Bool
  | .code _ _ _ _ => true
  | _ => false
theorem all_split {L : List Jvm.Cond} {P : Jvm.Cond → Bool} (h1 : L.all (fun c => isCode c || P c) = true) (h2 : ∀ c ∈ L.filter isCode, P c = true) : L.all P = true := by
  refine List.all_eq_true.mpr fun c hc => ?_
  have h := List.all_eq_true.mp h1 c hc
  rcases Bool.eq_false_or_eq_true (isCode c) with hi | hi
  · exact h2 c (List.mem_filter.mpr ⟨hc, hi⟩)
  · simpa [hi] using h
set_option maxRecDepth 65536 in
theorem w_c0 : (Jvm.Cond.code x code maxLocals ret).before args0 about1 = true := code_word (m := ⟨1, 2⟩) (meth := k1m2) (c := k1c2) (by decide +kernel) rfl rfl rfl (by decide +kernel)
set_option maxRecDepth 65536 in
theorem w_c1 : (Jvm.Cond.code ({ cls := "com/example/sectorline/sectorline/reader/Hex", name := "digit", desc := "(I)I" } : Jvm.MethodName) prog_49_method_5_code (1 : Nat) (Option.some Jvm.ClassFile.FieldType.int)).before args0 about1 = true := code_word (m := ⟨2, 1⟩) (meth := k2m1) (c := k2c1) (by decide +kernel) rfl rfl rfl (by decide +kernel)
set_option maxRecDepth 65536 in
theorem w_c2 : (Jvm.Cond.code ({ cls := "com/example/sectorline/sectorline/reader/HexDigitPinLaw", name := "expected", desc := "(I)I" } : Jvm.MethodName) method_2_code (1 : Nat) (Option.some Jvm.ClassFile.FieldType.int)).before args0 about1 = true := code_word (m := ⟨1, 1⟩) (meth := k1m1) (c := k1c1) (by decide +kernel) rfl rfl rfl (by decide +kernel)
def codes1 : List Jvm.Cond := [Jvm.Cond.code x code maxLocals ret, Jvm.Cond.code ({ cls := "com/example/sectorline/sectorline/reader/Hex", name := "digit", desc := "(I)I" } : Jvm.MethodName) prog_49_method_5_code (1 : Nat) (Option.some Jvm.ClassFile.FieldType.int), Jvm.Cond.code ({ cls := "com/example/sectorline/sectorline/reader/HexDigitPinLaw", name := "expected", desc := "(I)I" } : Jvm.MethodName) method_2_code (1 : Nat) (Option.some Jvm.ClassFile.FieldType.int)]
set_option maxRecDepth 65536 in
theorem codes_eq : words1.filter isCode = codes1 := rfl
theorem w_codes : ∀ c ∈ words1.filter isCode, c.before args0 about1 = true := by
  rw [codes_eq]
  intro c hc
  simp only [codes1, List.mem_cons, List.not_mem_nil, or_false] at hc
  rcases hc with rfl | rfl | rfl
  · exact w_c0
  · exact w_c1
  · exact w_c2
set_option maxRecDepth 65536 in
theorem w_t1 : words1.all (fun c => isCode c || c.before args0 about1) = true := by decide +kernel
theorem w_tables : (allAtoms (Jvm.Cond.code x code maxLocals ret :: tables_1)).before args0 about1 = true := by
  rw [allAtoms_all]
  show words1.all (fun c => c.before args0 about1) = true
  refine all_split ?_ w_codes
  rw [w_t1]
set_option maxRecDepth 65536 in
theorem w_case : (Jvm.Cond.and given_1 narrow_1).before args0 about1 = true := by decide +kernel
theorem w_applies : (headSpec (Jvm.Cond.code x code maxLocals ret :: tables_1) room_1).applies x e0.platform about1 = true :=
  (Spec.applies_iff w_frames).mpr ⟨w_running, w_runnable, w_alone, w_named, w_hears, w_ripe, w_room, w_tables⟩
theorem atStart : AtStart classFile x code maxLocals ret World_1 tables_1 room_1 Calls_1 rest_1 Pre_1 launch0 p0 e0 about1 theMethod args0 below0 :=
  ⟨lists_1, trivial, launch0.admits_env _ _ _, launch0.least_env, fairChoices_fair.cas, fairChoices_fair.clock, w_frames, w_args, w_heap, w_applies, trivial, trivial, w_case⟩
end start1
theorem witness_1 : WitnessClaimed_1 := ⟨start1.p0, start1.e0, start1.about1, start1.theMethod, start1.args0, start1.below0, start1.atStart⟩
end Jvm.Pilot.@@N@@
