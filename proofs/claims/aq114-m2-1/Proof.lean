import JvmDerived
import JvmDerived.Pilot.@@N@@Statement
import JvmDerived.Pilot.@@N@@Code
set_option linter.unusedVariables false
set_option linter.unusedSimpArgs false
@@BLOCK:NumsL.lean.txt@@
namespace Jvm.RoadKit
open Sem ClassFile Op Lib Jvm.Stand Jvm.Free Jvm.LawKit
section New
variable {p : Program} {l : Launch} {e : Env} {R : Room} {s : State} {m : MethodId} {args : Array Value} {below : List Frame} {meth : Method} {c : Code} {T : State} {locs : List Loc} {cells slots : Nat}
theorem retI (X : Stand p l e R s m args below meth c T locs cells slots) (hx : p.tables.exec = Jvm.exec) {pc : Nat} {Ls : Array Slot} {z : Int32} {rest : List Value} (hret : meth.sig.returnType = some .int) (hd : decode c.code pc = .ok (.ireturn, 1)) {fs : List Frame}
    (hl : ∀ (f : JFrame) (acts : List Action), f.method = m → f.locked = none → f.entered = [] → (doReturn e (T.setTop f) acts (some (.int z))).1 = T.setFrames fs) : Steps p.tables e below (T.setTop (mkF m pc Ls (.int z :: rest))) (T.setFrames fs) := by
  have hm' : T.vm.method? m = some meth := X.method'
  have hn : narrow .int (.int z) = .int z := rfl
  show Steps p.tables e below (T.setTop { method := m, pc := pc, locals := Ls, stack := _ :: rest, locked := none }) _
  jvm_step X.here [X.here.top, hx, hd, hm', hret, hn]
  first | (intro acts; rw [hl _ acts rfl rfl rfl]) | rw [hl _ _ rfl rfl rfl]
  exact Steps.refl _
end New
end Jvm.RoadKit
namespace Jvm.Pilot.@@N@@
open Jvm Jvm.ClassFile Sem Op Lib Jvm.Free Jvm.Stand Jvm.LawKit Jvm.RoadKit Bundle Jvm.Pilot.@@N@@.Jvm.D

theorem own_pin {args : Array Value} {Z : State} {C n d K : String} (h : (Cond.exactly (Term.static C n d) K).value args Z none Z [] = some true) (hi : (Cond.initialized C).before args Z = true) (hl : (Cond.laysStatic C n d).before args Z = true) : ∃ a, (Term.static C n d).eval args Z none [] Z = some (.ref a) ∧ Sta Z Z.heap C n d (.ref a) ∧ Exa Z Z.heap a K := by
  obtain ⟨a, ev⟩ := exa_v h
  exact ⟨a, ev, Sta.start ev (Or.inr ⟨hi, hl⟩), Exa.start ev h⟩
theorem own_fld {args : Array Value} {Z : State} {t : Term} {C n : String} {k : Int32} {a : Addr} (ev : t.eval args Z none [] Z = some (.ref a)) (h : (Cond.eq (Term.field t C n "I") (Term.int k)).value args Z none Z [] = some true) : Z.fieldOf? a C n "I" = some (.int k) := by
  rw [← fld_at (C := C) (n := n) (dd := "I") ev]
  obtain ⟨x, y, e1, e2, k1, k2⟩ := cmp_v (Or.inl h)
  have e3 : y = .int k := Option.some.inj (e2.symm.trans (Term.int_eval k))
  subst e3
  obtain ⟨z, rfl⟩ := k2
  have q : z = k := by simpa [Cond.value, e1, e2] using h
  rw [e1, q]
theorem own_ne {Z : State} {a b : Addr} {C n d : String} {j k : Int32} (h1 : Z.fieldOf? a C n d = some (.int j)) (h2 : Z.fieldOf? b C n d = some (.int k)) (hn : j ≠ k) : ¬ (a = b) := fun e => by
  subst e
  exact hn (Value.int.inj (Option.some.inj (h1.symm.trans h2)))

theorem own_z : (0 : Int32).toInt = 0 := by decide
theorem own_neg {c : Int32} (h : c ≠ (-2147483648 : Int32)) : (-c).toInt = -c.toInt := by
  refine Jvm.Kit.i32_neg fun q => h ?_
  rw [← Int32.toInt_inj, q]
  decide
theorem own_min : ¬ ((0 : Int32) = (-2147483648 : Int32)) := by decide
theorem own_pos_min {c : Int32} (h : (0 : Int32) < c) : ¬ (c = (-2147483648 : Int32)) := fun q => by
  subst q
  exact absurd h (by decide)
theorem own_lt_neg {c : Int32} (hm : ¬ (c = (-2147483648 : Int32))) (h : c < (0 : Int32)) : (0 : Int32) < -c := by
  rw [Int32.lt_iff_toInt_lt, own_z] at *
  rw [own_neg hm]
  omega
theorem own_gt_neg {c : Int32} (hm : ¬ (c = (-2147483648 : Int32))) (h : (0 : Int32) < c) : -c < (0 : Int32) := by
  rw [Int32.lt_iff_toInt_lt, own_z] at *
  rw [own_neg hm]
  omega
theorem own_asym {a b : Int32} (h : a < b) : ¬ (b < a) := by
  rw [Int32.lt_iff_toInt_lt] at *
  omega
theorem own_lt_ne {a b : Int32} (h : a < b) : ¬ (a = b) := fun q => by
  rw [Int32.lt_iff_toInt_lt, q] at h
  omega
theorem own_zero {c : Int32} (h1 : ¬ (c < (0 : Int32))) (h2 : ¬ ((0 : Int32) < c)) : c = (0 : Int32) := by
  rw [Int32.lt_iff_toInt_lt, own_z] at h1 h2
  rw [← Int32.toInt_inj, own_z]
  omega
theorem d1_0 : decode prog_133_method_4_code 0 = .ok (.iload_n 0, 1) := by decide +kernel
theorem d1_1 : decode prog_133_method_4_code 1 = .ok (.ifCond .ge 9, 3) := by decide +kernel
theorem d1_4 : decode prog_133_method_4_code 4 = .ok (.getstatic 3, 3) := by decide +kernel
theorem d1_7 : decode prog_133_method_4_code 7 = .ok (.goto 16, 3) := by decide +kernel
theorem d1_23 : decode prog_133_method_4_code 23 = .ok (.areturn, 1) := by decide +kernel
theorem pn_1 : plainName "com/example/quernstone/quernstone/sparql/Values$Order" = true := by first | (simp [plainName, overriddenIn]; done) | decide +kernel
theorem ef_1 (m : MethodId) (x0 : Int32) : entryFrame m #[(.int x0)] 1 = mkF m 0 #[.val (.int x0)] [] := by first | (simp [entryFrame, mkF, argsToLocals, Value.category]; done) | rfl
def Q1_f (Z : State) (p1 : Int32) (w2 : Addr) (h0 : Heap) (n0 : Nat) (v : Option Value) (h : Heap) (L : List Loc) : Prop := v = some (.ref w2) ∧ Fr n0 L ∧ h = h0
set_option maxRecDepth 65536 in
set_option maxHeartbeats 40000000 in
theorem rm1_f (l : Launch) (Z : State) (a0 : Array Value) (hw : ∀ d ∈ tables_1, d.before a0 Z = true) (ws : List Jvm.Cond) (p1 : Int32) (w2 : Addr) (h0 : Heap) (n0 : Nat) (Z0 : n0 ≤ h0.size) (S_LESS : Sta Z h0 "com/example/quernstone/quernstone/sparql/Values$Order" "LESS" "Lcom/example/quernstone/quernstone/sparql/Values$Order;" (.ref w2)) (hc1 : p1 < (0 : Int32)) :
    MetFree l (⟨"com/example/quernstone/quernstone/sparql/Values$Order", "of", "(I)Lcom/example/quernstone/quernstone/sparql/Values$Order;"⟩ : MethodName) (head1 (Jvm.Cond.code (⟨"com/example/quernstone/quernstone/sparql/Values$Order", "of", "(I)Lcom/example/quernstone/quernstone/sparql/Values$Order;"⟩ : MethodName) prog_133_method_4_code 1 (some (.object "com/example/quernstone/quernstone/sparql/Values$Order")) :: ws) ({ frames := 0, cells := 0, slots := 0, locals := 0 } : Room)) (fun a U => a = #[(.int p1)] ∧ Z.Warmed39 U.vm ∧ U.heap = h0) (fun _ _ _ _ _ => True) (fun _ U o U' => ∃ v L, o = .returned v ∧ Q1_f Z p1 w2 h0 n0 v U'.heap L ∧ FrameEnd U o U' L ({ frames := 0, cells := 0, slots := 0, locals := 0 } : Room).cells ({ frames := 0, cells := 0, slots := 0, locals := 0 } : Room).slots) := by
  refine MetFree.of_bodySF (plainFor_of_name pn_1) hisR ?_
  intro p e s m args below meth c s₁ Bd hml0 hP hK
  obtain ⟨rfl, hZ, hh⟩ := hP
  have hx := Bd.exec
  have hby := Bd.bytes
  have hml : c.maxLocals = 1 := hml0
  have hown : s.vm.findClass "com/example/quernstone/quernstone/sparql/Values$Order" = some m.cls := findClass_of_methodNamed Bd.named
  have hnm := (name_of_methodNamed Bd.named Bd.method).1
  have X0 : Stand p l e ({ frames := 0, cells := 0, slots := 0, locals := 0 } : Room) s m #[(.int p1)] below meth c s₁ [] 0 0 := Stand.of_body Bd
  have e0 : s₁.heap = h0 := by rw [← hh, Bd.state]; rfl
  have N0 := Fr.nil n0
  have pre0 : ∀ t, Steps p.tables e below (s₁.setTop (mkF m 0 #[.val (.int p1)] [])) t → Steps p.tables e below (s₁.setTop (entryFrame m #[(.int p1)] 1)) t := fun t k => castTop (ef_1 m p1) k
  obtain ⟨T3, X3, e3, st3⟩ := getS2 X0 hx hZ hown (host := "") (Or.inl (hw _ (List.mem_of_getElem? (i := 15) rfl))) Via.refl e0 S_LESS (g := (mkF m 4 #[.val (.int p1)] [])) rfl (hb hby d1_4)
  obtain ⟨fs, hr, hrun, hended, hW, hsame⟩ := X3.leave (v := some (.ref w2)) (fun h => by rw [Bd.returns] at h; cases h)
  refine ⟨_, _, pre0 _ ?_, hrun, hended, _, _, rfl, ?_, ⟨_, rfl⟩, hW, hsame.mono (by decide) (by decide)⟩
  · show Steps p.tables e below (s₁.setTop (mkF m 0 #[.val (.int p1)] [])) _
    refine XS.iloadN X0.here hx rfl (hb hby d1_0) rfl ?_
    show Steps p.tables e below (s₁.setTop (mkF m 1 #[.val (.int p1)] [(.int p1)])) _
    refine XS.ifNo X0.here hx rfl (hb hby d1_1) rfl ((if0 _ _).trans (tlt hc1).2.1) ?_
    show Steps p.tables e below (s₁.setTop (mkF m 4 #[.val (.int p1)] [])) _
    refine st3 _ ?_
    show Steps p.tables e below (T3.setTop (mkF m 7 #[.val (.int p1)] [(.ref w2)])) _
    refine XS.goto X3.here hx rfl (pc0 := 7) (pc' := 23) rfl (hb hby d1_7) (by decide) (by decide) ?_
    show Steps p.tables e below (T3.setTop (mkF m 23 #[.val (.int p1)] [(.ref w2)])) _
    jvm_step X3.here [X3.here.top, hx, (hb hby d1_23), X3.method', Bd.returns, Value.isRef, FieldType.isReference]
    first | (intro acts; rw [hr _ acts rfl rfl rfl]) | rw [hr _ _ rfl rfl rfl]
    exact Steps.refl _
  · show Q1_f Z p1 w2 h0 n0 _ T3.heap _
    rw [e3]
    exact ⟨rfl, N0, rfl⟩
theorem d1_10 : decode prog_133_method_4_code 10 = .ok (.iload_n 0, 1) := by decide +kernel
theorem d1_11 : decode prog_133_method_4_code 11 = .ok (.ifCond .le 9, 3) := by decide +kernel
theorem d1_14 : decode prog_133_method_4_code 14 = .ok (.getstatic 10, 3) := by decide +kernel
theorem d1_17 : decode prog_133_method_4_code 17 = .ok (.goto 6, 3) := by decide +kernel
def Q1_tf (Z : State) (p1 : Int32) (w2 : Addr) (h0 : Heap) (n0 : Nat) (v : Option Value) (h : Heap) (L : List Loc) : Prop := v = some (.ref w2) ∧ Fr n0 L ∧ h = h0
set_option maxRecDepth 65536 in
set_option maxHeartbeats 40000000 in
theorem rm1_tf (l : Launch) (Z : State) (a0 : Array Value) (hw : ∀ d ∈ tables_1, d.before a0 Z = true) (ws : List Jvm.Cond) (p1 : Int32) (w2 : Addr) (h0 : Heap) (n0 : Nat) (Z0 : n0 ≤ h0.size) (S_GREATER : Sta Z h0 "com/example/quernstone/quernstone/sparql/Values$Order" "GREATER" "Lcom/example/quernstone/quernstone/sparql/Values$Order;" (.ref w2)) (hc1 : ¬ (p1 < (0 : Int32))) (hc11 : (0 : Int32) < p1) :
    MetFree l (⟨"com/example/quernstone/quernstone/sparql/Values$Order", "of", "(I)Lcom/example/quernstone/quernstone/sparql/Values$Order;"⟩ : MethodName) (head1 (Jvm.Cond.code (⟨"com/example/quernstone/quernstone/sparql/Values$Order", "of", "(I)Lcom/example/quernstone/quernstone/sparql/Values$Order;"⟩ : MethodName) prog_133_method_4_code 1 (some (.object "com/example/quernstone/quernstone/sparql/Values$Order")) :: ws) ({ frames := 0, cells := 0, slots := 0, locals := 0 } : Room)) (fun a U => a = #[(.int p1)] ∧ Z.Warmed39 U.vm ∧ U.heap = h0) (fun _ _ _ _ _ => True) (fun _ U o U' => ∃ v L, o = .returned v ∧ Q1_tf Z p1 w2 h0 n0 v U'.heap L ∧ FrameEnd U o U' L ({ frames := 0, cells := 0, slots := 0, locals := 0 } : Room).cells ({ frames := 0, cells := 0, slots := 0, locals := 0 } : Room).slots) := by
  refine MetFree.of_bodySF (plainFor_of_name pn_1) hisR ?_
  intro p e s m args below meth c s₁ Bd hml0 hP hK
  obtain ⟨rfl, hZ, hh⟩ := hP
  have hx := Bd.exec
  have hby := Bd.bytes
  have hml : c.maxLocals = 1 := hml0
  have hown : s.vm.findClass "com/example/quernstone/quernstone/sparql/Values$Order" = some m.cls := findClass_of_methodNamed Bd.named
  have hnm := (name_of_methodNamed Bd.named Bd.method).1
  have X0 : Stand p l e ({ frames := 0, cells := 0, slots := 0, locals := 0 } : Room) s m #[(.int p1)] below meth c s₁ [] 0 0 := Stand.of_body Bd
  have e0 : s₁.heap = h0 := by rw [← hh, Bd.state]; rfl
  have N0 := Fr.nil n0
  have pre0 : ∀ t, Steps p.tables e below (s₁.setTop (mkF m 0 #[.val (.int p1)] [])) t → Steps p.tables e below (s₁.setTop (entryFrame m #[(.int p1)] 1)) t := fun t k => castTop (ef_1 m p1) k
  obtain ⟨T3, X3, e3, st3⟩ := getS2 X0 hx hZ hown (host := "") (Or.inl (hw _ (List.mem_of_getElem? (i := 14) rfl))) Via.refl e0 S_GREATER (g := (mkF m 14 #[.val (.int p1)] [])) rfl (hb hby d1_14)
  obtain ⟨fs, hr, hrun, hended, hW, hsame⟩ := X3.leave (v := some (.ref w2)) (fun h => by rw [Bd.returns] at h; cases h)
  refine ⟨_, _, pre0 _ ?_, hrun, hended, _, _, rfl, ?_, ⟨_, rfl⟩, hW, hsame.mono (by decide) (by decide)⟩
  · show Steps p.tables e below (s₁.setTop (mkF m 0 #[.val (.int p1)] [])) _
    refine XS.iloadN X0.here hx rfl (hb hby d1_0) rfl ?_
    show Steps p.tables e below (s₁.setTop (mkF m 1 #[.val (.int p1)] [(.int p1)])) _
    refine XS.ifYes X0.here hx rfl (pc0 := 1) (pc' := 10) rfl (hb hby d1_1) rfl ((if0 _ _).trans (flt hc1).2.1) (by decide) (by decide) ?_
    show Steps p.tables e below (s₁.setTop (mkF m 10 #[.val (.int p1)] [])) _
    refine XS.iloadN X0.here hx rfl (hb hby d1_10) rfl ?_
    show Steps p.tables e below (s₁.setTop (mkF m 11 #[.val (.int p1)] [(.int p1)])) _
    refine XS.ifNo X0.here hx rfl (hb hby d1_11) rfl ((if0 _ _).trans (tlt hc11).2.2.2) ?_
    show Steps p.tables e below (s₁.setTop (mkF m 14 #[.val (.int p1)] [])) _
    refine st3 _ ?_
    show Steps p.tables e below (T3.setTop (mkF m 17 #[.val (.int p1)] [(.ref w2)])) _
    refine XS.goto X3.here hx rfl (pc0 := 17) (pc' := 23) rfl (hb hby d1_17) (by decide) (by decide) ?_
    show Steps p.tables e below (T3.setTop (mkF m 23 #[.val (.int p1)] [(.ref w2)])) _
    jvm_step X3.here [X3.here.top, hx, (hb hby d1_23), X3.method', Bd.returns, Value.isRef, FieldType.isReference]
    first | (intro acts; rw [hr _ acts rfl rfl rfl]) | rw [hr _ _ rfl rfl rfl]
    exact Steps.refl _
  · show Q1_tf Z p1 w2 h0 n0 _ T3.heap _
    rw [e3]
    exact ⟨rfl, N0, rfl⟩
theorem d1_20 : decode prog_133_method_4_code 20 = .ok (.getstatic 7, 3) := by decide +kernel
def Q1_tt (Z : State) (p1 : Int32) (w2 : Addr) (h0 : Heap) (n0 : Nat) (v : Option Value) (h : Heap) (L : List Loc) : Prop := v = some (.ref w2) ∧ Fr n0 L ∧ h = h0
set_option maxRecDepth 65536 in
set_option maxHeartbeats 40000000 in
theorem rm1_tt (l : Launch) (Z : State) (a0 : Array Value) (hw : ∀ d ∈ tables_1, d.before a0 Z = true) (ws : List Jvm.Cond) (p1 : Int32) (w2 : Addr) (h0 : Heap) (n0 : Nat) (Z0 : n0 ≤ h0.size) (S_EQUAL : Sta Z h0 "com/example/quernstone/quernstone/sparql/Values$Order" "EQUAL" "Lcom/example/quernstone/quernstone/sparql/Values$Order;" (.ref w2)) (hc1 : ¬ (p1 < (0 : Int32))) (hc11 : ¬ ((0 : Int32) < p1)) :
    MetFree l (⟨"com/example/quernstone/quernstone/sparql/Values$Order", "of", "(I)Lcom/example/quernstone/quernstone/sparql/Values$Order;"⟩ : MethodName) (head1 (Jvm.Cond.code (⟨"com/example/quernstone/quernstone/sparql/Values$Order", "of", "(I)Lcom/example/quernstone/quernstone/sparql/Values$Order;"⟩ : MethodName) prog_133_method_4_code 1 (some (.object "com/example/quernstone/quernstone/sparql/Values$Order")) :: ws) ({ frames := 0, cells := 0, slots := 0, locals := 0 } : Room)) (fun a U => a = #[(.int p1)] ∧ Z.Warmed39 U.vm ∧ U.heap = h0) (fun _ _ _ _ _ => True) (fun _ U o U' => ∃ v L, o = .returned v ∧ Q1_tt Z p1 w2 h0 n0 v U'.heap L ∧ FrameEnd U o U' L ({ frames := 0, cells := 0, slots := 0, locals := 0 } : Room).cells ({ frames := 0, cells := 0, slots := 0, locals := 0 } : Room).slots) := by
  refine MetFree.of_bodySF (plainFor_of_name pn_1) hisR ?_
  intro p e s m args below meth c s₁ Bd hml0 hP hK
  obtain ⟨rfl, hZ, hh⟩ := hP
  have hx := Bd.exec
  have hby := Bd.bytes
  have hml : c.maxLocals = 1 := hml0
  have hown : s.vm.findClass "com/example/quernstone/quernstone/sparql/Values$Order" = some m.cls := findClass_of_methodNamed Bd.named
  have hnm := (name_of_methodNamed Bd.named Bd.method).1
  have X0 : Stand p l e ({ frames := 0, cells := 0, slots := 0, locals := 0 } : Room) s m #[(.int p1)] below meth c s₁ [] 0 0 := Stand.of_body Bd
  have e0 : s₁.heap = h0 := by rw [← hh, Bd.state]; rfl
  have N0 := Fr.nil n0
  have pre0 : ∀ t, Steps p.tables e below (s₁.setTop (mkF m 0 #[.val (.int p1)] [])) t → Steps p.tables e below (s₁.setTop (entryFrame m #[(.int p1)] 1)) t := fun t k => castTop (ef_1 m p1) k
  obtain ⟨T3, X3, e3, st3⟩ := getS2 X0 hx hZ hown (host := "") (Or.inl (hw _ (List.mem_of_getElem? (i := 4) rfl))) Via.refl e0 S_EQUAL (g := (mkF m 20 #[.val (.int p1)] [])) rfl (hb hby d1_20)
  obtain ⟨fs, hr, hrun, hended, hW, hsame⟩ := X3.leave (v := some (.ref w2)) (fun h => by rw [Bd.returns] at h; cases h)
  refine ⟨_, _, pre0 _ ?_, hrun, hended, _, _, rfl, ?_, ⟨_, rfl⟩, hW, hsame.mono (by decide) (by decide)⟩
  · show Steps p.tables e below (s₁.setTop (mkF m 0 #[.val (.int p1)] [])) _
    refine XS.iloadN X0.here hx rfl (hb hby d1_0) rfl ?_
    show Steps p.tables e below (s₁.setTop (mkF m 1 #[.val (.int p1)] [(.int p1)])) _
    refine XS.ifYes X0.here hx rfl (pc0 := 1) (pc' := 10) rfl (hb hby d1_1) rfl ((if0 _ _).trans (flt hc1).2.1) (by decide) (by decide) ?_
    show Steps p.tables e below (s₁.setTop (mkF m 10 #[.val (.int p1)] [])) _
    refine XS.iloadN X0.here hx rfl (hb hby d1_10) rfl ?_
    show Steps p.tables e below (s₁.setTop (mkF m 11 #[.val (.int p1)] [(.int p1)])) _
    refine XS.ifYes X0.here hx rfl (pc0 := 11) (pc' := 20) rfl (hb hby d1_11) rfl ((if0 _ _).trans (flt hc11).2.2.2) (by decide) (by decide) ?_
    show Steps p.tables e below (s₁.setTop (mkF m 20 #[.val (.int p1)] [])) _
    refine st3 _ ?_
    show Steps p.tables e below (T3.setTop (mkF m 23 #[.val (.int p1)] [(.ref w2)])) _
    jvm_step X3.here [X3.here.top, hx, (hb hby d1_23), X3.method', Bd.returns, Value.isRef, FieldType.isReference]
    first | (intro acts; rw [hr _ acts rfl rfl rfl]) | rw [hr _ _ rfl rfl rfl]
    exact Steps.refl _
  · show Q1_tt Z p1 w2 h0 n0 _ T3.heap _
    rw [e3]
    exact ⟨rfl, N0, rfl⟩
theorem pn_0 : plainName "com/example/quernstone/quernstone/sparql/ValuesOfPinLaw" = true := by first | (simp [plainName, overriddenIn]; done) | decide +kernel
theorem pd_0_0_a : parseMethodDescriptor "(I)Lcom/example/quernstone/quernstone/sparql/Values$Order;" = some ⟨[.int], some (.object "com/example/quernstone/quernstone/sparql/Values$Order")⟩ := by decide +kernel
theorem ef_0 (m : MethodId) (x0 : Int32) : entryFrame m #[(.int x0)] maxLocals = mkF m 0 #[.val (.int x0), .unset, .unset, .unset] [] := by first | (simp [entryFrame, mkF, argsToLocals, Value.category, maxLocals]; done) | rfl
def Q0_a (Z : State) (p1 : Int32) (w3 : Addr) (w5 : Addr) (w7 : Addr) (w9 : Addr) (h0 : Heap) (n0 : Nat) (v : Option Value) (h : Heap) (L : List Loc) : Prop := v = some (.int (1 : Int32)) ∧ Fr n0 L
set_option maxRecDepth 65536 in
set_option maxHeartbeats 40000000 in
theorem rm0_a (l : Launch) (Z : State) (a0 : Array Value) (hw : ∀ d ∈ tables_1, d.before a0 Z = true) (ws : List Jvm.Cond) (p1 : Int32) (w3 : Addr) (w5 : Addr) (w7 : Addr) (w9 : Addr) (h0 : Heap) (n0 : Nat) (Z0 : n0 ≤ h0.size) (S_LESS : Sta Z h0 "com/example/quernstone/quernstone/sparql/Values$Order" "LESS" "Lcom/example/quernstone/quernstone/sparql/Values$Order;" (.ref w3)) (S_EQUAL : Sta Z h0 "com/example/quernstone/quernstone/sparql/Values$Order" "EQUAL" "Lcom/example/quernstone/quernstone/sparql/Values$Order;" (.ref w5)) (S_GREATER : Sta Z h0 "com/example/quernstone/quernstone/sparql/Values$Order" "GREATER" "Lcom/example/quernstone/quernstone/sparql/Values$Order;" (.ref w7)) (S_UNORDERED : Sta Z h0 "com/example/quernstone/quernstone/sparql/Values$Order" "UNORDERED" "Lcom/example/quernstone/quernstone/sparql/Values$Order;" (.ref w9)) (ha9 : w3 = w3) (hc18 : p1 < (0 : Int32)) (ha33 : ¬ (w3 = w5)) (hc42 : ¬ (p1 = (0 : Int32))) (ha57 : ¬ (w3 = w7)) (hc66 : ¬ ((0 : Int32) < p1)) (ha81 : ¬ (w3 = w9)) (hc91 : ¬ ((1 : Int32) = (0 : Int32))) (hc99 : ¬ (p1 = (-2147483648 : Int32))) (ha114 : w3 = w3) (ha126 : w7 = w7) (ha141 : ¬ (w3 = w7)) (ha153 : ¬ (w7 = w3)) (ha168 : ¬ (w3 = w5)) (ha180 : ¬ (w7 = w5)) (hm1 : ¬ (-p1 < (0 : Int32))) (hm2 : (0 : Int32) < -p1) :
    MetFree l x (head1 (Jvm.Cond.code x code maxLocals ret :: ws) room_1) (fun a U => a = #[(.int p1)] ∧ Z.Warmed39 U.vm ∧ U.heap = h0) (fun _ _ _ _ _ => True) (fun _ U o U' => ∃ v L, o = .returned v ∧ Q0_a Z p1 w3 w5 w7 w9 h0 n0 v U'.heap L ∧ FrameEnd U o U' L room_1.cells room_1.slots) := by
  refine MetFree.of_bodySF (plainFor_of_name pn_0) hisR ?_
  intro p e s m args below meth c s₁ Bd hml0 hP hK
  obtain ⟨rfl, hZ, hh⟩ := hP
  have hx := Bd.exec
  have hby := Bd.bytes
  have hml : c.maxLocals = 4 := hml0
  have hown : s.vm.findClass "com/example/quernstone/quernstone/sparql/ValuesOfPinLaw" = some m.cls := findClass_of_methodNamed Bd.named
  have hnm := (name_of_methodNamed Bd.named Bd.method).1
  have X0 : Stand p l e room_1 s m #[(.int p1)] below meth c s₁ [] 0 0 := Stand.of_body Bd
  have e0 : s₁.heap = h0 := by rw [← hh, Bd.state]; rfl
  have N0 := Fr.nil n0
  have pre0 : ∀ t, Steps p.tables e below (s₁.setTop (mkF m 0 #[.val (.int p1), .unset, .unset, .unset] [])) t → Steps p.tables e below (s₁.setTop (entryFrame m #[(.int p1)] maxLocals)) t := fun t k => castTop (ef_0 m p1) k
  obtain ⟨_, _, ⟨T2, L2, k2, n2⟩, -, X2, ⟨Lc2, hQ2, l2, y2, z2⟩, st2⟩ := Jvm.LawKit.callS X0 hx (y := (⟨"com/example/quernstone/quernstone/sparql/Values$Order", "of", "(I)Lcom/example/quernstone/quernstone/sparql/Values$Order;"⟩ : MethodName)) hown (mvT hZ (hw _ (List.mem_of_getElem? (i := 0) rfl))) (mvT hZ (hw _ (List.mem_of_getElem? (i := 1) rfl))) (mvT hZ (hw _ (List.mem_of_getElem? (i := 2) rfl))) (mvT hZ (hw _ (List.mem_of_getElem? (i := 3) rfl))) (by decide) (backOf (W := 0) (rm1_f l Z a0 hw [] p1 w3 h0 n0 Z0 S_LESS hc18) hZ (hw _ (List.mem_of_getElem? (i := 3) rfl)) (hw _ (List.mem_of_getElem? (i := 2) rfl)) (by decide) (by decide)) (g := (mkF m 1 #[.val (.int p1), .unset, .unset, .unset] [(.int p1)])) rfl (by rw [hml]; rfl) (argsL := [(.int p1)]) (rest := []) (lenOf pd_0_0_a rfl) rfl (by show 2 * 0 + _ ≤ _; exact Nat.le_of_eq rfl) (hb hby at_1) (fun _ _ => ⟨rfl, e0, (by decide : 0 + 0 ≤ _), (by decide : 0 + 0 ≤ _)⟩)
  dsimp only [Pt.U, Pt.locs, Pt.cells, Pt.slots] at X2 l2 y2 z2 st2 hQ2
  subst l2 y2 z2
  obtain ⟨rfl, N2q, hh2⟩ := hQ2
  have N2 := Fr.app N0 N2q
  obtain ⟨T4, X4, e4, st4⟩ := getS2 X2 hx hZ hown (host := "") (Or.inl (hw _ (List.mem_of_getElem? (i := 6) rfl))) Via.refl hh2 S_LESS (g := (mkF m 6 #[.val (.int p1), .val (.ref w3), .unset, .unset] [(.ref w3)])) rfl (hb hby at_6)
  obtain ⟨T6, X6, e6, st6⟩ := getS2 X4 hx hZ hown (host := "") (Or.inl (hw _ (List.mem_of_getElem? (i := 8) rfl))) Via.refl e4 S_EQUAL (g := (mkF m 30 #[.val (.int p1), .val (.ref w3), .unset, .unset] [(.ref w3)])) rfl (hb hby at_30)
  obtain ⟨T8, X8, e8, st8⟩ := getS2 X6 hx hZ hown (host := "") (Or.inl (hw _ (List.mem_of_getElem? (i := 9) rfl))) Via.refl e6 S_GREATER (g := (mkF m 54 #[.val (.int p1), .val (.ref w3), .unset, .unset] [(.ref w3)])) rfl (hb hby at_54)
  obtain ⟨T10, X10, e10, st10⟩ := getS2 X8 hx hZ hown (host := "") (Or.inl (hw _ (List.mem_of_getElem? (i := 11) rfl))) Via.refl e8 S_UNORDERED (g := (mkF m 78 #[.val (.int p1), .val (.ref w3), .unset, .unset] [(.ref w3)])) rfl (hb hby at_78)
  obtain ⟨_, _, ⟨T11, L11, k11, n11⟩, -, X11, ⟨Lc11, hQ11, l11, y11, z11⟩, st11⟩ := Jvm.LawKit.callS X10 hx (y := (⟨"com/example/quernstone/quernstone/sparql/Values$Order", "of", "(I)Lcom/example/quernstone/quernstone/sparql/Values$Order;"⟩ : MethodName)) hown (mvT hZ (hw _ (List.mem_of_getElem? (i := 0) rfl))) (mvT hZ (hw _ (List.mem_of_getElem? (i := 1) rfl))) (mvT hZ (hw _ (List.mem_of_getElem? (i := 2) rfl))) (mvT hZ (hw _ (List.mem_of_getElem? (i := 3) rfl))) (by decide) (backOf (W := 0) (rm1_tf l Z a0 hw [] (-p1) w7 h0 n0 Z0 S_GREATER hm1 hm2) hZ (hw _ (List.mem_of_getElem? (i := 3) rfl)) (hw _ (List.mem_of_getElem? (i := 2) rfl)) (by decide) (by decide)) (g := (mkF m 106 #[.val (.int p1), .val (.ref w3), .val (.int (1 : Int32)), .unset] [(.int (-p1))])) rfl (by rw [hml]; rfl) (argsL := [(.int (-p1))]) (rest := []) (lenOf pd_0_0_a rfl) rfl (by show 2 * 0 + _ ≤ _; exact Nat.le_of_eq rfl) (hb hby at_106) (fun _ _ => ⟨rfl, e10, (by decide : 0 + 0 ≤ _), (by decide : 0 + 0 ≤ _)⟩)
  dsimp only [Pt.U, Pt.locs, Pt.cells, Pt.slots] at X11 l11 y11 z11 st11 hQ11
  subst l11 y11 z11
  obtain ⟨rfl, N11q, hh11⟩ := hQ11
  have N11 := Fr.app N2 N11q
  obtain ⟨T12, X12, e12, st12⟩ := getS2 X11 hx hZ hown (host := "") (Or.inl (hw _ (List.mem_of_getElem? (i := 6) rfl))) Via.refl hh11 S_LESS (g := (mkF m 111 #[.val (.int p1), .val (.ref w3), .val (.int (1 : Int32)), .val (.ref w7)] [(.ref w3)])) rfl (hb hby at_111)
  obtain ⟨T13, X13, e13, st13⟩ := getS2 X12 hx hZ hown (host := "") (Or.inl (hw _ (List.mem_of_getElem? (i := 9) rfl))) Via.refl e12 S_GREATER (g := (mkF m 123 #[.val (.int p1), .val (.ref w3), .val (.int (1 : Int32)), .val (.ref w7)] [(.ref w7), (.int (1 : Int32))])) rfl (hb hby at_123)
  obtain ⟨T14, X14, e14, st14⟩ := getS2 X13 hx hZ hown (host := "") (Or.inl (hw _ (List.mem_of_getElem? (i := 9) rfl))) Via.refl e13 S_GREATER (g := (mkF m 138 #[.val (.int p1), .val (.ref w3), .val (.int (1 : Int32)), .val (.ref w7)] [(.ref w3)])) rfl (hb hby at_138)
  obtain ⟨T15, X15, e15, st15⟩ := getS2 X14 hx hZ hown (host := "") (Or.inl (hw _ (List.mem_of_getElem? (i := 6) rfl))) Via.refl e14 S_LESS (g := (mkF m 150 #[.val (.int p1), .val (.ref w3), .val (.int (1 : Int32)), .val (.ref w7)] [(.ref w7), (.int (0 : Int32))])) rfl (hb hby at_150)
  obtain ⟨T16, X16, e16, st16⟩ := getS2 X15 hx hZ hown (host := "") (Or.inl (hw _ (List.mem_of_getElem? (i := 8) rfl))) Via.refl e15 S_EQUAL (g := (mkF m 165 #[.val (.int p1), .val (.ref w3), .val (.int (1 : Int32)), .val (.ref w7)] [(.ref w3)])) rfl (hb hby at_165)
  obtain ⟨T17, X17, e17, st17⟩ := getS2 X16 hx hZ hown (host := "") (Or.inl (hw _ (List.mem_of_getElem? (i := 8) rfl))) Via.refl e16 S_EQUAL (g := (mkF m 177 #[.val (.int p1), .val (.ref w3), .val (.int (1 : Int32)), .val (.ref w7)] [(.ref w7), (.int (0 : Int32))])) rfl (hb hby at_177)
  obtain ⟨fs, hr, hrun, hended, hW, hsame⟩ := X17.leave (v := some (.int (1 : Int32))) (fun h => by rw [Bd.returns] at h; cases h)
  refine ⟨_, _, pre0 _ ?_, hrun, hended, _, _, rfl, ?_, ⟨_, rfl⟩, hW, hsame.mono (by decide) (by decide)⟩
  · show Steps p.tables e below (s₁.setTop (mkF m 0 #[.val (.int p1), .unset, .unset, .unset] [])) _
    refine XS.iloadN X0.here hx rfl (hb hby at_0) rfl ?_
    show Steps p.tables e below (s₁.setTop (mkF m 1 #[.val (.int p1), .unset, .unset, .unset] [(.int p1)])) _
    refine st2 _ ?_
    show Steps p.tables e below (T2.setTop (mkF m 4 #[.val (.int p1), .unset, .unset, .unset] [(.ref w3)])) _
    refine XS.astoreN X2.here hx rfl (hb hby at_4) rfl rfl (l' := #[.val (.int p1), .val (.ref w3), .unset, .unset]) rfl ?_
    show Steps p.tables e below (T2.setTop (mkF m 5 #[.val (.int p1), .val (.ref w3), .unset, .unset] [])) _
    refine XS.aloadN X2.here hx rfl (hb hby at_5) rfl rfl ?_
    show Steps p.tables e below (T2.setTop (mkF m 6 #[.val (.int p1), .val (.ref w3), .unset, .unset] [(.ref w3)])) _
    refine st4 _ ?_
    show Steps p.tables e below (T4.setTop (mkF m 9 #[.val (.int p1), .val (.ref w3), .unset, .unset] [(.ref w3), (.ref w3)])) _
    refine Jvm.RoadKit.acmp (g := (mkF m 9 #[.val (.int p1), .val (.ref w3), .unset, .unset] [(.ref w3), (.ref w3)])) X4 hx rfl rfl rfl (pc0 := 9) (pc' := 12) (same := true) rfl (hb hby at_9) rfl (decide_eq_true (congrArg Value.ref ha9)) (by decide) (by decide) ?_
    show Steps p.tables e below (T4.setTop (mkF m 12 #[.val (.int p1), .val (.ref w3), .unset, .unset] [])) _
    refine XS.iconst X4.here hx rfl (hb hby at_12) ?_
    show Steps p.tables e below (T4.setTop (mkF m 13 #[.val (.int p1), .val (.ref w3), .unset, .unset] [(.int (1 : Int32))])) _
    refine XS.goto X4.here hx rfl (pc0 := 13) (pc' := 17) rfl (hb hby at_13) (by decide) (by decide) ?_
    show Steps p.tables e below (T4.setTop (mkF m 17 #[.val (.int p1), .val (.ref w3), .unset, .unset] [(.int (1 : Int32))])) _
    refine XS.iloadN X4.here hx rfl (hb hby at_17) rfl ?_
    show Steps p.tables e below (T4.setTop (mkF m 18 #[.val (.int p1), .val (.ref w3), .unset, .unset] [(.int p1), (.int (1 : Int32))])) _
    refine XS.ifNo X4.here hx rfl (hb hby at_18) rfl ((if0 _ _).trans (tlt hc18).2.1) ?_
    show Steps p.tables e below (T4.setTop (mkF m 21 #[.val (.int p1), .val (.ref w3), .unset, .unset] [(.int (1 : Int32))])) _
    refine XS.iconst X4.here hx rfl (hb hby at_21) ?_
    show Steps p.tables e below (T4.setTop (mkF m 22 #[.val (.int p1), .val (.ref w3), .unset, .unset] [(.int (1 : Int32)), (.int (1 : Int32))])) _
    refine XS.goto X4.here hx rfl (pc0 := 22) (pc' := 26) rfl (hb hby at_22) (by decide) (by decide) ?_
    show Steps p.tables e below (T4.setTop (mkF m 26 #[.val (.int p1), .val (.ref w3), .unset, .unset] [(.int (1 : Int32)), (.int (1 : Int32))])) _
    refine XS.icmpNo X4.here hx rfl (hb hby at_26) rfl (teq (rfl : (1 : Int32) = (1 : Int32))).2 ?_
    show Steps p.tables e below (T4.setTop (mkF m 29 #[.val (.int p1), .val (.ref w3), .unset, .unset] [])) _
    refine XS.aloadN X4.here hx rfl (hb hby at_29) rfl rfl ?_
    show Steps p.tables e below (T4.setTop (mkF m 30 #[.val (.int p1), .val (.ref w3), .unset, .unset] [(.ref w3)])) _
    refine st6 _ ?_
    show Steps p.tables e below (T6.setTop (mkF m 33 #[.val (.int p1), .val (.ref w3), .unset, .unset] [(.ref w5), (.ref w3)])) _
    refine Jvm.RoadKit.acmp (g := (mkF m 33 #[.val (.int p1), .val (.ref w3), .unset, .unset] [(.ref w5), (.ref w3)])) X6 hx rfl rfl rfl (pc0 := 33) (pc' := 40) (same := false) rfl (hb hby at_33) rfl (decide_eq_false fun q => ha33 (Value.ref.inj q)) (by decide) (by decide) ?_
    show Steps p.tables e below (T6.setTop (mkF m 40 #[.val (.int p1), .val (.ref w3), .unset, .unset] [])) _
    refine XS.iconst X6.here hx rfl (hb hby at_40) ?_
    show Steps p.tables e below (T6.setTop (mkF m 41 #[.val (.int p1), .val (.ref w3), .unset, .unset] [(.int (0 : Int32))])) _
    refine XS.iloadN X6.here hx rfl (hb hby at_41) rfl ?_
    show Steps p.tables e below (T6.setTop (mkF m 42 #[.val (.int p1), .val (.ref w3), .unset, .unset] [(.int p1), (.int (0 : Int32))])) _
    refine XS.ifYes X6.here hx rfl (pc0 := 42) (pc' := 49) rfl (hb hby at_42) rfl ((if0 _ _).trans (feq hc42).2) (by decide) (by decide) ?_
    show Steps p.tables e below (T6.setTop (mkF m 49 #[.val (.int p1), .val (.ref w3), .unset, .unset] [(.int (0 : Int32))])) _
    refine XS.iconst X6.here hx rfl (hb hby at_49) ?_
    show Steps p.tables e below (T6.setTop (mkF m 50 #[.val (.int p1), .val (.ref w3), .unset, .unset] [(.int (0 : Int32)), (.int (0 : Int32))])) _
    refine XS.icmpNo X6.here hx rfl (hb hby at_50) rfl (teq (rfl : (0 : Int32) = (0 : Int32))).2 ?_
    show Steps p.tables e below (T6.setTop (mkF m 53 #[.val (.int p1), .val (.ref w3), .unset, .unset] [])) _
    refine XS.aloadN X6.here hx rfl (hb hby at_53) rfl rfl ?_
    show Steps p.tables e below (T6.setTop (mkF m 54 #[.val (.int p1), .val (.ref w3), .unset, .unset] [(.ref w3)])) _
    refine st8 _ ?_
    show Steps p.tables e below (T8.setTop (mkF m 57 #[.val (.int p1), .val (.ref w3), .unset, .unset] [(.ref w7), (.ref w3)])) _
    refine Jvm.RoadKit.acmp (g := (mkF m 57 #[.val (.int p1), .val (.ref w3), .unset, .unset] [(.ref w7), (.ref w3)])) X8 hx rfl rfl rfl (pc0 := 57) (pc' := 64) (same := false) rfl (hb hby at_57) rfl (decide_eq_false fun q => ha57 (Value.ref.inj q)) (by decide) (by decide) ?_
    show Steps p.tables e below (T8.setTop (mkF m 64 #[.val (.int p1), .val (.ref w3), .unset, .unset] [])) _
    refine XS.iconst X8.here hx rfl (hb hby at_64) ?_
    show Steps p.tables e below (T8.setTop (mkF m 65 #[.val (.int p1), .val (.ref w3), .unset, .unset] [(.int (0 : Int32))])) _
    refine XS.iloadN X8.here hx rfl (hb hby at_65) rfl ?_
    show Steps p.tables e below (T8.setTop (mkF m 66 #[.val (.int p1), .val (.ref w3), .unset, .unset] [(.int p1), (.int (0 : Int32))])) _
    refine XS.ifYes X8.here hx rfl (pc0 := 66) (pc' := 73) rfl (hb hby at_66) rfl ((if0 _ _).trans (flt hc66).2.2.2) (by decide) (by decide) ?_
    show Steps p.tables e below (T8.setTop (mkF m 73 #[.val (.int p1), .val (.ref w3), .unset, .unset] [(.int (0 : Int32))])) _
    refine XS.iconst X8.here hx rfl (hb hby at_73) ?_
    show Steps p.tables e below (T8.setTop (mkF m 74 #[.val (.int p1), .val (.ref w3), .unset, .unset] [(.int (0 : Int32)), (.int (0 : Int32))])) _
    refine XS.icmpNo X8.here hx rfl (hb hby at_74) rfl (teq (rfl : (0 : Int32) = (0 : Int32))).2 ?_
    show Steps p.tables e below (T8.setTop (mkF m 77 #[.val (.int p1), .val (.ref w3), .unset, .unset] [])) _
    refine XS.aloadN X8.here hx rfl (hb hby at_77) rfl rfl ?_
    show Steps p.tables e below (T8.setTop (mkF m 78 #[.val (.int p1), .val (.ref w3), .unset, .unset] [(.ref w3)])) _
    refine st10 _ ?_
    show Steps p.tables e below (T10.setTop (mkF m 81 #[.val (.int p1), .val (.ref w3), .unset, .unset] [(.ref w9), (.ref w3)])) _
    refine Jvm.RoadKit.acmp (g := (mkF m 81 #[.val (.int p1), .val (.ref w3), .unset, .unset] [(.ref w9), (.ref w3)])) X10 hx rfl rfl rfl (pc0 := 81) (pc' := 84) (same := false) rfl (hb hby at_81) rfl (decide_eq_false fun q => ha81 (Value.ref.inj q)) (by decide) (by decide) ?_
    show Steps p.tables e below (T10.setTop (mkF m 84 #[.val (.int p1), .val (.ref w3), .unset, .unset] [])) _
    refine XS.iconst X10.here hx rfl (hb hby at_84) ?_
    show Steps p.tables e below (T10.setTop (mkF m 85 #[.val (.int p1), .val (.ref w3), .unset, .unset] [(.int (1 : Int32))])) _
    refine XS.goto X10.here hx rfl (pc0 := 85) (pc' := 89) rfl (hb hby at_85) (by decide) (by decide) ?_
    show Steps p.tables e below (T10.setTop (mkF m 89 #[.val (.int p1), .val (.ref w3), .unset, .unset] [(.int (1 : Int32))])) _
    refine XS.istoreN X10.here hx rfl (hb hby at_89) rfl (l' := #[.val (.int p1), .val (.ref w3), .val (.int (1 : Int32)), .unset]) rfl ?_
    show Steps p.tables e below (T10.setTop (mkF m 90 #[.val (.int p1), .val (.ref w3), .val (.int (1 : Int32)), .unset] [])) _
    refine XS.iloadN X10.here hx rfl (hb hby at_90) rfl ?_
    show Steps p.tables e below (T10.setTop (mkF m 91 #[.val (.int p1), .val (.ref w3), .val (.int (1 : Int32)), .unset] [(.int (1 : Int32))])) _
    refine XS.ifYes X10.here hx rfl (pc0 := 91) (pc' := 96) rfl (hb hby at_91) rfl ((if0 _ _).trans (feq hc91).2) (by decide) (by decide) ?_
    show Steps p.tables e below (T10.setTop (mkF m 96 #[.val (.int p1), .val (.ref w3), .val (.int (1 : Int32)), .unset] [])) _
    refine XS.iloadN X10.here hx rfl (hb hby at_96) rfl ?_
    show Steps p.tables e below (T10.setTop (mkF m 97 #[.val (.int p1), .val (.ref w3), .val (.int (1 : Int32)), .unset] [(.int p1)])) _
    refine X10.ldcInt hx hown (mvT hZ (hw _ (List.mem_of_getElem? (i := 13) rfl))) (g := (mkF m 97 #[.val (.int p1), .val (.ref w3), .val (.int (1 : Int32)), .unset] [(.int p1)])) rfl (hb hby at_97) _ ?_
    show Steps p.tables e below (T10.setTop (mkF m 99 #[.val (.int p1), .val (.ref w3), .val (.int (1 : Int32)), .unset] [(.int (-2147483648 : Int32)), (.int p1)])) _
    refine XS.icmpYes X10.here hx rfl (pc0 := 99) (pc' := 104) rfl (hb hby at_99) rfl (feq hc99).2 (by decide) (by decide) ?_
    show Steps p.tables e below (T10.setTop (mkF m 104 #[.val (.int p1), .val (.ref w3), .val (.int (1 : Int32)), .unset] [])) _
    refine XS.iloadN X10.here hx rfl (hb hby at_104) rfl ?_
    show Steps p.tables e below (T10.setTop (mkF m 105 #[.val (.int p1), .val (.ref w3), .val (.int (1 : Int32)), .unset] [(.int p1)])) _
    refine XS.ineg X10.here hx rfl (hb hby at_105) rfl ?_
    show Steps p.tables e below (T10.setTop (mkF m 106 #[.val (.int p1), .val (.ref w3), .val (.int (1 : Int32)), .unset] [(.int (-p1))])) _
    refine st11 _ ?_
    show Steps p.tables e below (T11.setTop (mkF m 109 #[.val (.int p1), .val (.ref w3), .val (.int (1 : Int32)), .unset] [(.ref w7)])) _
    refine XS.astoreN X11.here hx rfl (hb hby at_109) rfl rfl (l' := #[.val (.int p1), .val (.ref w3), .val (.int (1 : Int32)), .val (.ref w7)]) rfl ?_
    show Steps p.tables e below (T11.setTop (mkF m 110 #[.val (.int p1), .val (.ref w3), .val (.int (1 : Int32)), .val (.ref w7)] [])) _
    refine XS.aloadN X11.here hx rfl (hb hby at_110) rfl rfl ?_
    show Steps p.tables e below (T11.setTop (mkF m 111 #[.val (.int p1), .val (.ref w3), .val (.int (1 : Int32)), .val (.ref w7)] [(.ref w3)])) _
    refine st12 _ ?_
    show Steps p.tables e below (T12.setTop (mkF m 114 #[.val (.int p1), .val (.ref w3), .val (.int (1 : Int32)), .val (.ref w7)] [(.ref w3), (.ref w3)])) _
    refine Jvm.RoadKit.acmp (g := (mkF m 114 #[.val (.int p1), .val (.ref w3), .val (.int (1 : Int32)), .val (.ref w7)] [(.ref w3), (.ref w3)])) X12 hx rfl rfl rfl (pc0 := 114) (pc' := 117) (same := true) rfl (hb hby at_114) rfl (decide_eq_true (congrArg Value.ref ha114)) (by decide) (by decide) ?_
    show Steps p.tables e below (T12.setTop (mkF m 117 #[.val (.int p1), .val (.ref w3), .val (.int (1 : Int32)), .val (.ref w7)] [])) _
    refine XS.iconst X12.here hx rfl (hb hby at_117) ?_
    show Steps p.tables e below (T12.setTop (mkF m 118 #[.val (.int p1), .val (.ref w3), .val (.int (1 : Int32)), .val (.ref w7)] [(.int (1 : Int32))])) _
    refine XS.goto X12.here hx rfl (pc0 := 118) (pc' := 122) rfl (hb hby at_118) (by decide) (by decide) ?_
    show Steps p.tables e below (T12.setTop (mkF m 122 #[.val (.int p1), .val (.ref w3), .val (.int (1 : Int32)), .val (.ref w7)] [(.int (1 : Int32))])) _
    refine XS.aloadN X12.here hx rfl (hb hby at_122) rfl rfl ?_
    show Steps p.tables e below (T12.setTop (mkF m 123 #[.val (.int p1), .val (.ref w3), .val (.int (1 : Int32)), .val (.ref w7)] [(.ref w7), (.int (1 : Int32))])) _
    refine st13 _ ?_
    show Steps p.tables e below (T13.setTop (mkF m 126 #[.val (.int p1), .val (.ref w3), .val (.int (1 : Int32)), .val (.ref w7)] [(.ref w7), (.ref w7), (.int (1 : Int32))])) _
    refine Jvm.RoadKit.acmp (g := (mkF m 126 #[.val (.int p1), .val (.ref w3), .val (.int (1 : Int32)), .val (.ref w7)] [(.ref w7), (.ref w7), (.int (1 : Int32))])) X13 hx rfl rfl rfl (pc0 := 126) (pc' := 129) (same := true) rfl (hb hby at_126) rfl (decide_eq_true (congrArg Value.ref ha126)) (by decide) (by decide) ?_
    show Steps p.tables e below (T13.setTop (mkF m 129 #[.val (.int p1), .val (.ref w3), .val (.int (1 : Int32)), .val (.ref w7)] [(.int (1 : Int32))])) _
    refine XS.iconst X13.here hx rfl (hb hby at_129) ?_
    show Steps p.tables e below (T13.setTop (mkF m 130 #[.val (.int p1), .val (.ref w3), .val (.int (1 : Int32)), .val (.ref w7)] [(.int (1 : Int32)), (.int (1 : Int32))])) _
    refine XS.goto X13.here hx rfl (pc0 := 130) (pc' := 134) rfl (hb hby at_130) (by decide) (by decide) ?_
    show Steps p.tables e below (T13.setTop (mkF m 134 #[.val (.int p1), .val (.ref w3), .val (.int (1 : Int32)), .val (.ref w7)] [(.int (1 : Int32)), (.int (1 : Int32))])) _
    refine XS.icmpNo X13.here hx rfl (hb hby at_134) rfl (teq (rfl : (1 : Int32) = (1 : Int32))).2 ?_
    show Steps p.tables e below (T13.setTop (mkF m 137 #[.val (.int p1), .val (.ref w3), .val (.int (1 : Int32)), .val (.ref w7)] [])) _
    refine XS.aloadN X13.here hx rfl (hb hby at_137) rfl rfl ?_
    show Steps p.tables e below (T13.setTop (mkF m 138 #[.val (.int p1), .val (.ref w3), .val (.int (1 : Int32)), .val (.ref w7)] [(.ref w3)])) _
    refine st14 _ ?_
    show Steps p.tables e below (T14.setTop (mkF m 141 #[.val (.int p1), .val (.ref w3), .val (.int (1 : Int32)), .val (.ref w7)] [(.ref w7), (.ref w3)])) _
    refine Jvm.RoadKit.acmp (g := (mkF m 141 #[.val (.int p1), .val (.ref w3), .val (.int (1 : Int32)), .val (.ref w7)] [(.ref w7), (.ref w3)])) X14 hx rfl rfl rfl (pc0 := 141) (pc' := 148) (same := false) rfl (hb hby at_141) rfl (decide_eq_false fun q => ha141 (Value.ref.inj q)) (by decide) (by decide) ?_
    show Steps p.tables e below (T14.setTop (mkF m 148 #[.val (.int p1), .val (.ref w3), .val (.int (1 : Int32)), .val (.ref w7)] [])) _
    refine XS.iconst X14.here hx rfl (hb hby at_148) ?_
    show Steps p.tables e below (T14.setTop (mkF m 149 #[.val (.int p1), .val (.ref w3), .val (.int (1 : Int32)), .val (.ref w7)] [(.int (0 : Int32))])) _
    refine XS.aloadN X14.here hx rfl (hb hby at_149) rfl rfl ?_
    show Steps p.tables e below (T14.setTop (mkF m 150 #[.val (.int p1), .val (.ref w3), .val (.int (1 : Int32)), .val (.ref w7)] [(.ref w7), (.int (0 : Int32))])) _
    refine st15 _ ?_
    show Steps p.tables e below (T15.setTop (mkF m 153 #[.val (.int p1), .val (.ref w3), .val (.int (1 : Int32)), .val (.ref w7)] [(.ref w3), (.ref w7), (.int (0 : Int32))])) _
    refine Jvm.RoadKit.acmp (g := (mkF m 153 #[.val (.int p1), .val (.ref w3), .val (.int (1 : Int32)), .val (.ref w7)] [(.ref w3), (.ref w7), (.int (0 : Int32))])) X15 hx rfl rfl rfl (pc0 := 153) (pc' := 160) (same := false) rfl (hb hby at_153) rfl (decide_eq_false fun q => ha153 (Value.ref.inj q)) (by decide) (by decide) ?_
    show Steps p.tables e below (T15.setTop (mkF m 160 #[.val (.int p1), .val (.ref w3), .val (.int (1 : Int32)), .val (.ref w7)] [(.int (0 : Int32))])) _
    refine XS.iconst X15.here hx rfl (hb hby at_160) ?_
    show Steps p.tables e below (T15.setTop (mkF m 161 #[.val (.int p1), .val (.ref w3), .val (.int (1 : Int32)), .val (.ref w7)] [(.int (0 : Int32)), (.int (0 : Int32))])) _
    refine XS.icmpNo X15.here hx rfl (hb hby at_161) rfl (teq (rfl : (0 : Int32) = (0 : Int32))).2 ?_
    show Steps p.tables e below (T15.setTop (mkF m 164 #[.val (.int p1), .val (.ref w3), .val (.int (1 : Int32)), .val (.ref w7)] [])) _
    refine XS.aloadN X15.here hx rfl (hb hby at_164) rfl rfl ?_
    show Steps p.tables e below (T15.setTop (mkF m 165 #[.val (.int p1), .val (.ref w3), .val (.int (1 : Int32)), .val (.ref w7)] [(.ref w3)])) _
    refine st16 _ ?_
    show Steps p.tables e below (T16.setTop (mkF m 168 #[.val (.int p1), .val (.ref w3), .val (.int (1 : Int32)), .val (.ref w7)] [(.ref w5), (.ref w3)])) _
    refine Jvm.RoadKit.acmp (g := (mkF m 168 #[.val (.int p1), .val (.ref w3), .val (.int (1 : Int32)), .val (.ref w7)] [(.ref w5), (.ref w3)])) X16 hx rfl rfl rfl (pc0 := 168) (pc' := 175) (same := false) rfl (hb hby at_168) rfl (decide_eq_false fun q => ha168 (Value.ref.inj q)) (by decide) (by decide) ?_
    show Steps p.tables e below (T16.setTop (mkF m 175 #[.val (.int p1), .val (.ref w3), .val (.int (1 : Int32)), .val (.ref w7)] [])) _
    refine XS.iconst X16.here hx rfl (hb hby at_175) ?_
    show Steps p.tables e below (T16.setTop (mkF m 176 #[.val (.int p1), .val (.ref w3), .val (.int (1 : Int32)), .val (.ref w7)] [(.int (0 : Int32))])) _
    refine XS.aloadN X16.here hx rfl (hb hby at_176) rfl rfl ?_
    show Steps p.tables e below (T16.setTop (mkF m 177 #[.val (.int p1), .val (.ref w3), .val (.int (1 : Int32)), .val (.ref w7)] [(.ref w7), (.int (0 : Int32))])) _
    refine st17 _ ?_
    show Steps p.tables e below (T17.setTop (mkF m 180 #[.val (.int p1), .val (.ref w3), .val (.int (1 : Int32)), .val (.ref w7)] [(.ref w5), (.ref w7), (.int (0 : Int32))])) _
    refine Jvm.RoadKit.acmp (g := (mkF m 180 #[.val (.int p1), .val (.ref w3), .val (.int (1 : Int32)), .val (.ref w7)] [(.ref w5), (.ref w7), (.int (0 : Int32))])) X17 hx rfl rfl rfl (pc0 := 180) (pc' := 187) (same := false) rfl (hb hby at_180) rfl (decide_eq_false fun q => ha180 (Value.ref.inj q)) (by decide) (by decide) ?_
    show Steps p.tables e below (T17.setTop (mkF m 187 #[.val (.int p1), .val (.ref w3), .val (.int (1 : Int32)), .val (.ref w7)] [(.int (0 : Int32))])) _
    refine XS.iconst X17.here hx rfl (hb hby at_187) ?_
    show Steps p.tables e below (T17.setTop (mkF m 188 #[.val (.int p1), .val (.ref w3), .val (.int (1 : Int32)), .val (.ref w7)] [(.int (0 : Int32)), (.int (0 : Int32))])) _
    refine XS.icmpNo X17.here hx rfl (hb hby at_188) rfl (teq (rfl : (0 : Int32) = (0 : Int32))).2 ?_
    show Steps p.tables e below (T17.setTop (mkF m 191 #[.val (.int p1), .val (.ref w3), .val (.int (1 : Int32)), .val (.ref w7)] [])) _
    refine XS.iconst X17.here hx rfl (hb hby at_191) ?_
    show Steps p.tables e below (T17.setTop (mkF m 192 #[.val (.int p1), .val (.ref w3), .val (.int (1 : Int32)), .val (.ref w7)] [(.int (1 : Int32))])) _
    refine XS.goto X17.here hx rfl (pc0 := 192) (pc' := 196) rfl (hb hby at_192) (by decide) (by decide) ?_
    show Steps p.tables e below (T17.setTop (mkF m 196 #[.val (.int p1), .val (.ref w3), .val (.int (1 : Int32)), .val (.ref w7)] [(.int (1 : Int32))])) _
    exact retN X17 hx (t := .boolean) Bd.returns (by simp) (hb hby at_196) hr
  · show Q0_a Z p1 w3 w5 w7 w9 h0 n0 _ T17.heap _
    rw [e17]
    exact ⟨rfl, N11⟩
def Q0_b (Z : State) (p1 : Int32) (w3 : Addr) (w5 : Addr) (w7 : Addr) (w9 : Addr) (h0 : Heap) (n0 : Nat) (v : Option Value) (h : Heap) (L : List Loc) : Prop := v = some (.int (1 : Int32)) ∧ Fr n0 L
set_option maxRecDepth 65536 in
set_option maxHeartbeats 40000000 in
theorem rm0_b (l : Launch) (Z : State) (a0 : Array Value) (hw : ∀ d ∈ tables_1, d.before a0 Z = true) (ws : List Jvm.Cond) (p1 : Int32) (w3 : Addr) (w5 : Addr) (w7 : Addr) (w9 : Addr) (h0 : Heap) (n0 : Nat) (Z0 : n0 ≤ h0.size) (S_LESS : Sta Z h0 "com/example/quernstone/quernstone/sparql/Values$Order" "LESS" "Lcom/example/quernstone/quernstone/sparql/Values$Order;" (.ref w3)) (S_EQUAL : Sta Z h0 "com/example/quernstone/quernstone/sparql/Values$Order" "EQUAL" "Lcom/example/quernstone/quernstone/sparql/Values$Order;" (.ref w5)) (S_GREATER : Sta Z h0 "com/example/quernstone/quernstone/sparql/Values$Order" "GREATER" "Lcom/example/quernstone/quernstone/sparql/Values$Order;" (.ref w7)) (S_UNORDERED : Sta Z h0 "com/example/quernstone/quernstone/sparql/Values$Order" "UNORDERED" "Lcom/example/quernstone/quernstone/sparql/Values$Order;" (.ref w9)) (ha9 : w3 = w3) (hc18 : p1 < (0 : Int32)) (ha33 : ¬ (w3 = w5)) (hc42 : ¬ (p1 = (0 : Int32))) (ha57 : ¬ (w3 = w7)) (hc66 : ¬ ((0 : Int32) < p1)) (ha81 : ¬ (w3 = w9)) (hc91 : ¬ ((1 : Int32) = (0 : Int32))) (hc99 : p1 = (-2147483648 : Int32)) :
    MetFree l x (head1 (Jvm.Cond.code x code maxLocals ret :: ws) room_1) (fun a U => a = #[(.int p1)] ∧ Z.Warmed39 U.vm ∧ U.heap = h0) (fun _ _ _ _ _ => True) (fun _ U o U' => ∃ v L, o = .returned v ∧ Q0_b Z p1 w3 w5 w7 w9 h0 n0 v U'.heap L ∧ FrameEnd U o U' L room_1.cells room_1.slots) := by
  refine MetFree.of_bodySF (plainFor_of_name pn_0) hisR ?_
  intro p e s m args below meth c s₁ Bd hml0 hP hK
  obtain ⟨rfl, hZ, hh⟩ := hP
  have hx := Bd.exec
  have hby := Bd.bytes
  have hml : c.maxLocals = 4 := hml0
  have hown : s.vm.findClass "com/example/quernstone/quernstone/sparql/ValuesOfPinLaw" = some m.cls := findClass_of_methodNamed Bd.named
  have hnm := (name_of_methodNamed Bd.named Bd.method).1
  have X0 : Stand p l e room_1 s m #[(.int p1)] below meth c s₁ [] 0 0 := Stand.of_body Bd
  have e0 : s₁.heap = h0 := by rw [← hh, Bd.state]; rfl
  have N0 := Fr.nil n0
  have pre0 : ∀ t, Steps p.tables e below (s₁.setTop (mkF m 0 #[.val (.int p1), .unset, .unset, .unset] [])) t → Steps p.tables e below (s₁.setTop (entryFrame m #[(.int p1)] maxLocals)) t := fun t k => castTop (ef_0 m p1) k
  obtain ⟨_, _, ⟨T2, L2, k2, n2⟩, -, X2, ⟨Lc2, hQ2, l2, y2, z2⟩, st2⟩ := Jvm.LawKit.callS X0 hx (y := (⟨"com/example/quernstone/quernstone/sparql/Values$Order", "of", "(I)Lcom/example/quernstone/quernstone/sparql/Values$Order;"⟩ : MethodName)) hown (mvT hZ (hw _ (List.mem_of_getElem? (i := 0) rfl))) (mvT hZ (hw _ (List.mem_of_getElem? (i := 1) rfl))) (mvT hZ (hw _ (List.mem_of_getElem? (i := 2) rfl))) (mvT hZ (hw _ (List.mem_of_getElem? (i := 3) rfl))) (by decide) (backOf (W := 0) (rm1_f l Z a0 hw [] p1 w3 h0 n0 Z0 S_LESS hc18) hZ (hw _ (List.mem_of_getElem? (i := 3) rfl)) (hw _ (List.mem_of_getElem? (i := 2) rfl)) (by decide) (by decide)) (g := (mkF m 1 #[.val (.int p1), .unset, .unset, .unset] [(.int p1)])) rfl (by rw [hml]; rfl) (argsL := [(.int p1)]) (rest := []) (lenOf pd_0_0_a rfl) rfl (by show 2 * 0 + _ ≤ _; exact Nat.le_of_eq rfl) (hb hby at_1) (fun _ _ => ⟨rfl, e0, (by decide : 0 + 0 ≤ _), (by decide : 0 + 0 ≤ _)⟩)
  dsimp only [Pt.U, Pt.locs, Pt.cells, Pt.slots] at X2 l2 y2 z2 st2 hQ2
  subst l2 y2 z2
  obtain ⟨rfl, N2q, hh2⟩ := hQ2
  have N2 := Fr.app N0 N2q
  obtain ⟨T4, X4, e4, st4⟩ := getS2 X2 hx hZ hown (host := "") (Or.inl (hw _ (List.mem_of_getElem? (i := 6) rfl))) Via.refl hh2 S_LESS (g := (mkF m 6 #[.val (.int p1), .val (.ref w3), .unset, .unset] [(.ref w3)])) rfl (hb hby at_6)
  obtain ⟨T6, X6, e6, st6⟩ := getS2 X4 hx hZ hown (host := "") (Or.inl (hw _ (List.mem_of_getElem? (i := 8) rfl))) Via.refl e4 S_EQUAL (g := (mkF m 30 #[.val (.int p1), .val (.ref w3), .unset, .unset] [(.ref w3)])) rfl (hb hby at_30)
  obtain ⟨T8, X8, e8, st8⟩ := getS2 X6 hx hZ hown (host := "") (Or.inl (hw _ (List.mem_of_getElem? (i := 9) rfl))) Via.refl e6 S_GREATER (g := (mkF m 54 #[.val (.int p1), .val (.ref w3), .unset, .unset] [(.ref w3)])) rfl (hb hby at_54)
  obtain ⟨T10, X10, e10, st10⟩ := getS2 X8 hx hZ hown (host := "") (Or.inl (hw _ (List.mem_of_getElem? (i := 11) rfl))) Via.refl e8 S_UNORDERED (g := (mkF m 78 #[.val (.int p1), .val (.ref w3), .unset, .unset] [(.ref w3)])) rfl (hb hby at_78)
  obtain ⟨fs, hr, hrun, hended, hW, hsame⟩ := X10.leave (v := some (.int (1 : Int32))) (fun h => by rw [Bd.returns] at h; cases h)
  refine ⟨_, _, pre0 _ ?_, hrun, hended, _, _, rfl, ?_, ⟨_, rfl⟩, hW, hsame.mono (by decide) (by decide)⟩
  · show Steps p.tables e below (s₁.setTop (mkF m 0 #[.val (.int p1), .unset, .unset, .unset] [])) _
    refine XS.iloadN X0.here hx rfl (hb hby at_0) rfl ?_
    show Steps p.tables e below (s₁.setTop (mkF m 1 #[.val (.int p1), .unset, .unset, .unset] [(.int p1)])) _
    refine st2 _ ?_
    show Steps p.tables e below (T2.setTop (mkF m 4 #[.val (.int p1), .unset, .unset, .unset] [(.ref w3)])) _
    refine XS.astoreN X2.here hx rfl (hb hby at_4) rfl rfl (l' := #[.val (.int p1), .val (.ref w3), .unset, .unset]) rfl ?_
    show Steps p.tables e below (T2.setTop (mkF m 5 #[.val (.int p1), .val (.ref w3), .unset, .unset] [])) _
    refine XS.aloadN X2.here hx rfl (hb hby at_5) rfl rfl ?_
    show Steps p.tables e below (T2.setTop (mkF m 6 #[.val (.int p1), .val (.ref w3), .unset, .unset] [(.ref w3)])) _
    refine st4 _ ?_
    show Steps p.tables e below (T4.setTop (mkF m 9 #[.val (.int p1), .val (.ref w3), .unset, .unset] [(.ref w3), (.ref w3)])) _
    refine Jvm.RoadKit.acmp (g := (mkF m 9 #[.val (.int p1), .val (.ref w3), .unset, .unset] [(.ref w3), (.ref w3)])) X4 hx rfl rfl rfl (pc0 := 9) (pc' := 12) (same := true) rfl (hb hby at_9) rfl (decide_eq_true (congrArg Value.ref ha9)) (by decide) (by decide) ?_
    show Steps p.tables e below (T4.setTop (mkF m 12 #[.val (.int p1), .val (.ref w3), .unset, .unset] [])) _
    refine XS.iconst X4.here hx rfl (hb hby at_12) ?_
    show Steps p.tables e below (T4.setTop (mkF m 13 #[.val (.int p1), .val (.ref w3), .unset, .unset] [(.int (1 : Int32))])) _
    refine XS.goto X4.here hx rfl (pc0 := 13) (pc' := 17) rfl (hb hby at_13) (by decide) (by decide) ?_
    show Steps p.tables e below (T4.setTop (mkF m 17 #[.val (.int p1), .val (.ref w3), .unset, .unset] [(.int (1 : Int32))])) _
    refine XS.iloadN X4.here hx rfl (hb hby at_17) rfl ?_
    show Steps p.tables e below (T4.setTop (mkF m 18 #[.val (.int p1), .val (.ref w3), .unset, .unset] [(.int p1), (.int (1 : Int32))])) _
    refine XS.ifNo X4.here hx rfl (hb hby at_18) rfl ((if0 _ _).trans (tlt hc18).2.1) ?_
    show Steps p.tables e below (T4.setTop (mkF m 21 #[.val (.int p1), .val (.ref w3), .unset, .unset] [(.int (1 : Int32))])) _
    refine XS.iconst X4.here hx rfl (hb hby at_21) ?_
    show Steps p.tables e below (T4.setTop (mkF m 22 #[.val (.int p1), .val (.ref w3), .unset, .unset] [(.int (1 : Int32)), (.int (1 : Int32))])) _
    refine XS.goto X4.here hx rfl (pc0 := 22) (pc' := 26) rfl (hb hby at_22) (by decide) (by decide) ?_
    show Steps p.tables e below (T4.setTop (mkF m 26 #[.val (.int p1), .val (.ref w3), .unset, .unset] [(.int (1 : Int32)), (.int (1 : Int32))])) _
    refine XS.icmpNo X4.here hx rfl (hb hby at_26) rfl (teq (rfl : (1 : Int32) = (1 : Int32))).2 ?_
    show Steps p.tables e below (T4.setTop (mkF m 29 #[.val (.int p1), .val (.ref w3), .unset, .unset] [])) _
    refine XS.aloadN X4.here hx rfl (hb hby at_29) rfl rfl ?_
    show Steps p.tables e below (T4.setTop (mkF m 30 #[.val (.int p1), .val (.ref w3), .unset, .unset] [(.ref w3)])) _
    refine st6 _ ?_
    show Steps p.tables e below (T6.setTop (mkF m 33 #[.val (.int p1), .val (.ref w3), .unset, .unset] [(.ref w5), (.ref w3)])) _
    refine Jvm.RoadKit.acmp (g := (mkF m 33 #[.val (.int p1), .val (.ref w3), .unset, .unset] [(.ref w5), (.ref w3)])) X6 hx rfl rfl rfl (pc0 := 33) (pc' := 40) (same := false) rfl (hb hby at_33) rfl (decide_eq_false fun q => ha33 (Value.ref.inj q)) (by decide) (by decide) ?_
    show Steps p.tables e below (T6.setTop (mkF m 40 #[.val (.int p1), .val (.ref w3), .unset, .unset] [])) _
    refine XS.iconst X6.here hx rfl (hb hby at_40) ?_
    show Steps p.tables e below (T6.setTop (mkF m 41 #[.val (.int p1), .val (.ref w3), .unset, .unset] [(.int (0 : Int32))])) _
    refine XS.iloadN X6.here hx rfl (hb hby at_41) rfl ?_
    show Steps p.tables e below (T6.setTop (mkF m 42 #[.val (.int p1), .val (.ref w3), .unset, .unset] [(.int p1), (.int (0 : Int32))])) _
    refine XS.ifYes X6.here hx rfl (pc0 := 42) (pc' := 49) rfl (hb hby at_42) rfl ((if0 _ _).trans (feq hc42).2) (by decide) (by decide) ?_
    show Steps p.tables e below (T6.setTop (mkF m 49 #[.val (.int p1), .val (.ref w3), .unset, .unset] [(.int (0 : Int32))])) _
    refine XS.iconst X6.here hx rfl (hb hby at_49) ?_
    show Steps p.tables e below (T6.setTop (mkF m 50 #[.val (.int p1), .val (.ref w3), .unset, .unset] [(.int (0 : Int32)), (.int (0 : Int32))])) _
    refine XS.icmpNo X6.here hx rfl (hb hby at_50) rfl (teq (rfl : (0 : Int32) = (0 : Int32))).2 ?_
    show Steps p.tables e below (T6.setTop (mkF m 53 #[.val (.int p1), .val (.ref w3), .unset, .unset] [])) _
    refine XS.aloadN X6.here hx rfl (hb hby at_53) rfl rfl ?_
    show Steps p.tables e below (T6.setTop (mkF m 54 #[.val (.int p1), .val (.ref w3), .unset, .unset] [(.ref w3)])) _
    refine st8 _ ?_
    show Steps p.tables e below (T8.setTop (mkF m 57 #[.val (.int p1), .val (.ref w3), .unset, .unset] [(.ref w7), (.ref w3)])) _
    refine Jvm.RoadKit.acmp (g := (mkF m 57 #[.val (.int p1), .val (.ref w3), .unset, .unset] [(.ref w7), (.ref w3)])) X8 hx rfl rfl rfl (pc0 := 57) (pc' := 64) (same := false) rfl (hb hby at_57) rfl (decide_eq_false fun q => ha57 (Value.ref.inj q)) (by decide) (by decide) ?_
    show Steps p.tables e below (T8.setTop (mkF m 64 #[.val (.int p1), .val (.ref w3), .unset, .unset] [])) _
    refine XS.iconst X8.here hx rfl (hb hby at_64) ?_
    show Steps p.tables e below (T8.setTop (mkF m 65 #[.val (.int p1), .val (.ref w3), .unset, .unset] [(.int (0 : Int32))])) _
    refine XS.iloadN X8.here hx rfl (hb hby at_65) rfl ?_
    show Steps p.tables e below (T8.setTop (mkF m 66 #[.val (.int p1), .val (.ref w3), .unset, .unset] [(.int p1), (.int (0 : Int32))])) _
    refine XS.ifYes X8.here hx rfl (pc0 := 66) (pc' := 73) rfl (hb hby at_66) rfl ((if0 _ _).trans (flt hc66).2.2.2) (by decide) (by decide) ?_
    show Steps p.tables e below (T8.setTop (mkF m 73 #[.val (.int p1), .val (.ref w3), .unset, .unset] [(.int (0 : Int32))])) _
    refine XS.iconst X8.here hx rfl (hb hby at_73) ?_
    show Steps p.tables e below (T8.setTop (mkF m 74 #[.val (.int p1), .val (.ref w3), .unset, .unset] [(.int (0 : Int32)), (.int (0 : Int32))])) _
    refine XS.icmpNo X8.here hx rfl (hb hby at_74) rfl (teq (rfl : (0 : Int32) = (0 : Int32))).2 ?_
    show Steps p.tables e below (T8.setTop (mkF m 77 #[.val (.int p1), .val (.ref w3), .unset, .unset] [])) _
    refine XS.aloadN X8.here hx rfl (hb hby at_77) rfl rfl ?_
    show Steps p.tables e below (T8.setTop (mkF m 78 #[.val (.int p1), .val (.ref w3), .unset, .unset] [(.ref w3)])) _
    refine st10 _ ?_
    show Steps p.tables e below (T10.setTop (mkF m 81 #[.val (.int p1), .val (.ref w3), .unset, .unset] [(.ref w9), (.ref w3)])) _
    refine Jvm.RoadKit.acmp (g := (mkF m 81 #[.val (.int p1), .val (.ref w3), .unset, .unset] [(.ref w9), (.ref w3)])) X10 hx rfl rfl rfl (pc0 := 81) (pc' := 84) (same := false) rfl (hb hby at_81) rfl (decide_eq_false fun q => ha81 (Value.ref.inj q)) (by decide) (by decide) ?_
    show Steps p.tables e below (T10.setTop (mkF m 84 #[.val (.int p1), .val (.ref w3), .unset, .unset] [])) _
    refine XS.iconst X10.here hx rfl (hb hby at_84) ?_
    show Steps p.tables e below (T10.setTop (mkF m 85 #[.val (.int p1), .val (.ref w3), .unset, .unset] [(.int (1 : Int32))])) _
    refine XS.goto X10.here hx rfl (pc0 := 85) (pc' := 89) rfl (hb hby at_85) (by decide) (by decide) ?_
    show Steps p.tables e below (T10.setTop (mkF m 89 #[.val (.int p1), .val (.ref w3), .unset, .unset] [(.int (1 : Int32))])) _
    refine XS.istoreN X10.here hx rfl (hb hby at_89) rfl (l' := #[.val (.int p1), .val (.ref w3), .val (.int (1 : Int32)), .unset]) rfl ?_
    show Steps p.tables e below (T10.setTop (mkF m 90 #[.val (.int p1), .val (.ref w3), .val (.int (1 : Int32)), .unset] [])) _
    refine XS.iloadN X10.here hx rfl (hb hby at_90) rfl ?_
    show Steps p.tables e below (T10.setTop (mkF m 91 #[.val (.int p1), .val (.ref w3), .val (.int (1 : Int32)), .unset] [(.int (1 : Int32))])) _
    refine XS.ifYes X10.here hx rfl (pc0 := 91) (pc' := 96) rfl (hb hby at_91) rfl ((if0 _ _).trans (feq hc91).2) (by decide) (by decide) ?_
    show Steps p.tables e below (T10.setTop (mkF m 96 #[.val (.int p1), .val (.ref w3), .val (.int (1 : Int32)), .unset] [])) _
    refine XS.iloadN X10.here hx rfl (hb hby at_96) rfl ?_
    show Steps p.tables e below (T10.setTop (mkF m 97 #[.val (.int p1), .val (.ref w3), .val (.int (1 : Int32)), .unset] [(.int p1)])) _
    refine X10.ldcInt hx hown (mvT hZ (hw _ (List.mem_of_getElem? (i := 13) rfl))) (g := (mkF m 97 #[.val (.int p1), .val (.ref w3), .val (.int (1 : Int32)), .unset] [(.int p1)])) rfl (hb hby at_97) _ ?_
    show Steps p.tables e below (T10.setTop (mkF m 99 #[.val (.int p1), .val (.ref w3), .val (.int (1 : Int32)), .unset] [(.int (-2147483648 : Int32)), (.int p1)])) _
    refine XS.icmpNo X10.here hx rfl (hb hby at_99) rfl (teq hc99).2 ?_
    show Steps p.tables e below (T10.setTop (mkF m 102 #[.val (.int p1), .val (.ref w3), .val (.int (1 : Int32)), .unset] [])) _
    refine XS.iconst X10.here hx rfl (hb hby at_102) ?_
    show Steps p.tables e below (T10.setTop (mkF m 103 #[.val (.int p1), .val (.ref w3), .val (.int (1 : Int32)), .unset] [(.int (1 : Int32))])) _
    exact retN X10 hx (t := .boolean) Bd.returns (by simp) (hb hby at_103) hr
  · show Q0_b Z p1 w3 w5 w7 w9 h0 n0 _ T10.heap _
    rw [e10]
    exact ⟨rfl, N2⟩
def Q0_c (Z : State) (p1 : Int32) (w3 : Addr) (w5 : Addr) (w7 : Addr) (w9 : Addr) (h0 : Heap) (n0 : Nat) (v : Option Value) (h : Heap) (L : List Loc) : Prop := v = some (.int (1 : Int32)) ∧ Fr n0 L
set_option maxRecDepth 65536 in
set_option maxHeartbeats 40000000 in
theorem rm0_c (l : Launch) (Z : State) (a0 : Array Value) (hw : ∀ d ∈ tables_1, d.before a0 Z = true) (ws : List Jvm.Cond) (p1 : Int32) (w3 : Addr) (w5 : Addr) (w7 : Addr) (w9 : Addr) (h0 : Heap) (n0 : Nat) (Z0 : n0 ≤ h0.size) (S_LESS : Sta Z h0 "com/example/quernstone/quernstone/sparql/Values$Order" "LESS" "Lcom/example/quernstone/quernstone/sparql/Values$Order;" (.ref w3)) (S_EQUAL : Sta Z h0 "com/example/quernstone/quernstone/sparql/Values$Order" "EQUAL" "Lcom/example/quernstone/quernstone/sparql/Values$Order;" (.ref w5)) (S_GREATER : Sta Z h0 "com/example/quernstone/quernstone/sparql/Values$Order" "GREATER" "Lcom/example/quernstone/quernstone/sparql/Values$Order;" (.ref w7)) (S_UNORDERED : Sta Z h0 "com/example/quernstone/quernstone/sparql/Values$Order" "UNORDERED" "Lcom/example/quernstone/quernstone/sparql/Values$Order;" (.ref w9)) (ha9 : ¬ (w5 = w3)) (hc18 : ¬ (p1 < (0 : Int32))) (ha33 : w5 = w5) (hc42 : p1 = (0 : Int32)) (ha57 : ¬ (w5 = w7)) (hc66 : ¬ ((0 : Int32) < p1)) (ha81 : ¬ (w5 = w9)) (hc91 : ¬ ((1 : Int32) = (0 : Int32))) (hc99 : ¬ (p1 = (-2147483648 : Int32))) (ha114 : ¬ (w5 = w3)) (ha126 : ¬ (w5 = w7)) (ha141 : ¬ (w5 = w7)) (ha153 : ¬ (w5 = w3)) (ha168 : w5 = w5) (ha180 : w5 = w5) (hm1 : ¬ (-p1 < (0 : Int32))) (hm2 : ¬ ((0 : Int32) < -p1)) :
    MetFree l x (head1 (Jvm.Cond.code x code maxLocals ret :: ws) room_1) (fun a U => a = #[(.int p1)] ∧ Z.Warmed39 U.vm ∧ U.heap = h0) (fun _ _ _ _ _ => True) (fun _ U o U' => ∃ v L, o = .returned v ∧ Q0_c Z p1 w3 w5 w7 w9 h0 n0 v U'.heap L ∧ FrameEnd U o U' L room_1.cells room_1.slots) := by
  refine MetFree.of_bodySF (plainFor_of_name pn_0) hisR ?_
  intro p e s m args below meth c s₁ Bd hml0 hP hK
  obtain ⟨rfl, hZ, hh⟩ := hP
  have hx := Bd.exec
  have hby := Bd.bytes
  have hml : c.maxLocals = 4 := hml0
  have hown : s.vm.findClass "com/example/quernstone/quernstone/sparql/ValuesOfPinLaw" = some m.cls := findClass_of_methodNamed Bd.named
  have hnm := (name_of_methodNamed Bd.named Bd.method).1
  have X0 : Stand p l e room_1 s m #[(.int p1)] below meth c s₁ [] 0 0 := Stand.of_body Bd
  have e0 : s₁.heap = h0 := by rw [← hh, Bd.state]; rfl
  have N0 := Fr.nil n0
  have pre0 : ∀ t, Steps p.tables e below (s₁.setTop (mkF m 0 #[.val (.int p1), .unset, .unset, .unset] [])) t → Steps p.tables e below (s₁.setTop (entryFrame m #[(.int p1)] maxLocals)) t := fun t k => castTop (ef_0 m p1) k
  obtain ⟨_, _, ⟨T2, L2, k2, n2⟩, -, X2, ⟨Lc2, hQ2, l2, y2, z2⟩, st2⟩ := Jvm.LawKit.callS X0 hx (y := (⟨"com/example/quernstone/quernstone/sparql/Values$Order", "of", "(I)Lcom/example/quernstone/quernstone/sparql/Values$Order;"⟩ : MethodName)) hown (mvT hZ (hw _ (List.mem_of_getElem? (i := 0) rfl))) (mvT hZ (hw _ (List.mem_of_getElem? (i := 1) rfl))) (mvT hZ (hw _ (List.mem_of_getElem? (i := 2) rfl))) (mvT hZ (hw _ (List.mem_of_getElem? (i := 3) rfl))) (by decide) (backOf (W := 0) (rm1_tt l Z a0 hw [] p1 w5 h0 n0 Z0 S_EQUAL hc18 hc66) hZ (hw _ (List.mem_of_getElem? (i := 3) rfl)) (hw _ (List.mem_of_getElem? (i := 2) rfl)) (by decide) (by decide)) (g := (mkF m 1 #[.val (.int p1), .unset, .unset, .unset] [(.int p1)])) rfl (by rw [hml]; rfl) (argsL := [(.int p1)]) (rest := []) (lenOf pd_0_0_a rfl) rfl (by show 2 * 0 + _ ≤ _; exact Nat.le_of_eq rfl) (hb hby at_1) (fun _ _ => ⟨rfl, e0, (by decide : 0 + 0 ≤ _), (by decide : 0 + 0 ≤ _)⟩)
  dsimp only [Pt.U, Pt.locs, Pt.cells, Pt.slots] at X2 l2 y2 z2 st2 hQ2
  subst l2 y2 z2
  obtain ⟨rfl, N2q, hh2⟩ := hQ2
  have N2 := Fr.app N0 N2q
  obtain ⟨T4, X4, e4, st4⟩ := getS2 X2 hx hZ hown (host := "") (Or.inl (hw _ (List.mem_of_getElem? (i := 6) rfl))) Via.refl hh2 S_LESS (g := (mkF m 6 #[.val (.int p1), .val (.ref w5), .unset, .unset] [(.ref w5)])) rfl (hb hby at_6)
  obtain ⟨T6, X6, e6, st6⟩ := getS2 X4 hx hZ hown (host := "") (Or.inl (hw _ (List.mem_of_getElem? (i := 8) rfl))) Via.refl e4 S_EQUAL (g := (mkF m 30 #[.val (.int p1), .val (.ref w5), .unset, .unset] [(.ref w5)])) rfl (hb hby at_30)
  obtain ⟨T8, X8, e8, st8⟩ := getS2 X6 hx hZ hown (host := "") (Or.inl (hw _ (List.mem_of_getElem? (i := 9) rfl))) Via.refl e6 S_GREATER (g := (mkF m 54 #[.val (.int p1), .val (.ref w5), .unset, .unset] [(.ref w5)])) rfl (hb hby at_54)
  obtain ⟨T10, X10, e10, st10⟩ := getS2 X8 hx hZ hown (host := "") (Or.inl (hw _ (List.mem_of_getElem? (i := 11) rfl))) Via.refl e8 S_UNORDERED (g := (mkF m 78 #[.val (.int p1), .val (.ref w5), .unset, .unset] [(.ref w5)])) rfl (hb hby at_78)
  obtain ⟨_, _, ⟨T11, L11, k11, n11⟩, -, X11, ⟨Lc11, hQ11, l11, y11, z11⟩, st11⟩ := Jvm.LawKit.callS X10 hx (y := (⟨"com/example/quernstone/quernstone/sparql/Values$Order", "of", "(I)Lcom/example/quernstone/quernstone/sparql/Values$Order;"⟩ : MethodName)) hown (mvT hZ (hw _ (List.mem_of_getElem? (i := 0) rfl))) (mvT hZ (hw _ (List.mem_of_getElem? (i := 1) rfl))) (mvT hZ (hw _ (List.mem_of_getElem? (i := 2) rfl))) (mvT hZ (hw _ (List.mem_of_getElem? (i := 3) rfl))) (by decide) (backOf (W := 0) (rm1_tt l Z a0 hw [] (-p1) w5 h0 n0 Z0 S_EQUAL hm1 hm2) hZ (hw _ (List.mem_of_getElem? (i := 3) rfl)) (hw _ (List.mem_of_getElem? (i := 2) rfl)) (by decide) (by decide)) (g := (mkF m 106 #[.val (.int p1), .val (.ref w5), .val (.int (1 : Int32)), .unset] [(.int (-p1))])) rfl (by rw [hml]; rfl) (argsL := [(.int (-p1))]) (rest := []) (lenOf pd_0_0_a rfl) rfl (by show 2 * 0 + _ ≤ _; exact Nat.le_of_eq rfl) (hb hby at_106) (fun _ _ => ⟨rfl, e10, (by decide : 0 + 0 ≤ _), (by decide : 0 + 0 ≤ _)⟩)
  dsimp only [Pt.U, Pt.locs, Pt.cells, Pt.slots] at X11 l11 y11 z11 st11 hQ11
  subst l11 y11 z11
  obtain ⟨rfl, N11q, hh11⟩ := hQ11
  have N11 := Fr.app N2 N11q
  obtain ⟨T12, X12, e12, st12⟩ := getS2 X11 hx hZ hown (host := "") (Or.inl (hw _ (List.mem_of_getElem? (i := 6) rfl))) Via.refl hh11 S_LESS (g := (mkF m 111 #[.val (.int p1), .val (.ref w5), .val (.int (1 : Int32)), .val (.ref w5)] [(.ref w5)])) rfl (hb hby at_111)
  obtain ⟨T13, X13, e13, st13⟩ := getS2 X12 hx hZ hown (host := "") (Or.inl (hw _ (List.mem_of_getElem? (i := 9) rfl))) Via.refl e12 S_GREATER (g := (mkF m 123 #[.val (.int p1), .val (.ref w5), .val (.int (1 : Int32)), .val (.ref w5)] [(.ref w5), (.int (0 : Int32))])) rfl (hb hby at_123)
  obtain ⟨T14, X14, e14, st14⟩ := getS2 X13 hx hZ hown (host := "") (Or.inl (hw _ (List.mem_of_getElem? (i := 9) rfl))) Via.refl e13 S_GREATER (g := (mkF m 138 #[.val (.int p1), .val (.ref w5), .val (.int (1 : Int32)), .val (.ref w5)] [(.ref w5)])) rfl (hb hby at_138)
  obtain ⟨T15, X15, e15, st15⟩ := getS2 X14 hx hZ hown (host := "") (Or.inl (hw _ (List.mem_of_getElem? (i := 6) rfl))) Via.refl e14 S_LESS (g := (mkF m 150 #[.val (.int p1), .val (.ref w5), .val (.int (1 : Int32)), .val (.ref w5)] [(.ref w5), (.int (0 : Int32))])) rfl (hb hby at_150)
  obtain ⟨T16, X16, e16, st16⟩ := getS2 X15 hx hZ hown (host := "") (Or.inl (hw _ (List.mem_of_getElem? (i := 8) rfl))) Via.refl e15 S_EQUAL (g := (mkF m 165 #[.val (.int p1), .val (.ref w5), .val (.int (1 : Int32)), .val (.ref w5)] [(.ref w5)])) rfl (hb hby at_165)
  obtain ⟨T17, X17, e17, st17⟩ := getS2 X16 hx hZ hown (host := "") (Or.inl (hw _ (List.mem_of_getElem? (i := 8) rfl))) Via.refl e16 S_EQUAL (g := (mkF m 177 #[.val (.int p1), .val (.ref w5), .val (.int (1 : Int32)), .val (.ref w5)] [(.ref w5), (.int (1 : Int32))])) rfl (hb hby at_177)
  obtain ⟨fs, hr, hrun, hended, hW, hsame⟩ := X17.leave (v := some (.int (1 : Int32))) (fun h => by rw [Bd.returns] at h; cases h)
  refine ⟨_, _, pre0 _ ?_, hrun, hended, _, _, rfl, ?_, ⟨_, rfl⟩, hW, hsame.mono (by decide) (by decide)⟩
  · show Steps p.tables e below (s₁.setTop (mkF m 0 #[.val (.int p1), .unset, .unset, .unset] [])) _
    refine XS.iloadN X0.here hx rfl (hb hby at_0) rfl ?_
    show Steps p.tables e below (s₁.setTop (mkF m 1 #[.val (.int p1), .unset, .unset, .unset] [(.int p1)])) _
    refine st2 _ ?_
    show Steps p.tables e below (T2.setTop (mkF m 4 #[.val (.int p1), .unset, .unset, .unset] [(.ref w5)])) _
    refine XS.astoreN X2.here hx rfl (hb hby at_4) rfl rfl (l' := #[.val (.int p1), .val (.ref w5), .unset, .unset]) rfl ?_
    show Steps p.tables e below (T2.setTop (mkF m 5 #[.val (.int p1), .val (.ref w5), .unset, .unset] [])) _
    refine XS.aloadN X2.here hx rfl (hb hby at_5) rfl rfl ?_
    show Steps p.tables e below (T2.setTop (mkF m 6 #[.val (.int p1), .val (.ref w5), .unset, .unset] [(.ref w5)])) _
    refine st4 _ ?_
    show Steps p.tables e below (T4.setTop (mkF m 9 #[.val (.int p1), .val (.ref w5), .unset, .unset] [(.ref w3), (.ref w5)])) _
    refine Jvm.RoadKit.acmp (g := (mkF m 9 #[.val (.int p1), .val (.ref w5), .unset, .unset] [(.ref w3), (.ref w5)])) X4 hx rfl rfl rfl (pc0 := 9) (pc' := 16) (same := false) rfl (hb hby at_9) rfl (decide_eq_false fun q => ha9 (Value.ref.inj q)) (by decide) (by decide) ?_
    show Steps p.tables e below (T4.setTop (mkF m 16 #[.val (.int p1), .val (.ref w5), .unset, .unset] [])) _
    refine XS.iconst X4.here hx rfl (hb hby at_16) ?_
    show Steps p.tables e below (T4.setTop (mkF m 17 #[.val (.int p1), .val (.ref w5), .unset, .unset] [(.int (0 : Int32))])) _
    refine XS.iloadN X4.here hx rfl (hb hby at_17) rfl ?_
    show Steps p.tables e below (T4.setTop (mkF m 18 #[.val (.int p1), .val (.ref w5), .unset, .unset] [(.int p1), (.int (0 : Int32))])) _
    refine XS.ifYes X4.here hx rfl (pc0 := 18) (pc' := 25) rfl (hb hby at_18) rfl ((if0 _ _).trans (flt hc18).2.1) (by decide) (by decide) ?_
    show Steps p.tables e below (T4.setTop (mkF m 25 #[.val (.int p1), .val (.ref w5), .unset, .unset] [(.int (0 : Int32))])) _
    refine XS.iconst X4.here hx rfl (hb hby at_25) ?_
    show Steps p.tables e below (T4.setTop (mkF m 26 #[.val (.int p1), .val (.ref w5), .unset, .unset] [(.int (0 : Int32)), (.int (0 : Int32))])) _
    refine XS.icmpNo X4.here hx rfl (hb hby at_26) rfl (teq (rfl : (0 : Int32) = (0 : Int32))).2 ?_
    show Steps p.tables e below (T4.setTop (mkF m 29 #[.val (.int p1), .val (.ref w5), .unset, .unset] [])) _
    refine XS.aloadN X4.here hx rfl (hb hby at_29) rfl rfl ?_
    show Steps p.tables e below (T4.setTop (mkF m 30 #[.val (.int p1), .val (.ref w5), .unset, .unset] [(.ref w5)])) _
    refine st6 _ ?_
    show Steps p.tables e below (T6.setTop (mkF m 33 #[.val (.int p1), .val (.ref w5), .unset, .unset] [(.ref w5), (.ref w5)])) _
    refine Jvm.RoadKit.acmp (g := (mkF m 33 #[.val (.int p1), .val (.ref w5), .unset, .unset] [(.ref w5), (.ref w5)])) X6 hx rfl rfl rfl (pc0 := 33) (pc' := 36) (same := true) rfl (hb hby at_33) rfl (decide_eq_true (congrArg Value.ref ha33)) (by decide) (by decide) ?_
    show Steps p.tables e below (T6.setTop (mkF m 36 #[.val (.int p1), .val (.ref w5), .unset, .unset] [])) _
    refine XS.iconst X6.here hx rfl (hb hby at_36) ?_
    show Steps p.tables e below (T6.setTop (mkF m 37 #[.val (.int p1), .val (.ref w5), .unset, .unset] [(.int (1 : Int32))])) _
    refine XS.goto X6.here hx rfl (pc0 := 37) (pc' := 41) rfl (hb hby at_37) (by decide) (by decide) ?_
    show Steps p.tables e below (T6.setTop (mkF m 41 #[.val (.int p1), .val (.ref w5), .unset, .unset] [(.int (1 : Int32))])) _
    refine XS.iloadN X6.here hx rfl (hb hby at_41) rfl ?_
    show Steps p.tables e below (T6.setTop (mkF m 42 #[.val (.int p1), .val (.ref w5), .unset, .unset] [(.int p1), (.int (1 : Int32))])) _
    refine XS.ifNo X6.here hx rfl (hb hby at_42) rfl ((if0 _ _).trans (teq hc42).2) ?_
    show Steps p.tables e below (T6.setTop (mkF m 45 #[.val (.int p1), .val (.ref w5), .unset, .unset] [(.int (1 : Int32))])) _
    refine XS.iconst X6.here hx rfl (hb hby at_45) ?_
    show Steps p.tables e below (T6.setTop (mkF m 46 #[.val (.int p1), .val (.ref w5), .unset, .unset] [(.int (1 : Int32)), (.int (1 : Int32))])) _
    refine XS.goto X6.here hx rfl (pc0 := 46) (pc' := 50) rfl (hb hby at_46) (by decide) (by decide) ?_
    show Steps p.tables e below (T6.setTop (mkF m 50 #[.val (.int p1), .val (.ref w5), .unset, .unset] [(.int (1 : Int32)), (.int (1 : Int32))])) _
    refine XS.icmpNo X6.here hx rfl (hb hby at_50) rfl (teq (rfl : (1 : Int32) = (1 : Int32))).2 ?_
    show Steps p.tables e below (T6.setTop (mkF m 53 #[.val (.int p1), .val (.ref w5), .unset, .unset] [])) _
    refine XS.aloadN X6.here hx rfl (hb hby at_53) rfl rfl ?_
    show Steps p.tables e below (T6.setTop (mkF m 54 #[.val (.int p1), .val (.ref w5), .unset, .unset] [(.ref w5)])) _
    refine st8 _ ?_
    show Steps p.tables e below (T8.setTop (mkF m 57 #[.val (.int p1), .val (.ref w5), .unset, .unset] [(.ref w7), (.ref w5)])) _
    refine Jvm.RoadKit.acmp (g := (mkF m 57 #[.val (.int p1), .val (.ref w5), .unset, .unset] [(.ref w7), (.ref w5)])) X8 hx rfl rfl rfl (pc0 := 57) (pc' := 64) (same := false) rfl (hb hby at_57) rfl (decide_eq_false fun q => ha57 (Value.ref.inj q)) (by decide) (by decide) ?_
    show Steps p.tables e below (T8.setTop (mkF m 64 #[.val (.int p1), .val (.ref w5), .unset, .unset] [])) _
    refine XS.iconst X8.here hx rfl (hb hby at_64) ?_
    show Steps p.tables e below (T8.setTop (mkF m 65 #[.val (.int p1), .val (.ref w5), .unset, .unset] [(.int (0 : Int32))])) _
    refine XS.iloadN X8.here hx rfl (hb hby at_65) rfl ?_
    show Steps p.tables e below (T8.setTop (mkF m 66 #[.val (.int p1), .val (.ref w5), .unset, .unset] [(.int p1), (.int (0 : Int32))])) _
    refine XS.ifYes X8.here hx rfl (pc0 := 66) (pc' := 73) rfl (hb hby at_66) rfl ((if0 _ _).trans (flt hc66).2.2.2) (by decide) (by decide) ?_
    show Steps p.tables e below (T8.setTop (mkF m 73 #[.val (.int p1), .val (.ref w5), .unset, .unset] [(.int (0 : Int32))])) _
    refine XS.iconst X8.here hx rfl (hb hby at_73) ?_
    show Steps p.tables e below (T8.setTop (mkF m 74 #[.val (.int p1), .val (.ref w5), .unset, .unset] [(.int (0 : Int32)), (.int (0 : Int32))])) _
    refine XS.icmpNo X8.here hx rfl (hb hby at_74) rfl (teq (rfl : (0 : Int32) = (0 : Int32))).2 ?_
    show Steps p.tables e below (T8.setTop (mkF m 77 #[.val (.int p1), .val (.ref w5), .unset, .unset] [])) _
    refine XS.aloadN X8.here hx rfl (hb hby at_77) rfl rfl ?_
    show Steps p.tables e below (T8.setTop (mkF m 78 #[.val (.int p1), .val (.ref w5), .unset, .unset] [(.ref w5)])) _
    refine st10 _ ?_
    show Steps p.tables e below (T10.setTop (mkF m 81 #[.val (.int p1), .val (.ref w5), .unset, .unset] [(.ref w9), (.ref w5)])) _
    refine Jvm.RoadKit.acmp (g := (mkF m 81 #[.val (.int p1), .val (.ref w5), .unset, .unset] [(.ref w9), (.ref w5)])) X10 hx rfl rfl rfl (pc0 := 81) (pc' := 84) (same := false) rfl (hb hby at_81) rfl (decide_eq_false fun q => ha81 (Value.ref.inj q)) (by decide) (by decide) ?_
    show Steps p.tables e below (T10.setTop (mkF m 84 #[.val (.int p1), .val (.ref w5), .unset, .unset] [])) _
    refine XS.iconst X10.here hx rfl (hb hby at_84) ?_
    show Steps p.tables e below (T10.setTop (mkF m 85 #[.val (.int p1), .val (.ref w5), .unset, .unset] [(.int (1 : Int32))])) _
    refine XS.goto X10.here hx rfl (pc0 := 85) (pc' := 89) rfl (hb hby at_85) (by decide) (by decide) ?_
    show Steps p.tables e below (T10.setTop (mkF m 89 #[.val (.int p1), .val (.ref w5), .unset, .unset] [(.int (1 : Int32))])) _
    refine XS.istoreN X10.here hx rfl (hb hby at_89) rfl (l' := #[.val (.int p1), .val (.ref w5), .val (.int (1 : Int32)), .unset]) rfl ?_
    show Steps p.tables e below (T10.setTop (mkF m 90 #[.val (.int p1), .val (.ref w5), .val (.int (1 : Int32)), .unset] [])) _
    refine XS.iloadN X10.here hx rfl (hb hby at_90) rfl ?_
    show Steps p.tables e below (T10.setTop (mkF m 91 #[.val (.int p1), .val (.ref w5), .val (.int (1 : Int32)), .unset] [(.int (1 : Int32))])) _
    refine XS.ifYes X10.here hx rfl (pc0 := 91) (pc' := 96) rfl (hb hby at_91) rfl ((if0 _ _).trans (feq hc91).2) (by decide) (by decide) ?_
    show Steps p.tables e below (T10.setTop (mkF m 96 #[.val (.int p1), .val (.ref w5), .val (.int (1 : Int32)), .unset] [])) _
    refine XS.iloadN X10.here hx rfl (hb hby at_96) rfl ?_
    show Steps p.tables e below (T10.setTop (mkF m 97 #[.val (.int p1), .val (.ref w5), .val (.int (1 : Int32)), .unset] [(.int p1)])) _
    refine X10.ldcInt hx hown (mvT hZ (hw _ (List.mem_of_getElem? (i := 13) rfl))) (g := (mkF m 97 #[.val (.int p1), .val (.ref w5), .val (.int (1 : Int32)), .unset] [(.int p1)])) rfl (hb hby at_97) _ ?_
    show Steps p.tables e below (T10.setTop (mkF m 99 #[.val (.int p1), .val (.ref w5), .val (.int (1 : Int32)), .unset] [(.int (-2147483648 : Int32)), (.int p1)])) _
    refine XS.icmpYes X10.here hx rfl (pc0 := 99) (pc' := 104) rfl (hb hby at_99) rfl (feq hc99).2 (by decide) (by decide) ?_
    show Steps p.tables e below (T10.setTop (mkF m 104 #[.val (.int p1), .val (.ref w5), .val (.int (1 : Int32)), .unset] [])) _
    refine XS.iloadN X10.here hx rfl (hb hby at_104) rfl ?_
    show Steps p.tables e below (T10.setTop (mkF m 105 #[.val (.int p1), .val (.ref w5), .val (.int (1 : Int32)), .unset] [(.int p1)])) _
    refine XS.ineg X10.here hx rfl (hb hby at_105) rfl ?_
    show Steps p.tables e below (T10.setTop (mkF m 106 #[.val (.int p1), .val (.ref w5), .val (.int (1 : Int32)), .unset] [(.int (-p1))])) _
    refine st11 _ ?_
    show Steps p.tables e below (T11.setTop (mkF m 109 #[.val (.int p1), .val (.ref w5), .val (.int (1 : Int32)), .unset] [(.ref w5)])) _
    refine XS.astoreN X11.here hx rfl (hb hby at_109) rfl rfl (l' := #[.val (.int p1), .val (.ref w5), .val (.int (1 : Int32)), .val (.ref w5)]) rfl ?_
    show Steps p.tables e below (T11.setTop (mkF m 110 #[.val (.int p1), .val (.ref w5), .val (.int (1 : Int32)), .val (.ref w5)] [])) _
    refine XS.aloadN X11.here hx rfl (hb hby at_110) rfl rfl ?_
    show Steps p.tables e below (T11.setTop (mkF m 111 #[.val (.int p1), .val (.ref w5), .val (.int (1 : Int32)), .val (.ref w5)] [(.ref w5)])) _
    refine st12 _ ?_
    show Steps p.tables e below (T12.setTop (mkF m 114 #[.val (.int p1), .val (.ref w5), .val (.int (1 : Int32)), .val (.ref w5)] [(.ref w3), (.ref w5)])) _
    refine Jvm.RoadKit.acmp (g := (mkF m 114 #[.val (.int p1), .val (.ref w5), .val (.int (1 : Int32)), .val (.ref w5)] [(.ref w3), (.ref w5)])) X12 hx rfl rfl rfl (pc0 := 114) (pc' := 121) (same := false) rfl (hb hby at_114) rfl (decide_eq_false fun q => ha114 (Value.ref.inj q)) (by decide) (by decide) ?_
    show Steps p.tables e below (T12.setTop (mkF m 121 #[.val (.int p1), .val (.ref w5), .val (.int (1 : Int32)), .val (.ref w5)] [])) _
    refine XS.iconst X12.here hx rfl (hb hby at_121) ?_
    show Steps p.tables e below (T12.setTop (mkF m 122 #[.val (.int p1), .val (.ref w5), .val (.int (1 : Int32)), .val (.ref w5)] [(.int (0 : Int32))])) _
    refine XS.aloadN X12.here hx rfl (hb hby at_122) rfl rfl ?_
    show Steps p.tables e below (T12.setTop (mkF m 123 #[.val (.int p1), .val (.ref w5), .val (.int (1 : Int32)), .val (.ref w5)] [(.ref w5), (.int (0 : Int32))])) _
    refine st13 _ ?_
    show Steps p.tables e below (T13.setTop (mkF m 126 #[.val (.int p1), .val (.ref w5), .val (.int (1 : Int32)), .val (.ref w5)] [(.ref w7), (.ref w5), (.int (0 : Int32))])) _
    refine Jvm.RoadKit.acmp (g := (mkF m 126 #[.val (.int p1), .val (.ref w5), .val (.int (1 : Int32)), .val (.ref w5)] [(.ref w7), (.ref w5), (.int (0 : Int32))])) X13 hx rfl rfl rfl (pc0 := 126) (pc' := 133) (same := false) rfl (hb hby at_126) rfl (decide_eq_false fun q => ha126 (Value.ref.inj q)) (by decide) (by decide) ?_
    show Steps p.tables e below (T13.setTop (mkF m 133 #[.val (.int p1), .val (.ref w5), .val (.int (1 : Int32)), .val (.ref w5)] [(.int (0 : Int32))])) _
    refine XS.iconst X13.here hx rfl (hb hby at_133) ?_
    show Steps p.tables e below (T13.setTop (mkF m 134 #[.val (.int p1), .val (.ref w5), .val (.int (1 : Int32)), .val (.ref w5)] [(.int (0 : Int32)), (.int (0 : Int32))])) _
    refine XS.icmpNo X13.here hx rfl (hb hby at_134) rfl (teq (rfl : (0 : Int32) = (0 : Int32))).2 ?_
    show Steps p.tables e below (T13.setTop (mkF m 137 #[.val (.int p1), .val (.ref w5), .val (.int (1 : Int32)), .val (.ref w5)] [])) _
    refine XS.aloadN X13.here hx rfl (hb hby at_137) rfl rfl ?_
    show Steps p.tables e below (T13.setTop (mkF m 138 #[.val (.int p1), .val (.ref w5), .val (.int (1 : Int32)), .val (.ref w5)] [(.ref w5)])) _
    refine st14 _ ?_
    show Steps p.tables e below (T14.setTop (mkF m 141 #[.val (.int p1), .val (.ref w5), .val (.int (1 : Int32)), .val (.ref w5)] [(.ref w7), (.ref w5)])) _
    refine Jvm.RoadKit.acmp (g := (mkF m 141 #[.val (.int p1), .val (.ref w5), .val (.int (1 : Int32)), .val (.ref w5)] [(.ref w7), (.ref w5)])) X14 hx rfl rfl rfl (pc0 := 141) (pc' := 148) (same := false) rfl (hb hby at_141) rfl (decide_eq_false fun q => ha141 (Value.ref.inj q)) (by decide) (by decide) ?_
    show Steps p.tables e below (T14.setTop (mkF m 148 #[.val (.int p1), .val (.ref w5), .val (.int (1 : Int32)), .val (.ref w5)] [])) _
    refine XS.iconst X14.here hx rfl (hb hby at_148) ?_
    show Steps p.tables e below (T14.setTop (mkF m 149 #[.val (.int p1), .val (.ref w5), .val (.int (1 : Int32)), .val (.ref w5)] [(.int (0 : Int32))])) _
    refine XS.aloadN X14.here hx rfl (hb hby at_149) rfl rfl ?_
    show Steps p.tables e below (T14.setTop (mkF m 150 #[.val (.int p1), .val (.ref w5), .val (.int (1 : Int32)), .val (.ref w5)] [(.ref w5), (.int (0 : Int32))])) _
    refine st15 _ ?_
    show Steps p.tables e below (T15.setTop (mkF m 153 #[.val (.int p1), .val (.ref w5), .val (.int (1 : Int32)), .val (.ref w5)] [(.ref w3), (.ref w5), (.int (0 : Int32))])) _
    refine Jvm.RoadKit.acmp (g := (mkF m 153 #[.val (.int p1), .val (.ref w5), .val (.int (1 : Int32)), .val (.ref w5)] [(.ref w3), (.ref w5), (.int (0 : Int32))])) X15 hx rfl rfl rfl (pc0 := 153) (pc' := 160) (same := false) rfl (hb hby at_153) rfl (decide_eq_false fun q => ha153 (Value.ref.inj q)) (by decide) (by decide) ?_
    show Steps p.tables e below (T15.setTop (mkF m 160 #[.val (.int p1), .val (.ref w5), .val (.int (1 : Int32)), .val (.ref w5)] [(.int (0 : Int32))])) _
    refine XS.iconst X15.here hx rfl (hb hby at_160) ?_
    show Steps p.tables e below (T15.setTop (mkF m 161 #[.val (.int p1), .val (.ref w5), .val (.int (1 : Int32)), .val (.ref w5)] [(.int (0 : Int32)), (.int (0 : Int32))])) _
    refine XS.icmpNo X15.here hx rfl (hb hby at_161) rfl (teq (rfl : (0 : Int32) = (0 : Int32))).2 ?_
    show Steps p.tables e below (T15.setTop (mkF m 164 #[.val (.int p1), .val (.ref w5), .val (.int (1 : Int32)), .val (.ref w5)] [])) _
    refine XS.aloadN X15.here hx rfl (hb hby at_164) rfl rfl ?_
    show Steps p.tables e below (T15.setTop (mkF m 165 #[.val (.int p1), .val (.ref w5), .val (.int (1 : Int32)), .val (.ref w5)] [(.ref w5)])) _
    refine st16 _ ?_
    show Steps p.tables e below (T16.setTop (mkF m 168 #[.val (.int p1), .val (.ref w5), .val (.int (1 : Int32)), .val (.ref w5)] [(.ref w5), (.ref w5)])) _
    refine Jvm.RoadKit.acmp (g := (mkF m 168 #[.val (.int p1), .val (.ref w5), .val (.int (1 : Int32)), .val (.ref w5)] [(.ref w5), (.ref w5)])) X16 hx rfl rfl rfl (pc0 := 168) (pc' := 171) (same := true) rfl (hb hby at_168) rfl (decide_eq_true (congrArg Value.ref ha168)) (by decide) (by decide) ?_
    show Steps p.tables e below (T16.setTop (mkF m 171 #[.val (.int p1), .val (.ref w5), .val (.int (1 : Int32)), .val (.ref w5)] [])) _
    refine XS.iconst X16.here hx rfl (hb hby at_171) ?_
    show Steps p.tables e below (T16.setTop (mkF m 172 #[.val (.int p1), .val (.ref w5), .val (.int (1 : Int32)), .val (.ref w5)] [(.int (1 : Int32))])) _
    refine XS.goto X16.here hx rfl (pc0 := 172) (pc' := 176) rfl (hb hby at_172) (by decide) (by decide) ?_
    show Steps p.tables e below (T16.setTop (mkF m 176 #[.val (.int p1), .val (.ref w5), .val (.int (1 : Int32)), .val (.ref w5)] [(.int (1 : Int32))])) _
    refine XS.aloadN X16.here hx rfl (hb hby at_176) rfl rfl ?_
    show Steps p.tables e below (T16.setTop (mkF m 177 #[.val (.int p1), .val (.ref w5), .val (.int (1 : Int32)), .val (.ref w5)] [(.ref w5), (.int (1 : Int32))])) _
    refine st17 _ ?_
    show Steps p.tables e below (T17.setTop (mkF m 180 #[.val (.int p1), .val (.ref w5), .val (.int (1 : Int32)), .val (.ref w5)] [(.ref w5), (.ref w5), (.int (1 : Int32))])) _
    refine Jvm.RoadKit.acmp (g := (mkF m 180 #[.val (.int p1), .val (.ref w5), .val (.int (1 : Int32)), .val (.ref w5)] [(.ref w5), (.ref w5), (.int (1 : Int32))])) X17 hx rfl rfl rfl (pc0 := 180) (pc' := 183) (same := true) rfl (hb hby at_180) rfl (decide_eq_true (congrArg Value.ref ha180)) (by decide) (by decide) ?_
    show Steps p.tables e below (T17.setTop (mkF m 183 #[.val (.int p1), .val (.ref w5), .val (.int (1 : Int32)), .val (.ref w5)] [(.int (1 : Int32))])) _
    refine XS.iconst X17.here hx rfl (hb hby at_183) ?_
    show Steps p.tables e below (T17.setTop (mkF m 184 #[.val (.int p1), .val (.ref w5), .val (.int (1 : Int32)), .val (.ref w5)] [(.int (1 : Int32)), (.int (1 : Int32))])) _
    refine XS.goto X17.here hx rfl (pc0 := 184) (pc' := 188) rfl (hb hby at_184) (by decide) (by decide) ?_
    show Steps p.tables e below (T17.setTop (mkF m 188 #[.val (.int p1), .val (.ref w5), .val (.int (1 : Int32)), .val (.ref w5)] [(.int (1 : Int32)), (.int (1 : Int32))])) _
    refine XS.icmpNo X17.here hx rfl (hb hby at_188) rfl (teq (rfl : (1 : Int32) = (1 : Int32))).2 ?_
    show Steps p.tables e below (T17.setTop (mkF m 191 #[.val (.int p1), .val (.ref w5), .val (.int (1 : Int32)), .val (.ref w5)] [])) _
    refine XS.iconst X17.here hx rfl (hb hby at_191) ?_
    show Steps p.tables e below (T17.setTop (mkF m 192 #[.val (.int p1), .val (.ref w5), .val (.int (1 : Int32)), .val (.ref w5)] [(.int (1 : Int32))])) _
    refine XS.goto X17.here hx rfl (pc0 := 192) (pc' := 196) rfl (hb hby at_192) (by decide) (by decide) ?_
    show Steps p.tables e below (T17.setTop (mkF m 196 #[.val (.int p1), .val (.ref w5), .val (.int (1 : Int32)), .val (.ref w5)] [(.int (1 : Int32))])) _
    exact retN X17 hx (t := .boolean) Bd.returns (by simp) (hb hby at_196) hr
  · show Q0_c Z p1 w3 w5 w7 w9 h0 n0 _ T17.heap _
    rw [e17]
    exact ⟨rfl, N11⟩
def Q0_d (Z : State) (p1 : Int32) (w3 : Addr) (w5 : Addr) (w7 : Addr) (w9 : Addr) (h0 : Heap) (n0 : Nat) (v : Option Value) (h : Heap) (L : List Loc) : Prop := v = some (.int (1 : Int32)) ∧ Fr n0 L
set_option maxRecDepth 65536 in
set_option maxHeartbeats 40000000 in
theorem rm0_d (l : Launch) (Z : State) (a0 : Array Value) (hw : ∀ d ∈ tables_1, d.before a0 Z = true) (ws : List Jvm.Cond) (p1 : Int32) (w3 : Addr) (w5 : Addr) (w7 : Addr) (w9 : Addr) (h0 : Heap) (n0 : Nat) (Z0 : n0 ≤ h0.size) (S_LESS : Sta Z h0 "com/example/quernstone/quernstone/sparql/Values$Order" "LESS" "Lcom/example/quernstone/quernstone/sparql/Values$Order;" (.ref w3)) (S_EQUAL : Sta Z h0 "com/example/quernstone/quernstone/sparql/Values$Order" "EQUAL" "Lcom/example/quernstone/quernstone/sparql/Values$Order;" (.ref w5)) (S_GREATER : Sta Z h0 "com/example/quernstone/quernstone/sparql/Values$Order" "GREATER" "Lcom/example/quernstone/quernstone/sparql/Values$Order;" (.ref w7)) (S_UNORDERED : Sta Z h0 "com/example/quernstone/quernstone/sparql/Values$Order" "UNORDERED" "Lcom/example/quernstone/quernstone/sparql/Values$Order;" (.ref w9)) (ha9 : ¬ (w7 = w3)) (hc18 : ¬ (p1 < (0 : Int32))) (ha33 : ¬ (w7 = w5)) (hc42 : ¬ (p1 = (0 : Int32))) (ha57 : w7 = w7) (hc66 : (0 : Int32) < p1) (ha81 : ¬ (w7 = w9)) (hc91 : ¬ ((1 : Int32) = (0 : Int32))) (hc99 : ¬ (p1 = (-2147483648 : Int32))) (ha114 : ¬ (w7 = w3)) (ha126 : ¬ (w3 = w7)) (ha141 : w7 = w7) (ha153 : w3 = w3) (ha168 : ¬ (w7 = w5)) (ha180 : ¬ (w3 = w5)) (hm1 : -p1 < (0 : Int32)) :
    MetFree l x (head1 (Jvm.Cond.code x code maxLocals ret :: ws) room_1) (fun a U => a = #[(.int p1)] ∧ Z.Warmed39 U.vm ∧ U.heap = h0) (fun _ _ _ _ _ => True) (fun _ U o U' => ∃ v L, o = .returned v ∧ Q0_d Z p1 w3 w5 w7 w9 h0 n0 v U'.heap L ∧ FrameEnd U o U' L room_1.cells room_1.slots) := by
  refine MetFree.of_bodySF (plainFor_of_name pn_0) hisR ?_
  intro p e s m args below meth c s₁ Bd hml0 hP hK
  obtain ⟨rfl, hZ, hh⟩ := hP
  have hx := Bd.exec
  have hby := Bd.bytes
  have hml : c.maxLocals = 4 := hml0
  have hown : s.vm.findClass "com/example/quernstone/quernstone/sparql/ValuesOfPinLaw" = some m.cls := findClass_of_methodNamed Bd.named
  have hnm := (name_of_methodNamed Bd.named Bd.method).1
  have X0 : Stand p l e room_1 s m #[(.int p1)] below meth c s₁ [] 0 0 := Stand.of_body Bd
  have e0 : s₁.heap = h0 := by rw [← hh, Bd.state]; rfl
  have N0 := Fr.nil n0
  have pre0 : ∀ t, Steps p.tables e below (s₁.setTop (mkF m 0 #[.val (.int p1), .unset, .unset, .unset] [])) t → Steps p.tables e below (s₁.setTop (entryFrame m #[(.int p1)] maxLocals)) t := fun t k => castTop (ef_0 m p1) k
  obtain ⟨_, _, ⟨T2, L2, k2, n2⟩, -, X2, ⟨Lc2, hQ2, l2, y2, z2⟩, st2⟩ := Jvm.LawKit.callS X0 hx (y := (⟨"com/example/quernstone/quernstone/sparql/Values$Order", "of", "(I)Lcom/example/quernstone/quernstone/sparql/Values$Order;"⟩ : MethodName)) hown (mvT hZ (hw _ (List.mem_of_getElem? (i := 0) rfl))) (mvT hZ (hw _ (List.mem_of_getElem? (i := 1) rfl))) (mvT hZ (hw _ (List.mem_of_getElem? (i := 2) rfl))) (mvT hZ (hw _ (List.mem_of_getElem? (i := 3) rfl))) (by decide) (backOf (W := 0) (rm1_tf l Z a0 hw [] p1 w7 h0 n0 Z0 S_GREATER hc18 hc66) hZ (hw _ (List.mem_of_getElem? (i := 3) rfl)) (hw _ (List.mem_of_getElem? (i := 2) rfl)) (by decide) (by decide)) (g := (mkF m 1 #[.val (.int p1), .unset, .unset, .unset] [(.int p1)])) rfl (by rw [hml]; rfl) (argsL := [(.int p1)]) (rest := []) (lenOf pd_0_0_a rfl) rfl (by show 2 * 0 + _ ≤ _; exact Nat.le_of_eq rfl) (hb hby at_1) (fun _ _ => ⟨rfl, e0, (by decide : 0 + 0 ≤ _), (by decide : 0 + 0 ≤ _)⟩)
  dsimp only [Pt.U, Pt.locs, Pt.cells, Pt.slots] at X2 l2 y2 z2 st2 hQ2
  subst l2 y2 z2
  obtain ⟨rfl, N2q, hh2⟩ := hQ2
  have N2 := Fr.app N0 N2q
  obtain ⟨T4, X4, e4, st4⟩ := getS2 X2 hx hZ hown (host := "") (Or.inl (hw _ (List.mem_of_getElem? (i := 6) rfl))) Via.refl hh2 S_LESS (g := (mkF m 6 #[.val (.int p1), .val (.ref w7), .unset, .unset] [(.ref w7)])) rfl (hb hby at_6)
  obtain ⟨T6, X6, e6, st6⟩ := getS2 X4 hx hZ hown (host := "") (Or.inl (hw _ (List.mem_of_getElem? (i := 8) rfl))) Via.refl e4 S_EQUAL (g := (mkF m 30 #[.val (.int p1), .val (.ref w7), .unset, .unset] [(.ref w7)])) rfl (hb hby at_30)
  obtain ⟨T8, X8, e8, st8⟩ := getS2 X6 hx hZ hown (host := "") (Or.inl (hw _ (List.mem_of_getElem? (i := 9) rfl))) Via.refl e6 S_GREATER (g := (mkF m 54 #[.val (.int p1), .val (.ref w7), .unset, .unset] [(.ref w7)])) rfl (hb hby at_54)
  obtain ⟨T10, X10, e10, st10⟩ := getS2 X8 hx hZ hown (host := "") (Or.inl (hw _ (List.mem_of_getElem? (i := 11) rfl))) Via.refl e8 S_UNORDERED (g := (mkF m 78 #[.val (.int p1), .val (.ref w7), .unset, .unset] [(.ref w7)])) rfl (hb hby at_78)
  obtain ⟨_, _, ⟨T11, L11, k11, n11⟩, -, X11, ⟨Lc11, hQ11, l11, y11, z11⟩, st11⟩ := Jvm.LawKit.callS X10 hx (y := (⟨"com/example/quernstone/quernstone/sparql/Values$Order", "of", "(I)Lcom/example/quernstone/quernstone/sparql/Values$Order;"⟩ : MethodName)) hown (mvT hZ (hw _ (List.mem_of_getElem? (i := 0) rfl))) (mvT hZ (hw _ (List.mem_of_getElem? (i := 1) rfl))) (mvT hZ (hw _ (List.mem_of_getElem? (i := 2) rfl))) (mvT hZ (hw _ (List.mem_of_getElem? (i := 3) rfl))) (by decide) (backOf (W := 0) (rm1_f l Z a0 hw [] (-p1) w3 h0 n0 Z0 S_LESS hm1) hZ (hw _ (List.mem_of_getElem? (i := 3) rfl)) (hw _ (List.mem_of_getElem? (i := 2) rfl)) (by decide) (by decide)) (g := (mkF m 106 #[.val (.int p1), .val (.ref w7), .val (.int (1 : Int32)), .unset] [(.int (-p1))])) rfl (by rw [hml]; rfl) (argsL := [(.int (-p1))]) (rest := []) (lenOf pd_0_0_a rfl) rfl (by show 2 * 0 + _ ≤ _; exact Nat.le_of_eq rfl) (hb hby at_106) (fun _ _ => ⟨rfl, e10, (by decide : 0 + 0 ≤ _), (by decide : 0 + 0 ≤ _)⟩)
  dsimp only [Pt.U, Pt.locs, Pt.cells, Pt.slots] at X11 l11 y11 z11 st11 hQ11
  subst l11 y11 z11
  obtain ⟨rfl, N11q, hh11⟩ := hQ11
  have N11 := Fr.app N2 N11q
  obtain ⟨T12, X12, e12, st12⟩ := getS2 X11 hx hZ hown (host := "") (Or.inl (hw _ (List.mem_of_getElem? (i := 6) rfl))) Via.refl hh11 S_LESS (g := (mkF m 111 #[.val (.int p1), .val (.ref w7), .val (.int (1 : Int32)), .val (.ref w3)] [(.ref w7)])) rfl (hb hby at_111)
  obtain ⟨T13, X13, e13, st13⟩ := getS2 X12 hx hZ hown (host := "") (Or.inl (hw _ (List.mem_of_getElem? (i := 9) rfl))) Via.refl e12 S_GREATER (g := (mkF m 123 #[.val (.int p1), .val (.ref w7), .val (.int (1 : Int32)), .val (.ref w3)] [(.ref w3), (.int (0 : Int32))])) rfl (hb hby at_123)
  obtain ⟨T14, X14, e14, st14⟩ := getS2 X13 hx hZ hown (host := "") (Or.inl (hw _ (List.mem_of_getElem? (i := 9) rfl))) Via.refl e13 S_GREATER (g := (mkF m 138 #[.val (.int p1), .val (.ref w7), .val (.int (1 : Int32)), .val (.ref w3)] [(.ref w7)])) rfl (hb hby at_138)
  obtain ⟨T15, X15, e15, st15⟩ := getS2 X14 hx hZ hown (host := "") (Or.inl (hw _ (List.mem_of_getElem? (i := 6) rfl))) Via.refl e14 S_LESS (g := (mkF m 150 #[.val (.int p1), .val (.ref w7), .val (.int (1 : Int32)), .val (.ref w3)] [(.ref w3), (.int (1 : Int32))])) rfl (hb hby at_150)
  obtain ⟨T16, X16, e16, st16⟩ := getS2 X15 hx hZ hown (host := "") (Or.inl (hw _ (List.mem_of_getElem? (i := 8) rfl))) Via.refl e15 S_EQUAL (g := (mkF m 165 #[.val (.int p1), .val (.ref w7), .val (.int (1 : Int32)), .val (.ref w3)] [(.ref w7)])) rfl (hb hby at_165)
  obtain ⟨T17, X17, e17, st17⟩ := getS2 X16 hx hZ hown (host := "") (Or.inl (hw _ (List.mem_of_getElem? (i := 8) rfl))) Via.refl e16 S_EQUAL (g := (mkF m 177 #[.val (.int p1), .val (.ref w7), .val (.int (1 : Int32)), .val (.ref w3)] [(.ref w3), (.int (0 : Int32))])) rfl (hb hby at_177)
  obtain ⟨fs, hr, hrun, hended, hW, hsame⟩ := X17.leave (v := some (.int (1 : Int32))) (fun h => by rw [Bd.returns] at h; cases h)
  refine ⟨_, _, pre0 _ ?_, hrun, hended, _, _, rfl, ?_, ⟨_, rfl⟩, hW, hsame.mono (by decide) (by decide)⟩
  · show Steps p.tables e below (s₁.setTop (mkF m 0 #[.val (.int p1), .unset, .unset, .unset] [])) _
    refine XS.iloadN X0.here hx rfl (hb hby at_0) rfl ?_
    show Steps p.tables e below (s₁.setTop (mkF m 1 #[.val (.int p1), .unset, .unset, .unset] [(.int p1)])) _
    refine st2 _ ?_
    show Steps p.tables e below (T2.setTop (mkF m 4 #[.val (.int p1), .unset, .unset, .unset] [(.ref w7)])) _
    refine XS.astoreN X2.here hx rfl (hb hby at_4) rfl rfl (l' := #[.val (.int p1), .val (.ref w7), .unset, .unset]) rfl ?_
    show Steps p.tables e below (T2.setTop (mkF m 5 #[.val (.int p1), .val (.ref w7), .unset, .unset] [])) _
    refine XS.aloadN X2.here hx rfl (hb hby at_5) rfl rfl ?_
    show Steps p.tables e below (T2.setTop (mkF m 6 #[.val (.int p1), .val (.ref w7), .unset, .unset] [(.ref w7)])) _
    refine st4 _ ?_
    show Steps p.tables e below (T4.setTop (mkF m 9 #[.val (.int p1), .val (.ref w7), .unset, .unset] [(.ref w3), (.ref w7)])) _
    refine Jvm.RoadKit.acmp (g := (mkF m 9 #[.val (.int p1), .val (.ref w7), .unset, .unset] [(.ref w3), (.ref w7)])) X4 hx rfl rfl rfl (pc0 := 9) (pc' := 16) (same := false) rfl (hb hby at_9) rfl (decide_eq_false fun q => ha9 (Value.ref.inj q)) (by decide) (by decide) ?_
    show Steps p.tables e below (T4.setTop (mkF m 16 #[.val (.int p1), .val (.ref w7), .unset, .unset] [])) _
    refine XS.iconst X4.here hx rfl (hb hby at_16) ?_
    show Steps p.tables e below (T4.setTop (mkF m 17 #[.val (.int p1), .val (.ref w7), .unset, .unset] [(.int (0 : Int32))])) _
    refine XS.iloadN X4.here hx rfl (hb hby at_17) rfl ?_
    show Steps p.tables e below (T4.setTop (mkF m 18 #[.val (.int p1), .val (.ref w7), .unset, .unset] [(.int p1), (.int (0 : Int32))])) _
    refine XS.ifYes X4.here hx rfl (pc0 := 18) (pc' := 25) rfl (hb hby at_18) rfl ((if0 _ _).trans (flt hc18).2.1) (by decide) (by decide) ?_
    show Steps p.tables e below (T4.setTop (mkF m 25 #[.val (.int p1), .val (.ref w7), .unset, .unset] [(.int (0 : Int32))])) _
    refine XS.iconst X4.here hx rfl (hb hby at_25) ?_
    show Steps p.tables e below (T4.setTop (mkF m 26 #[.val (.int p1), .val (.ref w7), .unset, .unset] [(.int (0 : Int32)), (.int (0 : Int32))])) _
    refine XS.icmpNo X4.here hx rfl (hb hby at_26) rfl (teq (rfl : (0 : Int32) = (0 : Int32))).2 ?_
    show Steps p.tables e below (T4.setTop (mkF m 29 #[.val (.int p1), .val (.ref w7), .unset, .unset] [])) _
    refine XS.aloadN X4.here hx rfl (hb hby at_29) rfl rfl ?_
    show Steps p.tables e below (T4.setTop (mkF m 30 #[.val (.int p1), .val (.ref w7), .unset, .unset] [(.ref w7)])) _
    refine st6 _ ?_
    show Steps p.tables e below (T6.setTop (mkF m 33 #[.val (.int p1), .val (.ref w7), .unset, .unset] [(.ref w5), (.ref w7)])) _
    refine Jvm.RoadKit.acmp (g := (mkF m 33 #[.val (.int p1), .val (.ref w7), .unset, .unset] [(.ref w5), (.ref w7)])) X6 hx rfl rfl rfl (pc0 := 33) (pc' := 40) (same := false) rfl (hb hby at_33) rfl (decide_eq_false fun q => ha33 (Value.ref.inj q)) (by decide) (by decide) ?_
    show Steps p.tables e below (T6.setTop (mkF m 40 #[.val (.int p1), .val (.ref w7), .unset, .unset] [])) _
    refine XS.iconst X6.here hx rfl (hb hby at_40) ?_
    show Steps p.tables e below (T6.setTop (mkF m 41 #[.val (.int p1), .val (.ref w7), .unset, .unset] [(.int (0 : Int32))])) _
    refine XS.iloadN X6.here hx rfl (hb hby at_41) rfl ?_
    show Steps p.tables e below (T6.setTop (mkF m 42 #[.val (.int p1), .val (.ref w7), .unset, .unset] [(.int p1), (.int (0 : Int32))])) _
    refine XS.ifYes X6.here hx rfl (pc0 := 42) (pc' := 49) rfl (hb hby at_42) rfl ((if0 _ _).trans (feq hc42).2) (by decide) (by decide) ?_
    show Steps p.tables e below (T6.setTop (mkF m 49 #[.val (.int p1), .val (.ref w7), .unset, .unset] [(.int (0 : Int32))])) _
    refine XS.iconst X6.here hx rfl (hb hby at_49) ?_
    show Steps p.tables e below (T6.setTop (mkF m 50 #[.val (.int p1), .val (.ref w7), .unset, .unset] [(.int (0 : Int32)), (.int (0 : Int32))])) _
    refine XS.icmpNo X6.here hx rfl (hb hby at_50) rfl (teq (rfl : (0 : Int32) = (0 : Int32))).2 ?_
    show Steps p.tables e below (T6.setTop (mkF m 53 #[.val (.int p1), .val (.ref w7), .unset, .unset] [])) _
    refine XS.aloadN X6.here hx rfl (hb hby at_53) rfl rfl ?_
    show Steps p.tables e below (T6.setTop (mkF m 54 #[.val (.int p1), .val (.ref w7), .unset, .unset] [(.ref w7)])) _
    refine st8 _ ?_
    show Steps p.tables e below (T8.setTop (mkF m 57 #[.val (.int p1), .val (.ref w7), .unset, .unset] [(.ref w7), (.ref w7)])) _
    refine Jvm.RoadKit.acmp (g := (mkF m 57 #[.val (.int p1), .val (.ref w7), .unset, .unset] [(.ref w7), (.ref w7)])) X8 hx rfl rfl rfl (pc0 := 57) (pc' := 60) (same := true) rfl (hb hby at_57) rfl (decide_eq_true (congrArg Value.ref ha57)) (by decide) (by decide) ?_
    show Steps p.tables e below (T8.setTop (mkF m 60 #[.val (.int p1), .val (.ref w7), .unset, .unset] [])) _
    refine XS.iconst X8.here hx rfl (hb hby at_60) ?_
    show Steps p.tables e below (T8.setTop (mkF m 61 #[.val (.int p1), .val (.ref w7), .unset, .unset] [(.int (1 : Int32))])) _
    refine XS.goto X8.here hx rfl (pc0 := 61) (pc' := 65) rfl (hb hby at_61) (by decide) (by decide) ?_
    show Steps p.tables e below (T8.setTop (mkF m 65 #[.val (.int p1), .val (.ref w7), .unset, .unset] [(.int (1 : Int32))])) _
    refine XS.iloadN X8.here hx rfl (hb hby at_65) rfl ?_
    show Steps p.tables e below (T8.setTop (mkF m 66 #[.val (.int p1), .val (.ref w7), .unset, .unset] [(.int p1), (.int (1 : Int32))])) _
    refine XS.ifNo X8.here hx rfl (hb hby at_66) rfl ((if0 _ _).trans (tlt hc66).2.2.2) ?_
    show Steps p.tables e below (T8.setTop (mkF m 69 #[.val (.int p1), .val (.ref w7), .unset, .unset] [(.int (1 : Int32))])) _
    refine XS.iconst X8.here hx rfl (hb hby at_69) ?_
    show Steps p.tables e below (T8.setTop (mkF m 70 #[.val (.int p1), .val (.ref w7), .unset, .unset] [(.int (1 : Int32)), (.int (1 : Int32))])) _
    refine XS.goto X8.here hx rfl (pc0 := 70) (pc' := 74) rfl (hb hby at_70) (by decide) (by decide) ?_
    show Steps p.tables e below (T8.setTop (mkF m 74 #[.val (.int p1), .val (.ref w7), .unset, .unset] [(.int (1 : Int32)), (.int (1 : Int32))])) _
    refine XS.icmpNo X8.here hx rfl (hb hby at_74) rfl (teq (rfl : (1 : Int32) = (1 : Int32))).2 ?_
    show Steps p.tables e below (T8.setTop (mkF m 77 #[.val (.int p1), .val (.ref w7), .unset, .unset] [])) _
    refine XS.aloadN X8.here hx rfl (hb hby at_77) rfl rfl ?_
    show Steps p.tables e below (T8.setTop (mkF m 78 #[.val (.int p1), .val (.ref w7), .unset, .unset] [(.ref w7)])) _
    refine st10 _ ?_
    show Steps p.tables e below (T10.setTop (mkF m 81 #[.val (.int p1), .val (.ref w7), .unset, .unset] [(.ref w9), (.ref w7)])) _
    refine Jvm.RoadKit.acmp (g := (mkF m 81 #[.val (.int p1), .val (.ref w7), .unset, .unset] [(.ref w9), (.ref w7)])) X10 hx rfl rfl rfl (pc0 := 81) (pc' := 84) (same := false) rfl (hb hby at_81) rfl (decide_eq_false fun q => ha81 (Value.ref.inj q)) (by decide) (by decide) ?_
    show Steps p.tables e below (T10.setTop (mkF m 84 #[.val (.int p1), .val (.ref w7), .unset, .unset] [])) _
    refine XS.iconst X10.here hx rfl (hb hby at_84) ?_
    show Steps p.tables e below (T10.setTop (mkF m 85 #[.val (.int p1), .val (.ref w7), .unset, .unset] [(.int (1 : Int32))])) _
    refine XS.goto X10.here hx rfl (pc0 := 85) (pc' := 89) rfl (hb hby at_85) (by decide) (by decide) ?_
    show Steps p.tables e below (T10.setTop (mkF m 89 #[.val (.int p1), .val (.ref w7), .unset, .unset] [(.int (1 : Int32))])) _
    refine XS.istoreN X10.here hx rfl (hb hby at_89) rfl (l' := #[.val (.int p1), .val (.ref w7), .val (.int (1 : Int32)), .unset]) rfl ?_
    show Steps p.tables e below (T10.setTop (mkF m 90 #[.val (.int p1), .val (.ref w7), .val (.int (1 : Int32)), .unset] [])) _
    refine XS.iloadN X10.here hx rfl (hb hby at_90) rfl ?_
    show Steps p.tables e below (T10.setTop (mkF m 91 #[.val (.int p1), .val (.ref w7), .val (.int (1 : Int32)), .unset] [(.int (1 : Int32))])) _
    refine XS.ifYes X10.here hx rfl (pc0 := 91) (pc' := 96) rfl (hb hby at_91) rfl ((if0 _ _).trans (feq hc91).2) (by decide) (by decide) ?_
    show Steps p.tables e below (T10.setTop (mkF m 96 #[.val (.int p1), .val (.ref w7), .val (.int (1 : Int32)), .unset] [])) _
    refine XS.iloadN X10.here hx rfl (hb hby at_96) rfl ?_
    show Steps p.tables e below (T10.setTop (mkF m 97 #[.val (.int p1), .val (.ref w7), .val (.int (1 : Int32)), .unset] [(.int p1)])) _
    refine X10.ldcInt hx hown (mvT hZ (hw _ (List.mem_of_getElem? (i := 13) rfl))) (g := (mkF m 97 #[.val (.int p1), .val (.ref w7), .val (.int (1 : Int32)), .unset] [(.int p1)])) rfl (hb hby at_97) _ ?_
    show Steps p.tables e below (T10.setTop (mkF m 99 #[.val (.int p1), .val (.ref w7), .val (.int (1 : Int32)), .unset] [(.int (-2147483648 : Int32)), (.int p1)])) _
    refine XS.icmpYes X10.here hx rfl (pc0 := 99) (pc' := 104) rfl (hb hby at_99) rfl (feq hc99).2 (by decide) (by decide) ?_
    show Steps p.tables e below (T10.setTop (mkF m 104 #[.val (.int p1), .val (.ref w7), .val (.int (1 : Int32)), .unset] [])) _
    refine XS.iloadN X10.here hx rfl (hb hby at_104) rfl ?_
    show Steps p.tables e below (T10.setTop (mkF m 105 #[.val (.int p1), .val (.ref w7), .val (.int (1 : Int32)), .unset] [(.int p1)])) _
    refine XS.ineg X10.here hx rfl (hb hby at_105) rfl ?_
    show Steps p.tables e below (T10.setTop (mkF m 106 #[.val (.int p1), .val (.ref w7), .val (.int (1 : Int32)), .unset] [(.int (-p1))])) _
    refine st11 _ ?_
    show Steps p.tables e below (T11.setTop (mkF m 109 #[.val (.int p1), .val (.ref w7), .val (.int (1 : Int32)), .unset] [(.ref w3)])) _
    refine XS.astoreN X11.here hx rfl (hb hby at_109) rfl rfl (l' := #[.val (.int p1), .val (.ref w7), .val (.int (1 : Int32)), .val (.ref w3)]) rfl ?_
    show Steps p.tables e below (T11.setTop (mkF m 110 #[.val (.int p1), .val (.ref w7), .val (.int (1 : Int32)), .val (.ref w3)] [])) _
    refine XS.aloadN X11.here hx rfl (hb hby at_110) rfl rfl ?_
    show Steps p.tables e below (T11.setTop (mkF m 111 #[.val (.int p1), .val (.ref w7), .val (.int (1 : Int32)), .val (.ref w3)] [(.ref w7)])) _
    refine st12 _ ?_
    show Steps p.tables e below (T12.setTop (mkF m 114 #[.val (.int p1), .val (.ref w7), .val (.int (1 : Int32)), .val (.ref w3)] [(.ref w3), (.ref w7)])) _
    refine Jvm.RoadKit.acmp (g := (mkF m 114 #[.val (.int p1), .val (.ref w7), .val (.int (1 : Int32)), .val (.ref w3)] [(.ref w3), (.ref w7)])) X12 hx rfl rfl rfl (pc0 := 114) (pc' := 121) (same := false) rfl (hb hby at_114) rfl (decide_eq_false fun q => ha114 (Value.ref.inj q)) (by decide) (by decide) ?_
    show Steps p.tables e below (T12.setTop (mkF m 121 #[.val (.int p1), .val (.ref w7), .val (.int (1 : Int32)), .val (.ref w3)] [])) _
    refine XS.iconst X12.here hx rfl (hb hby at_121) ?_
    show Steps p.tables e below (T12.setTop (mkF m 122 #[.val (.int p1), .val (.ref w7), .val (.int (1 : Int32)), .val (.ref w3)] [(.int (0 : Int32))])) _
    refine XS.aloadN X12.here hx rfl (hb hby at_122) rfl rfl ?_
    show Steps p.tables e below (T12.setTop (mkF m 123 #[.val (.int p1), .val (.ref w7), .val (.int (1 : Int32)), .val (.ref w3)] [(.ref w3), (.int (0 : Int32))])) _
    refine st13 _ ?_
    show Steps p.tables e below (T13.setTop (mkF m 126 #[.val (.int p1), .val (.ref w7), .val (.int (1 : Int32)), .val (.ref w3)] [(.ref w7), (.ref w3), (.int (0 : Int32))])) _
    refine Jvm.RoadKit.acmp (g := (mkF m 126 #[.val (.int p1), .val (.ref w7), .val (.int (1 : Int32)), .val (.ref w3)] [(.ref w7), (.ref w3), (.int (0 : Int32))])) X13 hx rfl rfl rfl (pc0 := 126) (pc' := 133) (same := false) rfl (hb hby at_126) rfl (decide_eq_false fun q => ha126 (Value.ref.inj q)) (by decide) (by decide) ?_
    show Steps p.tables e below (T13.setTop (mkF m 133 #[.val (.int p1), .val (.ref w7), .val (.int (1 : Int32)), .val (.ref w3)] [(.int (0 : Int32))])) _
    refine XS.iconst X13.here hx rfl (hb hby at_133) ?_
    show Steps p.tables e below (T13.setTop (mkF m 134 #[.val (.int p1), .val (.ref w7), .val (.int (1 : Int32)), .val (.ref w3)] [(.int (0 : Int32)), (.int (0 : Int32))])) _
    refine XS.icmpNo X13.here hx rfl (hb hby at_134) rfl (teq (rfl : (0 : Int32) = (0 : Int32))).2 ?_
    show Steps p.tables e below (T13.setTop (mkF m 137 #[.val (.int p1), .val (.ref w7), .val (.int (1 : Int32)), .val (.ref w3)] [])) _
    refine XS.aloadN X13.here hx rfl (hb hby at_137) rfl rfl ?_
    show Steps p.tables e below (T13.setTop (mkF m 138 #[.val (.int p1), .val (.ref w7), .val (.int (1 : Int32)), .val (.ref w3)] [(.ref w7)])) _
    refine st14 _ ?_
    show Steps p.tables e below (T14.setTop (mkF m 141 #[.val (.int p1), .val (.ref w7), .val (.int (1 : Int32)), .val (.ref w3)] [(.ref w7), (.ref w7)])) _
    refine Jvm.RoadKit.acmp (g := (mkF m 141 #[.val (.int p1), .val (.ref w7), .val (.int (1 : Int32)), .val (.ref w3)] [(.ref w7), (.ref w7)])) X14 hx rfl rfl rfl (pc0 := 141) (pc' := 144) (same := true) rfl (hb hby at_141) rfl (decide_eq_true (congrArg Value.ref ha141)) (by decide) (by decide) ?_
    show Steps p.tables e below (T14.setTop (mkF m 144 #[.val (.int p1), .val (.ref w7), .val (.int (1 : Int32)), .val (.ref w3)] [])) _
    refine XS.iconst X14.here hx rfl (hb hby at_144) ?_
    show Steps p.tables e below (T14.setTop (mkF m 145 #[.val (.int p1), .val (.ref w7), .val (.int (1 : Int32)), .val (.ref w3)] [(.int (1 : Int32))])) _
    refine XS.goto X14.here hx rfl (pc0 := 145) (pc' := 149) rfl (hb hby at_145) (by decide) (by decide) ?_
    show Steps p.tables e below (T14.setTop (mkF m 149 #[.val (.int p1), .val (.ref w7), .val (.int (1 : Int32)), .val (.ref w3)] [(.int (1 : Int32))])) _
    refine XS.aloadN X14.here hx rfl (hb hby at_149) rfl rfl ?_
    show Steps p.tables e below (T14.setTop (mkF m 150 #[.val (.int p1), .val (.ref w7), .val (.int (1 : Int32)), .val (.ref w3)] [(.ref w3), (.int (1 : Int32))])) _
    refine st15 _ ?_
    show Steps p.tables e below (T15.setTop (mkF m 153 #[.val (.int p1), .val (.ref w7), .val (.int (1 : Int32)), .val (.ref w3)] [(.ref w3), (.ref w3), (.int (1 : Int32))])) _
    refine Jvm.RoadKit.acmp (g := (mkF m 153 #[.val (.int p1), .val (.ref w7), .val (.int (1 : Int32)), .val (.ref w3)] [(.ref w3), (.ref w3), (.int (1 : Int32))])) X15 hx rfl rfl rfl (pc0 := 153) (pc' := 156) (same := true) rfl (hb hby at_153) rfl (decide_eq_true (congrArg Value.ref ha153)) (by decide) (by decide) ?_
    show Steps p.tables e below (T15.setTop (mkF m 156 #[.val (.int p1), .val (.ref w7), .val (.int (1 : Int32)), .val (.ref w3)] [(.int (1 : Int32))])) _
    refine XS.iconst X15.here hx rfl (hb hby at_156) ?_
    show Steps p.tables e below (T15.setTop (mkF m 157 #[.val (.int p1), .val (.ref w7), .val (.int (1 : Int32)), .val (.ref w3)] [(.int (1 : Int32)), (.int (1 : Int32))])) _
    refine XS.goto X15.here hx rfl (pc0 := 157) (pc' := 161) rfl (hb hby at_157) (by decide) (by decide) ?_
    show Steps p.tables e below (T15.setTop (mkF m 161 #[.val (.int p1), .val (.ref w7), .val (.int (1 : Int32)), .val (.ref w3)] [(.int (1 : Int32)), (.int (1 : Int32))])) _
    refine XS.icmpNo X15.here hx rfl (hb hby at_161) rfl (teq (rfl : (1 : Int32) = (1 : Int32))).2 ?_
    show Steps p.tables e below (T15.setTop (mkF m 164 #[.val (.int p1), .val (.ref w7), .val (.int (1 : Int32)), .val (.ref w3)] [])) _
    refine XS.aloadN X15.here hx rfl (hb hby at_164) rfl rfl ?_
    show Steps p.tables e below (T15.setTop (mkF m 165 #[.val (.int p1), .val (.ref w7), .val (.int (1 : Int32)), .val (.ref w3)] [(.ref w7)])) _
    refine st16 _ ?_
    show Steps p.tables e below (T16.setTop (mkF m 168 #[.val (.int p1), .val (.ref w7), .val (.int (1 : Int32)), .val (.ref w3)] [(.ref w5), (.ref w7)])) _
    refine Jvm.RoadKit.acmp (g := (mkF m 168 #[.val (.int p1), .val (.ref w7), .val (.int (1 : Int32)), .val (.ref w3)] [(.ref w5), (.ref w7)])) X16 hx rfl rfl rfl (pc0 := 168) (pc' := 175) (same := false) rfl (hb hby at_168) rfl (decide_eq_false fun q => ha168 (Value.ref.inj q)) (by decide) (by decide) ?_
    show Steps p.tables e below (T16.setTop (mkF m 175 #[.val (.int p1), .val (.ref w7), .val (.int (1 : Int32)), .val (.ref w3)] [])) _
    refine XS.iconst X16.here hx rfl (hb hby at_175) ?_
    show Steps p.tables e below (T16.setTop (mkF m 176 #[.val (.int p1), .val (.ref w7), .val (.int (1 : Int32)), .val (.ref w3)] [(.int (0 : Int32))])) _
    refine XS.aloadN X16.here hx rfl (hb hby at_176) rfl rfl ?_
    show Steps p.tables e below (T16.setTop (mkF m 177 #[.val (.int p1), .val (.ref w7), .val (.int (1 : Int32)), .val (.ref w3)] [(.ref w3), (.int (0 : Int32))])) _
    refine st17 _ ?_
    show Steps p.tables e below (T17.setTop (mkF m 180 #[.val (.int p1), .val (.ref w7), .val (.int (1 : Int32)), .val (.ref w3)] [(.ref w5), (.ref w3), (.int (0 : Int32))])) _
    refine Jvm.RoadKit.acmp (g := (mkF m 180 #[.val (.int p1), .val (.ref w7), .val (.int (1 : Int32)), .val (.ref w3)] [(.ref w5), (.ref w3), (.int (0 : Int32))])) X17 hx rfl rfl rfl (pc0 := 180) (pc' := 187) (same := false) rfl (hb hby at_180) rfl (decide_eq_false fun q => ha180 (Value.ref.inj q)) (by decide) (by decide) ?_
    show Steps p.tables e below (T17.setTop (mkF m 187 #[.val (.int p1), .val (.ref w7), .val (.int (1 : Int32)), .val (.ref w3)] [(.int (0 : Int32))])) _
    refine XS.iconst X17.here hx rfl (hb hby at_187) ?_
    show Steps p.tables e below (T17.setTop (mkF m 188 #[.val (.int p1), .val (.ref w7), .val (.int (1 : Int32)), .val (.ref w3)] [(.int (0 : Int32)), (.int (0 : Int32))])) _
    refine XS.icmpNo X17.here hx rfl (hb hby at_188) rfl (teq (rfl : (0 : Int32) = (0 : Int32))).2 ?_
    show Steps p.tables e below (T17.setTop (mkF m 191 #[.val (.int p1), .val (.ref w7), .val (.int (1 : Int32)), .val (.ref w3)] [])) _
    refine XS.iconst X17.here hx rfl (hb hby at_191) ?_
    show Steps p.tables e below (T17.setTop (mkF m 192 #[.val (.int p1), .val (.ref w7), .val (.int (1 : Int32)), .val (.ref w3)] [(.int (1 : Int32))])) _
    refine XS.goto X17.here hx rfl (pc0 := 192) (pc' := 196) rfl (hb hby at_192) (by decide) (by decide) ?_
    show Steps p.tables e below (T17.setTop (mkF m 196 #[.val (.int p1), .val (.ref w7), .val (.int (1 : Int32)), .val (.ref w3)] [(.int (1 : Int32))])) _
    exact retN X17 hx (t := .boolean) Bd.returns (by simp) (hb hby at_196) hr
  · show Q0_d Z p1 w3 w5 w7 w9 h0 n0 _ T17.heap _
    rw [e17]
    exact ⟨rfl, N11⟩
set_option maxRecDepth 65536 in
set_option maxHeartbeats 40000000 in
theorem comes_1 {Post : Tables → Env → Array Value → State → Outcome → State → Prop} (hpost : ∀ tb e args s v u, (limb_1_1.after args s (.returned v) u = true ∧ limb_1_2.after args s (.returned v) u = true ∧ True) → FrameEnd s (.returned v) u (Jvm.fieldLocs frame_1_writes args s ++ Jvm.arrayLocs frame_1_arrays args s ++ Jvm.staticLocs frame_1_statics s) 0 0 → Post tb e args s (.returned v) u) :
    ArmFor flags0 classFile x code maxLocals ret World_1 tables_1 room_1 Calls_1 rest_1 Pre_1 Post := by
  intro l hfl _ _ p e ha hc hk s m args below hf hA hF happ hP
  obtain ⟨hcalls, hrest, hpre⟩ := hP
  obtain ⟨-, -, -, hnamed, -, -, -, hat⟩ := (Spec.applies_iff hf).mp happ
  obtain ⟨hg, hn⟩ := and_e (Cond.before_iff.mp (show (Jvm.Cond.and given_1 narrow_1).before args s = true from hpre))
  obtain ⟨g18, g19⟩ := and_e hg
  obtain ⟨w0, rfl⟩ : ∃ w0 : Value, args = #[w0] := by
    have hs : args.size = 1 := by simpa [Cond.value, given_1] using g18
    obtain ⟨L⟩ := args
    match L, hs with
    | [w0], _ => exact ⟨w0, rfl⟩
  have hw := fun d (hd : d ∈ tables_1) => atoms_spec (ws := Jvm.Cond.code x code maxLocals ret :: tables_1) hat d (List.mem_cons_of_mem _ hd)
  have hfit : Fit s := fun {y c} hc i hi => by
    obtain ⟨ha, rfl⟩ := Array.getElem?_eq_some_iff.mp hc
    have q := List.all_eq_true.mp ((Array.all_eq_true_iff_forall_mem.mp hF) _ (Array.getElem_mem ha)) i (List.mem_range.mpr hi)
    simpa [Array.getElem?_eq_getElem hi] using q
  obtain ⟨i0, ei0⟩ := is_v g19
  obtain rfl : w0 = (.int i0) := Option.some.inj ei0
  obtain ⟨pn0, hn⟩ := and_e hn
  obtain ⟨pn1, hn⟩ := and_e hn
  obtain ⟨pn2, hn⟩ := and_e hn
  obtain ⟨pn3, hn⟩ := and_e hn
  obtain ⟨pn4, hn⟩ := and_e hn
  obtain ⟨pn5, hn⟩ := and_e hn
  obtain ⟨pn6, hn⟩ := and_e hn
  have pn7 := hn
  obtain ⟨a_EQUAL, v_EQUAL, S_EQUAL, E_EQUAL⟩ := own_pin pn0 (hw _ (List.mem_of_getElem? (i := 2) rfl)) (hw _ (List.mem_of_getElem? (i := 5) rfl))
  obtain ⟨a_LESS, v_LESS, S_LESS, E_LESS⟩ := own_pin pn1 (hw _ (List.mem_of_getElem? (i := 2) rfl)) (hw _ (List.mem_of_getElem? (i := 7) rfl))
  obtain ⟨a_GREATER, v_GREATER, S_GREATER, E_GREATER⟩ := own_pin pn4 (hw _ (List.mem_of_getElem? (i := 2) rfl)) (hw _ (List.mem_of_getElem? (i := 10) rfl))
  obtain ⟨a_UNORDERED, v_UNORDERED, S_UNORDERED, E_UNORDERED⟩ := own_pin pn6 (hw _ (List.mem_of_getElem? (i := 2) rfl)) (hw _ (List.mem_of_getElem? (i := 12) rfl))
  have f_EQUAL := own_fld v_EQUAL pn2
  have f_LESS := own_fld v_LESS pn3
  have f_GREATER := own_fld v_GREATER pn5
  have f_UNORDERED := own_fld v_UNORDERED pn7
  by_cases q0 : i0 < (0 : Int32)
  · by_cases qm : i0 = (-2147483648 : Int32)
    · obtain ⟨n, o, h1, h2, h3, _, L, rfl, ⟨rfl, N⟩, hq⟩ := rm0_b l s _ hw tables_1 i0 a_LESS a_EQUAL a_GREATER a_UNORDERED s.heap s.heap.size (Nat.le_refl _) S_LESS S_EQUAL S_GREATER S_UNORDERED rfl q0 (own_ne f_LESS f_EQUAL (by decide)) (own_lt_ne q0) (own_ne f_LESS f_GREATER (by decide)) (own_asym q0) (own_ne f_LESS f_UNORDERED (by decide)) (by decide) qm p e ha hc hk s m _ below hf ((Spec.applies_iff_loose hf).mp happ).1 ⟨rfl, State.Warmed39.refl s, rfl⟩ trivial
      refine ⟨n, _, h1, h2, h3, hpost _ _ _ _ _ _ ⟨Cond.after_iff.mpr rfl, Cond.after_iff.mpr (eq_i res_at (Term.int_eval (1)) rfl), trivial⟩ ⟨hq.1, hq.2.1, (hq.2.2.sift fun y hy => Or.inr (N y hy)).mono (by decide) (by decide)⟩⟩
    · obtain ⟨n, o, h1, h2, h3, _, L, rfl, ⟨rfl, N⟩, hq⟩ := rm0_a l s _ hw tables_1 i0 a_LESS a_EQUAL a_GREATER a_UNORDERED s.heap s.heap.size (Nat.le_refl _) S_LESS S_EQUAL S_GREATER S_UNORDERED rfl q0 (own_ne f_LESS f_EQUAL (by decide)) (own_lt_ne q0) (own_ne f_LESS f_GREATER (by decide)) (own_asym q0) (own_ne f_LESS f_UNORDERED (by decide)) (by decide) qm rfl rfl (own_ne f_LESS f_GREATER (by decide)) (own_ne f_GREATER f_LESS (by decide)) (own_ne f_LESS f_EQUAL (by decide)) (own_ne f_GREATER f_EQUAL (by decide)) (own_asym (own_lt_neg qm q0)) (own_lt_neg qm q0) p e ha hc hk s m _ below hf ((Spec.applies_iff_loose hf).mp happ).1 ⟨rfl, State.Warmed39.refl s, rfl⟩ trivial
      refine ⟨n, _, h1, h2, h3, hpost _ _ _ _ _ _ ⟨Cond.after_iff.mpr rfl, Cond.after_iff.mpr (eq_i res_at (Term.int_eval (1)) rfl), trivial⟩ ⟨hq.1, hq.2.1, (hq.2.2.sift fun y hy => Or.inr (N y hy)).mono (by decide) (by decide)⟩⟩
  by_cases q1 : (0 : Int32) < i0
  · obtain ⟨n, o, h1, h2, h3, _, L, rfl, ⟨rfl, N⟩, hq⟩ := rm0_d l s _ hw tables_1 i0 a_LESS a_EQUAL a_GREATER a_UNORDERED s.heap s.heap.size (Nat.le_refl _) S_LESS S_EQUAL S_GREATER S_UNORDERED (own_ne f_GREATER f_LESS (by decide)) q0 (own_ne f_GREATER f_EQUAL (by decide)) (fun q => own_lt_ne q1 q.symm) rfl q1 (own_ne f_GREATER f_UNORDERED (by decide)) (by decide) (own_pos_min q1) (own_ne f_GREATER f_LESS (by decide)) (own_ne f_LESS f_GREATER (by decide)) rfl rfl (own_ne f_GREATER f_EQUAL (by decide)) (own_ne f_LESS f_EQUAL (by decide)) (own_gt_neg (own_pos_min q1) q1) p e ha hc hk s m _ below hf ((Spec.applies_iff_loose hf).mp happ).1 ⟨rfl, State.Warmed39.refl s, rfl⟩ trivial
    refine ⟨n, _, h1, h2, h3, hpost _ _ _ _ _ _ ⟨Cond.after_iff.mpr rfl, Cond.after_iff.mpr (eq_i res_at (Term.int_eval (1)) rfl), trivial⟩ ⟨hq.1, hq.2.1, (hq.2.2.sift fun y hy => Or.inr (N y hy)).mono (by decide) (by decide)⟩⟩
  obtain rfl := own_zero q0 q1
  obtain ⟨n, o, h1, h2, h3, _, L, rfl, ⟨rfl, N⟩, hq⟩ := rm0_c l s _ hw tables_1 (0 : Int32) a_LESS a_EQUAL a_GREATER a_UNORDERED s.heap s.heap.size (Nat.le_refl _) S_LESS S_EQUAL S_GREATER S_UNORDERED (own_ne f_EQUAL f_LESS (by decide)) q0 rfl rfl (own_ne f_EQUAL f_GREATER (by decide)) q1 (own_ne f_EQUAL f_UNORDERED (by decide)) (by decide) own_min (own_ne f_EQUAL f_LESS (by decide)) (own_ne f_EQUAL f_GREATER (by decide)) (own_ne f_EQUAL f_GREATER (by decide)) (own_ne f_EQUAL f_LESS (by decide)) rfl rfl (by decide) (by decide) p e ha hc hk s m _ below hf ((Spec.applies_iff_loose hf).mp happ).1 ⟨rfl, State.Warmed39.refl s, rfl⟩ trivial
  refine ⟨n, _, h1, h2, h3, hpost _ _ _ _ _ _ ⟨Cond.after_iff.mpr rfl, Cond.after_iff.mpr (eq_i res_at (Term.int_eval (1)) rfl), trivial⟩ ⟨hq.1, hq.2.1, (hq.2.2.sift fun y hy => Or.inr (N y hy)).mono (by decide) (by decide)⟩⟩
theorem main_1_1 : Claimed_1_1 := comes_1 fun _ _ _ _ _ _ h hF => ⟨h.1, hF⟩
theorem main_1_2 : Claimed_1_2 := comes_1 fun _ _ _ _ _ _ h hF => ⟨h.2.1, hF⟩
end Jvm.Pilot.@@N@@
namespace Jvm.Pilot.@@N@@
open Jvm Jvm.ClassFile Sem Op Lib Jvm.Free Jvm.Stand Jvm.Pilot.@@N@@.Jvm.D
/-! MADE BY PROGRAM (witnessworld.py) out of the Statement's table words and the real class files: 12 classes; the members and pool entries that the words name. The judged class is class 1, her method 1. -/
namespace start1
open Jvm.ClassFile
def u (s : String) : CpInfo := .utf8 (stringToUtf16 s)
/-- a pool by its gaps: so many unusable entries, then the entry; so many at the end -/
def gap : Nat → List CpInfo → List CpInfo
  | 0, r => r
  | n + 1, r => .unusable :: gap n r
def poolList (es : List (Nat × CpInfo)) (last : Nat) : List CpInfo := es.foldr (fun e r => gap e.1 (e.2 :: r)) (gap last [])
def pool (es : List (Nat × CpInfo)) (last : Nat) : Array CpInfo := ⟨poolList es last⟩
def fileOf (pool : Array CpInfo) (this : Nat) (attrs : Array Attribute := #[]) (ms : Array MethodInfo := #[]) (fl : Nat := 33) (sup : Nat := 0) (ifs : Array Nat := #[]) (fds : Array FieldInfo := #[]) : ClassFile where
  minorVersion := 0
  majorVersion := 65
  constantPool := pool
  accessFlags := fl
  thisClass := this
  superClass := sup
  interfaces := ifs
  fields := fds
  methods := ms
  attributes := attrs
def plain (name : String) (sup : Option ClassId) : Class where
  name := name
  kind := .ordinary
  loader := none
  accessFlags := 33
  super := sup
  interfaces := #[]
  cf := none
  fields := #[]
  methods := #[]
  instanceTypes := #[]
  staticTypes := #[]
  resolved := #[]
  callSites := []
  init := .initialized
  statics := none
  mirror := none

def pool0 : Array CpInfo := pool [(5, u "<init>"), (0, u "()V"), (1, .class_ 10), (1, u "java/lang/Object")] 113

def k0m0 : Method := { name := "<init>", desc := "()V", sig := { parameters := [], returnType := none }, accessFlags := 1, code := none }
/-- java/lang/Object -/
def k0 : Class := { plain "java/lang/Object" none with
  accessFlags := 33
  interfaces := #[]
  cf := some (fileOf pool0 8 #[] #[{ accessFlags := 1, nameIndex := 5, descriptorIndex := 6, attributes := #[] }] 33 0 #[] #[])
  fields := #[]
  methods := #[k0m0]
  instanceTypes := #[]
  staticTypes := #[]
  resolved := Array.replicate 124 none
  statics := none }

def pool1 : Array CpInfo := pool [(2, .class_ 4), (1, u "java/lang/Object"), (0, u "<init>"), (0, u "()V"), (0, .methodref 8 9), (0, .class_ 10), (0, .nameAndType 11 12), (0, u "com/example/quernstone/quernstone/sparql/Values$Order"), (0, u "of"), (0, u "(I)Lcom/example/quernstone/quernstone/sparql/Values$Order;"), (0, .fieldref 8 14), (0, .nameAndType 15 16), (0, u "LESS"), (0, u "Lcom/example/quernstone/quernstone/sparql/Values$Order;"), (0, .fieldref 8 18), (0, .nameAndType 19 16), (0, u "EQUAL"), (0, .fieldref 8 21), (0, .nameAndType 22 16), (0, u "GREATER"), (0, .fieldref 8 24), (0, .nameAndType 25 16), (0, u "UNORDERED"), (2, .integer 2147483648), (0, .class_ 30), (0, u "com/example/quernstone/quernstone/sparql/ValuesOfPinLaw"), (2, u "law"), (0, u "(I)Z")] 7

def k1m0 : Method := { name := "<init>", desc := "()V", sig := { parameters := [], returnType := none }, accessFlags := 2, code := none }
def k1c1 : Code := { maxStack := 3, maxLocals := 4, code := code, exceptionTable := #[], attributes := #[] }
def k1m1 : Method := { name := "law", desc := "(I)Z", sig := { parameters := [.int], returnType := some .boolean }, accessFlags := 9, code := some k1c1 }
/-- com/example/quernstone/quernstone/sparql/ValuesOfPinLaw -/
def k1 : Class := { plain "com/example/quernstone/quernstone/sparql/ValuesOfPinLaw" (some 0) with
  accessFlags := 49
  interfaces := #[]
  cf := some (fileOf pool1 29 #[] #[{ accessFlags := 2, nameIndex := 5, descriptorIndex := 6, attributes := #[] }, { accessFlags := 9, nameIndex := 33, descriptorIndex := 34, attributes := #[] }] 49 2 #[] #[])
  fields := #[]
  methods := #[k1m0, k1m1]
  instanceTypes := #[]
  staticTypes := #[]
  resolved := Array.replicate 42 none
  statics := none }

def pool2 : Array CpInfo := pool [(1, .class_ 2), (0, u "java/lang/constant/Constable"), (0, .class_ 4), (0, u "java/lang/Object")] 6

/-- java/lang/constant/Constable -/
def k2 : Class := { plain "java/lang/constant/Constable" (some 0) with
  accessFlags := 1537
  interfaces := #[]
  cf := some (fileOf pool2 1 #[] #[] 1537 3 #[] #[])
  fields := #[]
  methods := #[]
  instanceTypes := #[]
  staticTypes := #[]
  resolved := Array.replicate 11 none
  statics := none }

def pool3 : Array CpInfo := pool [(1, .class_ 2), (0, u "java/lang/Comparable"), (0, .class_ 4), (0, u "java/lang/Object")] 7

/-- java/lang/Comparable -/
def k3 : Class := { plain "java/lang/Comparable" (some 0) with
  accessFlags := 1537
  interfaces := #[]
  cf := some (fileOf pool3 1 #[] #[] 1537 3 #[] #[])
  fields := #[]
  methods := #[]
  instanceTypes := #[]
  staticTypes := #[]
  resolved := Array.replicate 12 none
  statics := none }

def pool4 : Array CpInfo := pool [(1, .class_ 2), (0, u "java/io/Serializable"), (0, .class_ 4), (0, u "java/lang/Object")] 2

/-- java/io/Serializable -/
def k4 : Class := { plain "java/io/Serializable" (some 0) with
  accessFlags := 1537
  interfaces := #[]
  cf := some (fileOf pool4 1 #[] #[] 1537 3 #[] #[])
  fields := #[]
  methods := #[]
  instanceTypes := #[]
  staticTypes := #[]
  resolved := Array.replicate 7 none
  statics := none }

def pool5 : Array CpInfo := pool [(2, .class_ 4), (1, u "java/lang/Enum"), (0, u "name"), (0, u "Ljava/lang/String;"), (2, u "ordinal"), (0, u "I"), (1, .class_ 14), (1, u "java/lang/Object"), (4, u "hash"), (86, .class_ 108), (1, u "java/lang/Enum$EnumDesc"), (2, .class_ 112), (0, u "java/lang/constant/Constable"), (0, .class_ 114), (0, u "java/lang/Comparable"), (0, .class_ 116), (0, u "java/io/Serializable")] 87

/-- java/lang/Enum -/
def k5 : Class := { plain "java/lang/Enum" (some 0) with
  accessFlags := 1057
  interfaces := #[2, 3, 4]
  cf := some (fileOf pool5 2 #[.nestMembers #[106]] #[] 1057 12 #[111, 113, 115] #[{ accessFlags := 18, nameIndex := 5, descriptorIndex := 6, attributes := #[] }, { accessFlags := 18, nameIndex := 9, descriptorIndex := 10, attributes := #[] }, { accessFlags := 2, nameIndex := 19, descriptorIndex := 10, attributes := #[] }])
  fields := #[{ name := "name", type := (.object "java/lang/String"), accessFlags := 18, slot := 0, constantValue := 0 }, { name := "ordinal", type := .int, accessFlags := 18, slot := 1, constantValue := 0 }, { name := "hash", type := .int, accessFlags := 2, slot := 2, constantValue := 0 }]
  methods := #[]
  instanceTypes := #[(.object "java/lang/String"), .int, .int]
  staticTypes := #[]
  resolved := Array.replicate 204 none
  statics := none }

def pool6 : Array CpInfo := pool [(1, .class_ 2), (0, u "com/example/quernstone/quernstone/sparql/Values$Order"), (0, .fieldref 1 4), (0, .nameAndType 5 6), (0, u "LESS"), (0, u "Lcom/example/quernstone/quernstone/sparql/Values$Order;"), (0, .fieldref 1 8), (0, .nameAndType 9 6), (0, u "EQUAL"), (0, .fieldref 1 11), (0, .nameAndType 12 6), (0, u "GREATER"), (2, u "UNORDERED"), (2, u "$VALUES"), (0, u "[Lcom/example/quernstone/quernstone/sparql/Values$Order;"), (6, .class_ 28), (1, u "java/lang/Enum"), (22, u "of"), (0, u "(I)Lcom/example/quernstone/quernstone/sparql/Values$Order;"), (6, .class_ 60), (0, u "com/example/quernstone/quernstone/sparql/Values")] 2

def k6c0 : Code := { maxStack := 1, maxLocals := 1, code := prog_133_method_4_code, exceptionTable := #[], attributes := #[] }
def k6m0 : Method := { name := "of", desc := "(I)Lcom/example/quernstone/quernstone/sparql/Values$Order;", sig := { parameters := [.int], returnType := some (.object "com/example/quernstone/quernstone/sparql/Values$Order") }, accessFlags := 8, code := some k6c0 }
/-- com/example/quernstone/quernstone/sparql/Values$Order -/
def k6 : Class := { plain "com/example/quernstone/quernstone/sparql/Values$Order" (some 5) with
  accessFlags := 16432
  interfaces := #[]
  cf := some (fileOf pool6 1 #[.nestHost 59] #[{ accessFlags := 8, nameIndex := 51, descriptorIndex := 52, attributes := #[] }] 16432 26 #[] #[{ accessFlags := 16409, nameIndex := 5, descriptorIndex := 6, attributes := #[] }, { accessFlags := 16409, nameIndex := 9, descriptorIndex := 6, attributes := #[] }, { accessFlags := 16409, nameIndex := 12, descriptorIndex := 6, attributes := #[] }, { accessFlags := 16409, nameIndex := 15, descriptorIndex := 6, attributes := #[] }, { accessFlags := 4122, nameIndex := 18, descriptorIndex := 19, attributes := #[] }])
  fields := #[{ name := "LESS", type := (.object "com/example/quernstone/quernstone/sparql/Values$Order"), accessFlags := 16409, slot := 0, constantValue := 0 }, { name := "EQUAL", type := (.object "com/example/quernstone/quernstone/sparql/Values$Order"), accessFlags := 16409, slot := 1, constantValue := 0 }, { name := "GREATER", type := (.object "com/example/quernstone/quernstone/sparql/Values$Order"), accessFlags := 16409, slot := 2, constantValue := 0 }, { name := "UNORDERED", type := (.object "com/example/quernstone/quernstone/sparql/Values$Order"), accessFlags := 16409, slot := 3, constantValue := 0 }, { name := "$VALUES", type := (.array (.object "com/example/quernstone/quernstone/sparql/Values$Order")), accessFlags := 4122, slot := 4, constantValue := 0 }]
  methods := #[k6m0]
  instanceTypes := #[(.object "java/lang/String"), .int, .int]
  staticTypes := #[(.object "com/example/quernstone/quernstone/sparql/Values$Order"), (.object "com/example/quernstone/quernstone/sparql/Values$Order"), (.object "com/example/quernstone/quernstone/sparql/Values$Order"), (.object "com/example/quernstone/quernstone/sparql/Values$Order"), (.array (.object "com/example/quernstone/quernstone/sparql/Values$Order"))]
  resolved := Array.replicate 63 none
  statics := some 0 }

def pool7 : Array CpInfo := pool [(1, u "java/lang/Cloneable"), (0, .class_ 1), (0, u "java/lang/Object"), (0, .class_ 3)] 3

/-- java/lang/Cloneable -/
def k7 : Class := { plain "java/lang/Cloneable" (some 0) with
  accessFlags := 1537
  interfaces := #[]
  cf := some (fileOf pool7 2 #[] #[] 1537 4 #[] #[])
  fields := #[]
  methods := #[]
  instanceTypes := #[]
  staticTypes := #[]
  resolved := Array.replicate 8 none
  statics := none }

/-- the primitive byte -/
def k8 : Class := { plain "byte" none with kind := .primitive 'B', accessFlags := 0x411 }
/-- [B -/
def k9 : Class := { plain "[B" (some 0) with kind := .array 8 .byte, interfaces := #[7, 4], accessFlags := 1041 }

/-- the primitive int -/
def k10 : Class := { plain "int" none with kind := .primitive 'I', accessFlags := 0x411 }
/-- [I -/
def k11 : Class := { plain "[I" (some 0) with kind := .array 10 .int, interfaces := #[7, 4], accessFlags := 1041 }

def heap : Heap := #[{ cls := 6, slots := #[.ref 2, .ref 1, .ref 3, .ref 4, .null], vm := .statics 6 },
  { cls := 6, slots := #[.null, .int 1, .int 0], vm := .none },
  { cls := 6, slots := #[.null, .int 0, .int 0], vm := .none },
  { cls := 6, slots := #[.null, .int 2, .int 0], vm := .none },
  { cls := 6, slots := #[.null, .int 3, .int 0], vm := .none }]
def classes : Array Class := #[k0, k1, k2, k3, k4, k5, k6, k7, k8, k9, k10, k11]
def interned : List (Array UInt16 × Addr) := []
def slotsUsed : Nat := 17
def theMethod : MethodId := ⟨1, 1⟩
def args0 : Array Value := #[.int 5]
def aboutOver (below : List Frame) : State where
  vm := { classes := classes, interned := interned.toArray }
  heap := heap
  slotsUsed := slotsUsed
  threads := #[{ frames := .invoking theMethod args0 :: below }]
def below0 : List Frame := [.native { method := ⟨0, 0⟩, args := #[] }]
def about1 : State := aboutOver below0
def p0 : Program := .bare "" "" ""
def e0 : Env := launch0.env 0 0 0
theorem w_frames : about1.frames = Frame.invoking theMethod args0 :: below0 := rfl
set_option maxRecDepth 65536 in
theorem w_args : argsFit about1.vm theMethod args0 = true := by decide +kernel
set_option maxRecDepth 65536 in
theorem w_heap : heapFits about1 = true := by decide +kernel
set_option maxRecDepth 65536 in
theorem w_runnable : about1.curStatus? = some .runnable := by decide +kernel
set_option maxRecDepth 65536 in
theorem w_alone : about1.alone = true := by decide +kernel
set_option maxRecDepth 65536 in
theorem w_named : about1.methodNamed? x = some theMethod := by decide +kernel
set_option maxRecDepth 65536 in
theorem w_hears : about1.hears theMethod below0 = true := by decide +kernel
set_option maxRecDepth 65536 in
theorem w_ripe : about1.ripe theMethod args0 below0 = true := by decide +kernel
theorem w_running : about1.status = .running := rfl
set_option maxRecDepth 65536 in
theorem w_room : about1.hasRoom e0.platform room_1 = true :=
  launch0.hasRoom_least _ room_1 (by decide +kernel) (by decide +kernel) (by decide +kernel) (by decide +kernel) (by decide +kernel) (by decide +kernel)
theorem allAtoms_all (ts : List Jvm.Cond) (a : Array Jvm.Value) (st : Jvm.State) : (allAtoms ts).before a st = ts.all (fun c => c.before a st) := by
  induction ts with
  | nil => rfl
  | cons c t ih =>
    show (Jvm.Cond.and c (allAtoms t)).before a st = _
    rw [Jvm.Cond.before_and, ih, List.all_cons]
def words1 : List Jvm.Cond := Jvm.Cond.code x code maxLocals ret :: tables_1
/-- a 'code' word, met by the world's own term for the bytes: nothing is compared byte by byte -/
theorem code_word {y : MethodName} {bytes : ByteArray} {mx : Nat} {rt : Option FieldType} {a : Array Value} {s : State} {m : MethodId} {meth : Method} {c : Code} (h1 : s.methodNamed? y = some m) (h2 : s.vm.method? m = some meth) (h3 : meth.code = some c) (h4 : c.code = bytes)
    (h5 : (c.maxLocals == mx && c.exceptionTable.isEmpty && decide (c.maxStack ≤ mostOperands) && decide (meth.sig.returnType = rt) && !meth.locks && decide (parseMethodDescriptor y.desc = some meth.sig)) = true) : (Jvm.Cond.code y bytes mx rt).before a s = true := by
  simp only [Bool.and_eq_true, beq_iff_eq, Bool.not_eq_true', decide_eq_true_eq] at h5
  obtain ⟨⟨⟨⟨⟨g1, g2⟩, g3⟩, g4⟩, g5⟩, g6⟩ := h5
  simp [Cond.before, Cond.holds, Cond.value, h1, h2, h3, h4, g1, g2, g3, g4, g5, g6]
def isCode : Jvm.Cond → Bool
  | .code _ _ _ _ => true
  | _ => false
theorem all_split {L : List Jvm.Cond} {P : Jvm.Cond → Bool} (h1 : L.all (fun c => isCode c || P c) = true) (h2 : ∀ c ∈ L.filter isCode, P c = true) : L.all P = true := by
  refine List.all_eq_true.mpr fun c hc => ?_
  have h := List.all_eq_true.mp h1 c hc
  rcases Bool.eq_false_or_eq_true (isCode c) with hi | hi
  · exact h2 c (List.mem_filter.mpr ⟨hc, hi⟩)
  · simpa [hi] using h
set_option maxRecDepth 65536 in
theorem w_c0 : (Jvm.Cond.code x code maxLocals ret).before args0 about1 = true := code_word (m := ⟨1, 1⟩) (meth := k1m1) (c := k1c1) (by decide +kernel) rfl rfl rfl (by decide +kernel)
set_option maxRecDepth 65536 in
theorem w_c1 : (Jvm.Cond.code ({ cls := "com/example/quernstone/quernstone/sparql/Values$Order", name := "of", desc := "(I)Lcom/example/quernstone/quernstone/sparql/Values$Order;" } : Jvm.MethodName) prog_133_method_4_code (1 : Nat) (Option.some (Jvm.ClassFile.FieldType.object "com/example/quernstone/quernstone/sparql/Values$Order"))).before args0 about1 = true := code_word (m := ⟨6, 0⟩) (meth := k6m0) (c := k6c0) (by decide +kernel) rfl rfl rfl (by decide +kernel)
def codes1 : List Jvm.Cond := [Jvm.Cond.code x code maxLocals ret, Jvm.Cond.code ({ cls := "com/example/quernstone/quernstone/sparql/Values$Order", name := "of", desc := "(I)Lcom/example/quernstone/quernstone/sparql/Values$Order;" } : Jvm.MethodName) prog_133_method_4_code (1 : Nat) (Option.some (Jvm.ClassFile.FieldType.object "com/example/quernstone/quernstone/sparql/Values$Order"))]
set_option maxRecDepth 65536 in
theorem codes_eq : words1.filter isCode = codes1 := rfl
theorem w_codes : ∀ c ∈ words1.filter isCode, c.before args0 about1 = true := by
  rw [codes_eq]
  intro c hc
  simp only [codes1, List.mem_cons, List.not_mem_nil, or_false] at hc
  rcases hc with rfl | rfl
  · exact w_c0
  · exact w_c1
set_option maxRecDepth 65536 in
theorem w_t1 : words1.all (fun c => isCode c || c.before args0 about1) = true := by decide +kernel
theorem w_tables : (allAtoms (Jvm.Cond.code x code maxLocals ret :: tables_1)).before args0 about1 = true := by
  rw [allAtoms_all]
  show words1.all (fun c => c.before args0 about1) = true
  refine all_split ?_ w_codes
  rw [w_t1]
set_option maxRecDepth 65536 in
theorem w_case : (Jvm.Cond.and given_1 narrow_1).before args0 about1 = true := by decide +kernel
theorem w_applies : (headSpec (Jvm.Cond.code x code maxLocals ret :: tables_1) room_1).applies x e0.platform about1 = true :=
  (Spec.applies_iff w_frames).mpr ⟨w_running, w_runnable, w_alone, w_named, w_hears, w_ripe, w_room, w_tables⟩
theorem atStart : AtStart classFile x code maxLocals ret World_1 tables_1 room_1 Calls_1 rest_1 Pre_1 launch0 p0 e0 about1 theMethod args0 below0 :=
  ⟨lists_1, trivial, launch0.admits_env _ _ _, launch0.least_env, fairChoices_fair.cas, fairChoices_fair.clock, w_frames, w_args, w_heap, w_applies, trivial, trivial, w_case⟩
end start1
theorem witness_1 : WitnessClaimed_1 := ⟨start1.p0, start1.e0, start1.about1, start1.theMethod, start1.args0, start1.below0, start1.atStart⟩
end Jvm.Pilot.@@N@@
