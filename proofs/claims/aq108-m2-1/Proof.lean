import JvmDerived
import JvmDerived.Pilot.@@N@@Statement
import JvmDerived.Pilot.@@N@@Code
set_option linter.unusedVariables false
set_option linter.unusedSimpArgs false
@@BLOCK:NumsL.lean.txt@@
namespace Jvm.RoadKit
open Sem ClassFile Op Lib Jvm.Stand Jvm.Free Jvm.LawKit
section New
variable {p : Program} {l : Launch} {e : Env} {R : Room} {s : State} {m : MethodId} {args : Array Value} {below : List Frame} {meth : Method} {c : Code} {T : State} {locs : List Loc} {cells slots : Nat}
theorem retI (X : Stand p l e R s m args below meth c T locs cells slots) (hx : p.tables.exec = Jvm.exec) {pc : Nat} {Ls : Array Slot} {z : Int32} {rest : List Value} (hret : meth.sig.returnType = some .int) (hd : decode c.code pc = .ok (.ireturn, 1)) {fs : List Frame}
    (hl : ∀ (f : JFrame) (acts : List Action), f.method = m → f.locked = none → f.entered = [] → (doReturn e (T.setTop f) acts (some (.int z))).1 = T.setFrames fs) : Steps p.tables e below (T.setTop (mkF m pc Ls (.int z :: rest))) (T.setFrames fs) := by
  have hm' : T.vm.method? m = some meth := X.method'
  have hn : narrow .int (.int z) = .int z := rfl
  show Steps p.tables e below (T.setTop { method := m, pc := pc, locals := Ls, stack := _ :: rest, locked := none }) _
  jvm_step X.here [X.here.top, hx, hd, hm', hret, hn]
  first | (intro acts; rw [hl _ acts rfl rfl rfl]) | rw [hl _ _ rfl rfl rfl]
  exact Steps.refl _
end New
end Jvm.RoadKit
namespace Jvm.Pilot.@@N@@
open Jvm Jvm.ClassFile Sem Op Lib Jvm.Free Jvm.Stand Jvm.LawKit Jvm.RoadKit Bundle Jvm.Pilot.@@N@@.Jvm.D

theorem own_pin {args : Array Value} {Z : State} {C n d K : String} (h : (Cond.exactly (Term.static C n d) K).value args Z none Z [] = some true) (hi : (Cond.initialized C).before args Z = true) (hl : (Cond.laysStatic C n d).before args Z = true) : ∃ a, (Term.static C n d).eval args Z none [] Z = some (.ref a) ∧ Sta Z Z.heap C n d (.ref a) ∧ Exa Z Z.heap a K := by
  obtain ⟨a, ev⟩ := exa_v h
  exact ⟨a, ev, Sta.start ev (Or.inr ⟨hi, hl⟩), Exa.start ev h⟩
theorem own_fld {args : Array Value} {Z : State} {t : Term} {C n : String} {k : Int32} {a : Addr} (ev : t.eval args Z none [] Z = some (.ref a)) (h : (Cond.eq (Term.field t C n "I") (Term.int k)).value args Z none Z [] = some true) : Z.fieldOf? a C n "I" = some (.int k) := by
  rw [← fld_at (C := C) (n := n) (dd := "I") ev]
  obtain ⟨x, y, e1, e2, k1, k2⟩ := cmp_v (Or.inl h)
  have e3 : y = .int k := Option.some.inj (e2.symm.trans (Term.int_eval k))
  subst e3
  obtain ⟨z, rfl⟩ := k2
  have q : z = k := by simpa [Cond.value, e1, e2] using h
  rw [e1, q]
theorem own_ne {Z : State} {a b : Addr} {C n d : String} {j k : Int32} (h1 : Z.fieldOf? a C n d = some (.int j)) (h2 : Z.fieldOf? b C n d = some (.int k)) (hn : j ≠ k) : ¬ (a = b) := fun e => by
  subst e
  exact hn (Value.int.inj (Option.some.inj (h1.symm.trans h2)))

def QV (r : Option Value) (h0 : Heap) (n0 : Nat) (v : Option Value) (h : Heap) (L : List Loc) : Prop := v = r ∧ Fr n0 L ∧ h = h0
def own_fl (x md : Int32) : Int32 := if (md &&& (1 : Int32)) = (0 : Int32) then x else (x &&& (15 : Int32))
def own_lv (x md : Int32) : Int32 := if (md &&& (2 : Int32)) = (0 : Int32) then x else ((3 : Int32) + (x &&& (1 : Int32)))
def own_ex (i fl lv : Int32) : Int32 := if i = (2 : Int32) then 1 else if i = (5 : Int32) ∨ i = (7 : Int32) ∨ i = (9 : Int32) then (if fl = (2 : Int32) then 1 else if lv = (3 : Int32) then (if fl = (10 : Int32) then 1 else 0) else 0) else if fl = (0 : Int32) then 1 else 0
def own_al (fg fl lv : Int32) : Int32 := if fg = (-1 : Int32) then 1 else if fl = fg then 1 else if lv = (3 : Int32) then (if fg = (2 : Int32) then (if fl = (10 : Int32) then 1 else 0) else 0) else 0
theorem own_agree2 (fl lv : Int32) : own_al (-1) fl lv = own_ex 2 fl lv := by simp [own_al, own_ex]
theorem own_agree5 {i : Int32} (h2 : ¬ (i = (2 : Int32))) (h : i = (5 : Int32) ∨ i = (7 : Int32) ∨ i = (9 : Int32)) (fl lv : Int32) : own_al 2 fl lv = own_ex i fl lv := by
  have q : ¬ ((2 : Int32) = (-1 : Int32)) := by decide
  unfold own_al own_ex
  rw [if_neg q, if_neg h2, if_pos h, if_pos rfl]
theorem own_agree0 {i : Int32} (h2 : ¬ (i = (2 : Int32))) (h : ¬ (i = (5 : Int32) ∨ i = (7 : Int32) ∨ i = (9 : Int32))) (fl lv : Int32) : own_al 0 fl lv = own_ex i fl lv := by
  have q : ¬ ((0 : Int32) = (-1 : Int32)) := by decide
  have q2 : ¬ ((0 : Int32) = (2 : Int32)) := by decide
  unfold own_al own_ex
  rw [if_neg q, if_neg h2, if_neg h, if_neg q2, ite_self]
theorem own_idx (x : Int32) : 0 ≤ ((x &&& (2147483647 : Int32)) % (14 : Int32)).toInt ∧ ((x &&& (2147483647 : Int32)) % (14 : Int32)).toInt < 14 := by
  have e := Jvm.Kit.i32_mask x (2147483647 : Int32) (k := 31) (by decide) (by decide)
  have p : 0 ≤ (x &&& (2147483647 : Int32)).toInt := by rw [e]; omega
  have q := Jvm.Kit.i32_rem_nonneg (x := x &&& (2147483647 : Int32)) (y := (14 : Int32)) p
  have e14 : (14 : Int32).toInt = 14 := by decide
  rw [q, e14]
  omega
theorem d1_0 : decode method_2_code 0 = .ok (.iload_n 0, 1) := by decide +kernel
theorem d1_1 : decode method_2_code 1 = .ok (.ifCond .ne 7, 3) := by decide +kernel
theorem d1_4 : decode method_2_code 4 = .ok (.getstatic 7, 3) := by decide +kernel
theorem d1_7 : decode method_2_code 7 = .ok (.areturn, 1) := by decide +kernel
theorem pn_1 : plainName "com/example/quillwire/quillwire/codec/PacketTypeAllowsPinLaw" = true := by first | (simp [plainName, overriddenIn]; done) | decide +kernel
theorem ef_1 (m : MethodId) (x0 : Int32) : entryFrame m #[(.int x0)] 1 = mkF m 0 #[.val (.int x0)] [] := by first | (simp [entryFrame, mkF, argsToLocals, Value.category]; done) | rfl
def Q1_0 (Z : State) (p1 : Int32) (w2 : Addr) (h0 : Heap) (n0 : Nat) (v : Option Value) (h : Heap) (L : List Loc) : Prop := v = some (.ref w2) ∧ Fr n0 L ∧ h = h0
set_option maxRecDepth 65536 in
set_option maxHeartbeats 40000000 in
theorem rm1_0 (l : Launch) (Z : State) (a0 : Array Value) (hw : ∀ d ∈ tables_1, d.before a0 Z = true) (ws : List Jvm.Cond) (p1 : Int32) (w2 : Addr) (h0 : Heap) (n0 : Nat) (Z0 : n0 ≤ h0.size) (S_CONNECT : Sta Z h0 "com/example/quillwire/quillwire/codec/PacketType" "CONNECT" "Lcom/example/quillwire/quillwire/codec/PacketType;" (.ref w2)) (hc1 : p1 = (0 : Int32)) :
    MetFree l (⟨"com/example/quillwire/quillwire/codec/PacketTypeAllowsPinLaw", "pick", "(I)Lcom/example/quillwire/quillwire/codec/PacketType;"⟩ : MethodName) (head1 (Jvm.Cond.code (⟨"com/example/quillwire/quillwire/codec/PacketTypeAllowsPinLaw", "pick", "(I)Lcom/example/quillwire/quillwire/codec/PacketType;"⟩ : MethodName) method_2_code 1 (some (.object "com/example/quillwire/quillwire/codec/PacketType")) :: ws) ({ frames := 0, cells := 0, slots := 0, locals := 0 } : Room)) (fun a U => a = #[(.int p1)] ∧ Z.Warmed39 U.vm ∧ U.heap = h0) (fun _ _ _ _ _ => True) (fun _ U o U' => ∃ v L, o = .returned v ∧ Q1_0 Z p1 w2 h0 n0 v U'.heap L ∧ FrameEnd U o U' L ({ frames := 0, cells := 0, slots := 0, locals := 0 } : Room).cells ({ frames := 0, cells := 0, slots := 0, locals := 0 } : Room).slots) := by
  refine MetFree.of_bodySF (plainFor_of_name pn_1) hisR ?_
  intro p e s m args below meth c s₁ Bd hml0 hP hK
  obtain ⟨rfl, hZ, hh⟩ := hP
  have hx := Bd.exec
  have hby := Bd.bytes
  have hml : c.maxLocals = 1 := hml0
  have hown : s.vm.findClass "com/example/quillwire/quillwire/codec/PacketTypeAllowsPinLaw" = some m.cls := findClass_of_methodNamed Bd.named
  have hnm := (name_of_methodNamed Bd.named Bd.method).1
  have X0 : Stand p l e ({ frames := 0, cells := 0, slots := 0, locals := 0 } : Room) s m #[(.int p1)] below meth c s₁ [] 0 0 := Stand.of_body Bd
  have e0 : s₁.heap = h0 := by rw [← hh, Bd.state]; rfl
  have N0 := Fr.nil n0
  have pre0 : ∀ t, Steps p.tables e below (s₁.setTop (mkF m 0 #[.val (.int p1)] [])) t → Steps p.tables e below (s₁.setTop (entryFrame m #[(.int p1)] 1)) t := fun t k => castTop (ef_1 m p1) k
  obtain ⟨T3, X3, e3, st3⟩ := getS2 X0 hx hZ hown (host := "") (Or.inl (hw _ (List.mem_of_getElem? (i := 5) rfl))) Via.refl e0 S_CONNECT (g := (mkF m 4 #[.val (.int p1)] [])) rfl (hb hby d1_4)
  obtain ⟨fs, hr, hrun, hended, hW, hsame⟩ := X3.leave (v := some (.ref w2)) (fun h => by rw [Bd.returns] at h; cases h)
  refine ⟨_, _, pre0 _ ?_, hrun, hended, _, _, rfl, ?_, ⟨_, rfl⟩, hW, hsame.mono (by decide) (by decide)⟩
  · show Steps p.tables e below (s₁.setTop (mkF m 0 #[.val (.int p1)] [])) _
    refine XS.iloadN X0.here hx rfl (hb hby d1_0) rfl ?_
    show Steps p.tables e below (s₁.setTop (mkF m 1 #[.val (.int p1)] [(.int p1)])) _
    refine XS.ifNo X0.here hx rfl (hb hby d1_1) rfl ((if0 _ _).trans (teq hc1).2) ?_
    show Steps p.tables e below (s₁.setTop (mkF m 4 #[.val (.int p1)] [])) _
    refine st3 _ ?_
    show Steps p.tables e below (T3.setTop (mkF m 7 #[.val (.int p1)] [(.ref w2)])) _
    jvm_step X3.here [X3.here.top, hx, (hb hby d1_7), X3.method', Bd.returns, Value.isRef, FieldType.isReference]
    first | (intro acts; rw [hr _ acts rfl rfl rfl]) | rw [hr _ _ rfl rfl rfl]
    exact Steps.refl _
  · show Q1_0 Z p1 w2 h0 n0 _ T3.heap _
    rw [e3]
    exact ⟨rfl, N0, rfl⟩
theorem d1_8 : decode method_2_code 8 = .ok (.iload_n 0, 1) := by decide +kernel
theorem d1_9 : decode method_2_code 9 = .ok (.iconst 1, 1) := by decide +kernel
theorem d1_10 : decode method_2_code 10 = .ok (.if_icmp .ne 7, 3) := by decide +kernel
theorem d1_13 : decode method_2_code 13 = .ok (.getstatic 13, 3) := by decide +kernel
theorem d1_16 : decode method_2_code 16 = .ok (.areturn, 1) := by decide +kernel
def Q1_1 (Z : State) (p1 : Int32) (w2 : Addr) (h0 : Heap) (n0 : Nat) (v : Option Value) (h : Heap) (L : List Loc) : Prop := v = some (.ref w2) ∧ Fr n0 L ∧ h = h0
set_option maxRecDepth 65536 in
set_option maxHeartbeats 40000000 in
theorem rm1_1 (l : Launch) (Z : State) (a0 : Array Value) (hw : ∀ d ∈ tables_1, d.before a0 Z = true) (ws : List Jvm.Cond) (p1 : Int32) (w2 : Addr) (h0 : Heap) (n0 : Nat) (Z0 : n0 ≤ h0.size) (S_CONNACK : Sta Z h0 "com/example/quillwire/quillwire/codec/PacketType" "CONNACK" "Lcom/example/quillwire/quillwire/codec/PacketType;" (.ref w2)) (hc1 : ¬ (p1 = (0 : Int32))) (hc10 : p1 = (1 : Int32)) :
    MetFree l (⟨"com/example/quillwire/quillwire/codec/PacketTypeAllowsPinLaw", "pick", "(I)Lcom/example/quillwire/quillwire/codec/PacketType;"⟩ : MethodName) (head1 (Jvm.Cond.code (⟨"com/example/quillwire/quillwire/codec/PacketTypeAllowsPinLaw", "pick", "(I)Lcom/example/quillwire/quillwire/codec/PacketType;"⟩ : MethodName) method_2_code 1 (some (.object "com/example/quillwire/quillwire/codec/PacketType")) :: ws) ({ frames := 0, cells := 0, slots := 0, locals := 0 } : Room)) (fun a U => a = #[(.int p1)] ∧ Z.Warmed39 U.vm ∧ U.heap = h0) (fun _ _ _ _ _ => True) (fun _ U o U' => ∃ v L, o = .returned v ∧ Q1_1 Z p1 w2 h0 n0 v U'.heap L ∧ FrameEnd U o U' L ({ frames := 0, cells := 0, slots := 0, locals := 0 } : Room).cells ({ frames := 0, cells := 0, slots := 0, locals := 0 } : Room).slots) := by
  refine MetFree.of_bodySF (plainFor_of_name pn_1) hisR ?_
  intro p e s m args below meth c s₁ Bd hml0 hP hK
  obtain ⟨rfl, hZ, hh⟩ := hP
  have hx := Bd.exec
  have hby := Bd.bytes
  have hml : c.maxLocals = 1 := hml0
  have hown : s.vm.findClass "com/example/quillwire/quillwire/codec/PacketTypeAllowsPinLaw" = some m.cls := findClass_of_methodNamed Bd.named
  have hnm := (name_of_methodNamed Bd.named Bd.method).1
  have X0 : Stand p l e ({ frames := 0, cells := 0, slots := 0, locals := 0 } : Room) s m #[(.int p1)] below meth c s₁ [] 0 0 := Stand.of_body Bd
  have e0 : s₁.heap = h0 := by rw [← hh, Bd.state]; rfl
  have N0 := Fr.nil n0
  have pre0 : ∀ t, Steps p.tables e below (s₁.setTop (mkF m 0 #[.val (.int p1)] [])) t → Steps p.tables e below (s₁.setTop (entryFrame m #[(.int p1)] 1)) t := fun t k => castTop (ef_1 m p1) k
  obtain ⟨T3, X3, e3, st3⟩ := getS2 X0 hx hZ hown (host := "") (Or.inl (hw _ (List.mem_of_getElem? (i := 21) rfl))) Via.refl e0 S_CONNACK (g := (mkF m 13 #[.val (.int p1)] [])) rfl (hb hby d1_13)
  obtain ⟨fs, hr, hrun, hended, hW, hsame⟩ := X3.leave (v := some (.ref w2)) (fun h => by rw [Bd.returns] at h; cases h)
  refine ⟨_, _, pre0 _ ?_, hrun, hended, _, _, rfl, ?_, ⟨_, rfl⟩, hW, hsame.mono (by decide) (by decide)⟩
  · show Steps p.tables e below (s₁.setTop (mkF m 0 #[.val (.int p1)] [])) _
    refine XS.iloadN X0.here hx rfl (hb hby d1_0) rfl ?_
    show Steps p.tables e below (s₁.setTop (mkF m 1 #[.val (.int p1)] [(.int p1)])) _
    refine XS.ifYes X0.here hx rfl (pc0 := 1) (pc' := 8) rfl (hb hby d1_1) rfl ((if0 _ _).trans (feq hc1).2) (by decide) (by decide) ?_
    show Steps p.tables e below (s₁.setTop (mkF m 8 #[.val (.int p1)] [])) _
    refine XS.iloadN X0.here hx rfl (hb hby d1_8) rfl ?_
    show Steps p.tables e below (s₁.setTop (mkF m 9 #[.val (.int p1)] [(.int p1)])) _
    refine XS.iconst X0.here hx rfl (hb hby d1_9) ?_
    show Steps p.tables e below (s₁.setTop (mkF m 10 #[.val (.int p1)] [(.int (1 : Int32)), (.int p1)])) _
    refine XS.icmpNo X0.here hx rfl (hb hby d1_10) rfl (teq hc10).2 ?_
    show Steps p.tables e below (s₁.setTop (mkF m 13 #[.val (.int p1)] [])) _
    refine st3 _ ?_
    show Steps p.tables e below (T3.setTop (mkF m 16 #[.val (.int p1)] [(.ref w2)])) _
    jvm_step X3.here [X3.here.top, hx, (hb hby d1_16), X3.method', Bd.returns, Value.isRef, FieldType.isReference]
    first | (intro acts; rw [hr _ acts rfl rfl rfl]) | rw [hr _ _ rfl rfl rfl]
    exact Steps.refl _
  · show Q1_1 Z p1 w2 h0 n0 _ T3.heap _
    rw [e3]
    exact ⟨rfl, N0, rfl⟩
theorem d1_17 : decode method_2_code 17 = .ok (.iload_n 0, 1) := by decide +kernel
theorem d1_18 : decode method_2_code 18 = .ok (.iconst 2, 1) := by decide +kernel
theorem d1_19 : decode method_2_code 19 = .ok (.if_icmp .ne 7, 3) := by decide +kernel
theorem d1_22 : decode method_2_code 22 = .ok (.getstatic 16, 3) := by decide +kernel
theorem d1_25 : decode method_2_code 25 = .ok (.areturn, 1) := by decide +kernel
def Q1_2 (Z : State) (p1 : Int32) (w2 : Addr) (h0 : Heap) (n0 : Nat) (v : Option Value) (h : Heap) (L : List Loc) : Prop := v = some (.ref w2) ∧ Fr n0 L ∧ h = h0
set_option maxRecDepth 65536 in
set_option maxHeartbeats 40000000 in
theorem rm1_2 (l : Launch) (Z : State) (a0 : Array Value) (hw : ∀ d ∈ tables_1, d.before a0 Z = true) (ws : List Jvm.Cond) (p1 : Int32) (w2 : Addr) (h0 : Heap) (n0 : Nat) (Z0 : n0 ≤ h0.size) (S_PUBLISH : Sta Z h0 "com/example/quillwire/quillwire/codec/PacketType" "PUBLISH" "Lcom/example/quillwire/quillwire/codec/PacketType;" (.ref w2)) (hc1 : ¬ (p1 = (0 : Int32))) (hc10 : ¬ (p1 = (1 : Int32))) (hc19 : p1 = (2 : Int32)) :
    MetFree l (⟨"com/example/quillwire/quillwire/codec/PacketTypeAllowsPinLaw", "pick", "(I)Lcom/example/quillwire/quillwire/codec/PacketType;"⟩ : MethodName) (head1 (Jvm.Cond.code (⟨"com/example/quillwire/quillwire/codec/PacketTypeAllowsPinLaw", "pick", "(I)Lcom/example/quillwire/quillwire/codec/PacketType;"⟩ : MethodName) method_2_code 1 (some (.object "com/example/quillwire/quillwire/codec/PacketType")) :: ws) ({ frames := 0, cells := 0, slots := 0, locals := 0 } : Room)) (fun a U => a = #[(.int p1)] ∧ Z.Warmed39 U.vm ∧ U.heap = h0) (fun _ _ _ _ _ => True) (fun _ U o U' => ∃ v L, o = .returned v ∧ Q1_2 Z p1 w2 h0 n0 v U'.heap L ∧ FrameEnd U o U' L ({ frames := 0, cells := 0, slots := 0, locals := 0 } : Room).cells ({ frames := 0, cells := 0, slots := 0, locals := 0 } : Room).slots) := by
  refine MetFree.of_bodySF (plainFor_of_name pn_1) hisR ?_
  intro p e s m args below meth c s₁ Bd hml0 hP hK
  obtain ⟨rfl, hZ, hh⟩ := hP
  have hx := Bd.exec
  have hby := Bd.bytes
  have hml : c.maxLocals = 1 := hml0
  have hown : s.vm.findClass "com/example/quillwire/quillwire/codec/PacketTypeAllowsPinLaw" = some m.cls := findClass_of_methodNamed Bd.named
  have hnm := (name_of_methodNamed Bd.named Bd.method).1
  have X0 : Stand p l e ({ frames := 0, cells := 0, slots := 0, locals := 0 } : Room) s m #[(.int p1)] below meth c s₁ [] 0 0 := Stand.of_body Bd
  have e0 : s₁.heap = h0 := by rw [← hh, Bd.state]; rfl
  have N0 := Fr.nil n0
  have pre0 : ∀ t, Steps p.tables e below (s₁.setTop (mkF m 0 #[.val (.int p1)] [])) t → Steps p.tables e below (s₁.setTop (entryFrame m #[(.int p1)] 1)) t := fun t k => castTop (ef_1 m p1) k
  obtain ⟨T3, X3, e3, st3⟩ := getS2 X0 hx hZ hown (host := "") (Or.inl (hw _ (List.mem_of_getElem? (i := 19) rfl))) Via.refl e0 S_PUBLISH (g := (mkF m 22 #[.val (.int p1)] [])) rfl (hb hby d1_22)
  obtain ⟨fs, hr, hrun, hended, hW, hsame⟩ := X3.leave (v := some (.ref w2)) (fun h => by rw [Bd.returns] at h; cases h)
  refine ⟨_, _, pre0 _ ?_, hrun, hended, _, _, rfl, ?_, ⟨_, rfl⟩, hW, hsame.mono (by decide) (by decide)⟩
  · show Steps p.tables e below (s₁.setTop (mkF m 0 #[.val (.int p1)] [])) _
    refine XS.iloadN X0.here hx rfl (hb hby d1_0) rfl ?_
    show Steps p.tables e below (s₁.setTop (mkF m 1 #[.val (.int p1)] [(.int p1)])) _
    refine XS.ifYes X0.here hx rfl (pc0 := 1) (pc' := 8) rfl (hb hby d1_1) rfl ((if0 _ _).trans (feq hc1).2) (by decide) (by decide) ?_
    show Steps p.tables e below (s₁.setTop (mkF m 8 #[.val (.int p1)] [])) _
    refine XS.iloadN X0.here hx rfl (hb hby d1_8) rfl ?_
    show Steps p.tables e below (s₁.setTop (mkF m 9 #[.val (.int p1)] [(.int p1)])) _
    refine XS.iconst X0.here hx rfl (hb hby d1_9) ?_
    show Steps p.tables e below (s₁.setTop (mkF m 10 #[.val (.int p1)] [(.int (1 : Int32)), (.int p1)])) _
    refine XS.icmpYes X0.here hx rfl (pc0 := 10) (pc' := 17) rfl (hb hby d1_10) rfl (feq hc10).2 (by decide) (by decide) ?_
    show Steps p.tables e below (s₁.setTop (mkF m 17 #[.val (.int p1)] [])) _
    refine XS.iloadN X0.here hx rfl (hb hby d1_17) rfl ?_
    show Steps p.tables e below (s₁.setTop (mkF m 18 #[.val (.int p1)] [(.int p1)])) _
    refine XS.iconst X0.here hx rfl (hb hby d1_18) ?_
    show Steps p.tables e below (s₁.setTop (mkF m 19 #[.val (.int p1)] [(.int (2 : Int32)), (.int p1)])) _
    refine XS.icmpNo X0.here hx rfl (hb hby d1_19) rfl (teq hc19).2 ?_
    show Steps p.tables e below (s₁.setTop (mkF m 22 #[.val (.int p1)] [])) _
    refine st3 _ ?_
    show Steps p.tables e below (T3.setTop (mkF m 25 #[.val (.int p1)] [(.ref w2)])) _
    jvm_step X3.here [X3.here.top, hx, (hb hby d1_25), X3.method', Bd.returns, Value.isRef, FieldType.isReference]
    first | (intro acts; rw [hr _ acts rfl rfl rfl]) | rw [hr _ _ rfl rfl rfl]
    exact Steps.refl _
  · show Q1_2 Z p1 w2 h0 n0 _ T3.heap _
    rw [e3]
    exact ⟨rfl, N0, rfl⟩
theorem d1_26 : decode method_2_code 26 = .ok (.iload_n 0, 1) := by decide +kernel
theorem d1_27 : decode method_2_code 27 = .ok (.iconst 3, 1) := by decide +kernel
theorem d1_28 : decode method_2_code 28 = .ok (.if_icmp .ne 7, 3) := by decide +kernel
theorem d1_31 : decode method_2_code 31 = .ok (.getstatic 19, 3) := by decide +kernel
theorem d1_34 : decode method_2_code 34 = .ok (.areturn, 1) := by decide +kernel
def Q1_3 (Z : State) (p1 : Int32) (w2 : Addr) (h0 : Heap) (n0 : Nat) (v : Option Value) (h : Heap) (L : List Loc) : Prop := v = some (.ref w2) ∧ Fr n0 L ∧ h = h0
set_option maxRecDepth 65536 in
set_option maxHeartbeats 40000000 in
theorem rm1_3 (l : Launch) (Z : State) (a0 : Array Value) (hw : ∀ d ∈ tables_1, d.before a0 Z = true) (ws : List Jvm.Cond) (p1 : Int32) (w2 : Addr) (h0 : Heap) (n0 : Nat) (Z0 : n0 ≤ h0.size) (S_PUBACK : Sta Z h0 "com/example/quillwire/quillwire/codec/PacketType" "PUBACK" "Lcom/example/quillwire/quillwire/codec/PacketType;" (.ref w2)) (hc1 : ¬ (p1 = (0 : Int32))) (hc10 : ¬ (p1 = (1 : Int32))) (hc19 : ¬ (p1 = (2 : Int32))) (hc28 : p1 = (3 : Int32)) :
    MetFree l (⟨"com/example/quillwire/quillwire/codec/PacketTypeAllowsPinLaw", "pick", "(I)Lcom/example/quillwire/quillwire/codec/PacketType;"⟩ : MethodName) (head1 (Jvm.Cond.code (⟨"com/example/quillwire/quillwire/codec/PacketTypeAllowsPinLaw", "pick", "(I)Lcom/example/quillwire/quillwire/codec/PacketType;"⟩ : MethodName) method_2_code 1 (some (.object "com/example/quillwire/quillwire/codec/PacketType")) :: ws) ({ frames := 0, cells := 0, slots := 0, locals := 0 } : Room)) (fun a U => a = #[(.int p1)] ∧ Z.Warmed39 U.vm ∧ U.heap = h0) (fun _ _ _ _ _ => True) (fun _ U o U' => ∃ v L, o = .returned v ∧ Q1_3 Z p1 w2 h0 n0 v U'.heap L ∧ FrameEnd U o U' L ({ frames := 0, cells := 0, slots := 0, locals := 0 } : Room).cells ({ frames := 0, cells := 0, slots := 0, locals := 0 } : Room).slots) := by
  refine MetFree.of_bodySF (plainFor_of_name pn_1) hisR ?_
  intro p e s m args below meth c s₁ Bd hml0 hP hK
  obtain ⟨rfl, hZ, hh⟩ := hP
  have hx := Bd.exec
  have hby := Bd.bytes
  have hml : c.maxLocals = 1 := hml0
  have hown : s.vm.findClass "com/example/quillwire/quillwire/codec/PacketTypeAllowsPinLaw" = some m.cls := findClass_of_methodNamed Bd.named
  have hnm := (name_of_methodNamed Bd.named Bd.method).1
  have X0 : Stand p l e ({ frames := 0, cells := 0, slots := 0, locals := 0 } : Room) s m #[(.int p1)] below meth c s₁ [] 0 0 := Stand.of_body Bd
  have e0 : s₁.heap = h0 := by rw [← hh, Bd.state]; rfl
  have N0 := Fr.nil n0
  have pre0 : ∀ t, Steps p.tables e below (s₁.setTop (mkF m 0 #[.val (.int p1)] [])) t → Steps p.tables e below (s₁.setTop (entryFrame m #[(.int p1)] 1)) t := fun t k => castTop (ef_1 m p1) k
  obtain ⟨T3, X3, e3, st3⟩ := getS2 X0 hx hZ hown (host := "") (Or.inl (hw _ (List.mem_of_getElem? (i := 23) rfl))) Via.refl e0 S_PUBACK (g := (mkF m 31 #[.val (.int p1)] [])) rfl (hb hby d1_31)
  obtain ⟨fs, hr, hrun, hended, hW, hsame⟩ := X3.leave (v := some (.ref w2)) (fun h => by rw [Bd.returns] at h; cases h)
  refine ⟨_, _, pre0 _ ?_, hrun, hended, _, _, rfl, ?_, ⟨_, rfl⟩, hW, hsame.mono (by decide) (by decide)⟩
  · show Steps p.tables e below (s₁.setTop (mkF m 0 #[.val (.int p1)] [])) _
    refine XS.iloadN X0.here hx rfl (hb hby d1_0) rfl ?_
    show Steps p.tables e below (s₁.setTop (mkF m 1 #[.val (.int p1)] [(.int p1)])) _
    refine XS.ifYes X0.here hx rfl (pc0 := 1) (pc' := 8) rfl (hb hby d1_1) rfl ((if0 _ _).trans (feq hc1).2) (by decide) (by decide) ?_
    show Steps p.tables e below (s₁.setTop (mkF m 8 #[.val (.int p1)] [])) _
    refine XS.iloadN X0.here hx rfl (hb hby d1_8) rfl ?_
    show Steps p.tables e below (s₁.setTop (mkF m 9 #[.val (.int p1)] [(.int p1)])) _
    refine XS.iconst X0.here hx rfl (hb hby d1_9) ?_
    show Steps p.tables e below (s₁.setTop (mkF m 10 #[.val (.int p1)] [(.int (1 : Int32)), (.int p1)])) _
    refine XS.icmpYes X0.here hx rfl (pc0 := 10) (pc' := 17) rfl (hb hby d1_10) rfl (feq hc10).2 (by decide) (by decide) ?_
    show Steps p.tables e below (s₁.setTop (mkF m 17 #[.val (.int p1)] [])) _
    refine XS.iloadN X0.here hx rfl (hb hby d1_17) rfl ?_
    show Steps p.tables e below (s₁.setTop (mkF m 18 #[.val (.int p1)] [(.int p1)])) _
    refine XS.iconst X0.here hx rfl (hb hby d1_18) ?_
    show Steps p.tables e below (s₁.setTop (mkF m 19 #[.val (.int p1)] [(.int (2 : Int32)), (.int p1)])) _
    refine XS.icmpYes X0.here hx rfl (pc0 := 19) (pc' := 26) rfl (hb hby d1_19) rfl (feq hc19).2 (by decide) (by decide) ?_
    show Steps p.tables e below (s₁.setTop (mkF m 26 #[.val (.int p1)] [])) _
    refine XS.iloadN X0.here hx rfl (hb hby d1_26) rfl ?_
    show Steps p.tables e below (s₁.setTop (mkF m 27 #[.val (.int p1)] [(.int p1)])) _
    refine XS.iconst X0.here hx rfl (hb hby d1_27) ?_
    show Steps p.tables e below (s₁.setTop (mkF m 28 #[.val (.int p1)] [(.int (3 : Int32)), (.int p1)])) _
    refine XS.icmpNo X0.here hx rfl (hb hby d1_28) rfl (teq hc28).2 ?_
    show Steps p.tables e below (s₁.setTop (mkF m 31 #[.val (.int p1)] [])) _
    refine st3 _ ?_
    show Steps p.tables e below (T3.setTop (mkF m 34 #[.val (.int p1)] [(.ref w2)])) _
    jvm_step X3.here [X3.here.top, hx, (hb hby d1_34), X3.method', Bd.returns, Value.isRef, FieldType.isReference]
    first | (intro acts; rw [hr _ acts rfl rfl rfl]) | rw [hr _ _ rfl rfl rfl]
    exact Steps.refl _
  · show Q1_3 Z p1 w2 h0 n0 _ T3.heap _
    rw [e3]
    exact ⟨rfl, N0, rfl⟩
theorem d1_35 : decode method_2_code 35 = .ok (.iload_n 0, 1) := by decide +kernel
theorem d1_36 : decode method_2_code 36 = .ok (.iconst 4, 1) := by decide +kernel
theorem d1_37 : decode method_2_code 37 = .ok (.if_icmp .ne 7, 3) := by decide +kernel
theorem d1_40 : decode method_2_code 40 = .ok (.getstatic 22, 3) := by decide +kernel
theorem d1_43 : decode method_2_code 43 = .ok (.areturn, 1) := by decide +kernel
def Q1_4 (Z : State) (p1 : Int32) (w2 : Addr) (h0 : Heap) (n0 : Nat) (v : Option Value) (h : Heap) (L : List Loc) : Prop := v = some (.ref w2) ∧ Fr n0 L ∧ h = h0
set_option maxRecDepth 65536 in
set_option maxHeartbeats 40000000 in
theorem rm1_4 (l : Launch) (Z : State) (a0 : Array Value) (hw : ∀ d ∈ tables_1, d.before a0 Z = true) (ws : List Jvm.Cond) (p1 : Int32) (w2 : Addr) (h0 : Heap) (n0 : Nat) (Z0 : n0 ≤ h0.size) (S_PUBREC : Sta Z h0 "com/example/quillwire/quillwire/codec/PacketType" "PUBREC" "Lcom/example/quillwire/quillwire/codec/PacketType;" (.ref w2)) (hc1 : ¬ (p1 = (0 : Int32))) (hc10 : ¬ (p1 = (1 : Int32))) (hc19 : ¬ (p1 = (2 : Int32))) (hc28 : ¬ (p1 = (3 : Int32))) (hc37 : p1 = (4 : Int32)) :
    MetFree l (⟨"com/example/quillwire/quillwire/codec/PacketTypeAllowsPinLaw", "pick", "(I)Lcom/example/quillwire/quillwire/codec/PacketType;"⟩ : MethodName) (head1 (Jvm.Cond.code (⟨"com/example/quillwire/quillwire/codec/PacketTypeAllowsPinLaw", "pick", "(I)Lcom/example/quillwire/quillwire/codec/PacketType;"⟩ : MethodName) method_2_code 1 (some (.object "com/example/quillwire/quillwire/codec/PacketType")) :: ws) ({ frames := 0, cells := 0, slots := 0, locals := 0 } : Room)) (fun a U => a = #[(.int p1)] ∧ Z.Warmed39 U.vm ∧ U.heap = h0) (fun _ _ _ _ _ => True) (fun _ U o U' => ∃ v L, o = .returned v ∧ Q1_4 Z p1 w2 h0 n0 v U'.heap L ∧ FrameEnd U o U' L ({ frames := 0, cells := 0, slots := 0, locals := 0 } : Room).cells ({ frames := 0, cells := 0, slots := 0, locals := 0 } : Room).slots) := by
  refine MetFree.of_bodySF (plainFor_of_name pn_1) hisR ?_
  intro p e s m args below meth c s₁ Bd hml0 hP hK
  obtain ⟨rfl, hZ, hh⟩ := hP
  have hx := Bd.exec
  have hby := Bd.bytes
  have hml : c.maxLocals = 1 := hml0
  have hown : s.vm.findClass "com/example/quillwire/quillwire/codec/PacketTypeAllowsPinLaw" = some m.cls := findClass_of_methodNamed Bd.named
  have hnm := (name_of_methodNamed Bd.named Bd.method).1
  have X0 : Stand p l e ({ frames := 0, cells := 0, slots := 0, locals := 0 } : Room) s m #[(.int p1)] below meth c s₁ [] 0 0 := Stand.of_body Bd
  have e0 : s₁.heap = h0 := by rw [← hh, Bd.state]; rfl
  have N0 := Fr.nil n0
  have pre0 : ∀ t, Steps p.tables e below (s₁.setTop (mkF m 0 #[.val (.int p1)] [])) t → Steps p.tables e below (s₁.setTop (entryFrame m #[(.int p1)] 1)) t := fun t k => castTop (ef_1 m p1) k
  obtain ⟨T3, X3, e3, st3⟩ := getS2 X0 hx hZ hown (host := "") (Or.inl (hw _ (List.mem_of_getElem? (i := 35) rfl))) Via.refl e0 S_PUBREC (g := (mkF m 40 #[.val (.int p1)] [])) rfl (hb hby d1_40)
  obtain ⟨fs, hr, hrun, hended, hW, hsame⟩ := X3.leave (v := some (.ref w2)) (fun h => by rw [Bd.returns] at h; cases h)
  refine ⟨_, _, pre0 _ ?_, hrun, hended, _, _, rfl, ?_, ⟨_, rfl⟩, hW, hsame.mono (by decide) (by decide)⟩
  · show Steps p.tables e below (s₁.setTop (mkF m 0 #[.val (.int p1)] [])) _
    refine XS.iloadN X0.here hx rfl (hb hby d1_0) rfl ?_
    show Steps p.tables e below (s₁.setTop (mkF m 1 #[.val (.int p1)] [(.int p1)])) _
    refine XS.ifYes X0.here hx rfl (pc0 := 1) (pc' := 8) rfl (hb hby d1_1) rfl ((if0 _ _).trans (feq hc1).2) (by decide) (by decide) ?_
    show Steps p.tables e below (s₁.setTop (mkF m 8 #[.val (.int p1)] [])) _
    refine XS.iloadN X0.here hx rfl (hb hby d1_8) rfl ?_
    show Steps p.tables e below (s₁.setTop (mkF m 9 #[.val (.int p1)] [(.int p1)])) _
    refine XS.iconst X0.here hx rfl (hb hby d1_9) ?_
    show Steps p.tables e below (s₁.setTop (mkF m 10 #[.val (.int p1)] [(.int (1 : Int32)), (.int p1)])) _
    refine XS.icmpYes X0.here hx rfl (pc0 := 10) (pc' := 17) rfl (hb hby d1_10) rfl (feq hc10).2 (by decide) (by decide) ?_
    show Steps p.tables e below (s₁.setTop (mkF m 17 #[.val (.int p1)] [])) _
    refine XS.iloadN X0.here hx rfl (hb hby d1_17) rfl ?_
    show Steps p.tables e below (s₁.setTop (mkF m 18 #[.val (.int p1)] [(.int p1)])) _
    refine XS.iconst X0.here hx rfl (hb hby d1_18) ?_
    show Steps p.tables e below (s₁.setTop (mkF m 19 #[.val (.int p1)] [(.int (2 : Int32)), (.int p1)])) _
    refine XS.icmpYes X0.here hx rfl (pc0 := 19) (pc' := 26) rfl (hb hby d1_19) rfl (feq hc19).2 (by decide) (by decide) ?_
    show Steps p.tables e below (s₁.setTop (mkF m 26 #[.val (.int p1)] [])) _
    refine XS.iloadN X0.here hx rfl (hb hby d1_26) rfl ?_
    show Steps p.tables e below (s₁.setTop (mkF m 27 #[.val (.int p1)] [(.int p1)])) _
    refine XS.iconst X0.here hx rfl (hb hby d1_27) ?_
    show Steps p.tables e below (s₁.setTop (mkF m 28 #[.val (.int p1)] [(.int (3 : Int32)), (.int p1)])) _
    refine XS.icmpYes X0.here hx rfl (pc0 := 28) (pc' := 35) rfl (hb hby d1_28) rfl (feq hc28).2 (by decide) (by decide) ?_
    show Steps p.tables e below (s₁.setTop (mkF m 35 #[.val (.int p1)] [])) _
    refine XS.iloadN X0.here hx rfl (hb hby d1_35) rfl ?_
    show Steps p.tables e below (s₁.setTop (mkF m 36 #[.val (.int p1)] [(.int p1)])) _
    refine XS.iconst X0.here hx rfl (hb hby d1_36) ?_
    show Steps p.tables e below (s₁.setTop (mkF m 37 #[.val (.int p1)] [(.int (4 : Int32)), (.int p1)])) _
    refine XS.icmpNo X0.here hx rfl (hb hby d1_37) rfl (teq hc37).2 ?_
    show Steps p.tables e below (s₁.setTop (mkF m 40 #[.val (.int p1)] [])) _
    refine st3 _ ?_
    show Steps p.tables e below (T3.setTop (mkF m 43 #[.val (.int p1)] [(.ref w2)])) _
    jvm_step X3.here [X3.here.top, hx, (hb hby d1_43), X3.method', Bd.returns, Value.isRef, FieldType.isReference]
    first | (intro acts; rw [hr _ acts rfl rfl rfl]) | rw [hr _ _ rfl rfl rfl]
    exact Steps.refl _
  · show Q1_4 Z p1 w2 h0 n0 _ T3.heap _
    rw [e3]
    exact ⟨rfl, N0, rfl⟩
theorem d1_44 : decode method_2_code 44 = .ok (.iload_n 0, 1) := by decide +kernel
theorem d1_45 : decode method_2_code 45 = .ok (.iconst 5, 1) := by decide +kernel
theorem d1_46 : decode method_2_code 46 = .ok (.if_icmp .ne 7, 3) := by decide +kernel
theorem d1_49 : decode method_2_code 49 = .ok (.getstatic 25, 3) := by decide +kernel
theorem d1_52 : decode method_2_code 52 = .ok (.areturn, 1) := by decide +kernel
def Q1_5 (Z : State) (p1 : Int32) (w2 : Addr) (h0 : Heap) (n0 : Nat) (v : Option Value) (h : Heap) (L : List Loc) : Prop := v = some (.ref w2) ∧ Fr n0 L ∧ h = h0
set_option maxRecDepth 65536 in
set_option maxHeartbeats 40000000 in
theorem rm1_5 (l : Launch) (Z : State) (a0 : Array Value) (hw : ∀ d ∈ tables_1, d.before a0 Z = true) (ws : List Jvm.Cond) (p1 : Int32) (w2 : Addr) (h0 : Heap) (n0 : Nat) (Z0 : n0 ≤ h0.size) (S_PUBREL : Sta Z h0 "com/example/quillwire/quillwire/codec/PacketType" "PUBREL" "Lcom/example/quillwire/quillwire/codec/PacketType;" (.ref w2)) (hc1 : ¬ (p1 = (0 : Int32))) (hc10 : ¬ (p1 = (1 : Int32))) (hc19 : ¬ (p1 = (2 : Int32))) (hc28 : ¬ (p1 = (3 : Int32))) (hc37 : ¬ (p1 = (4 : Int32))) (hc46 : p1 = (5 : Int32)) :
    MetFree l (⟨"com/example/quillwire/quillwire/codec/PacketTypeAllowsPinLaw", "pick", "(I)Lcom/example/quillwire/quillwire/codec/PacketType;"⟩ : MethodName) (head1 (Jvm.Cond.code (⟨"com/example/quillwire/quillwire/codec/PacketTypeAllowsPinLaw", "pick", "(I)Lcom/example/quillwire/quillwire/codec/PacketType;"⟩ : MethodName) method_2_code 1 (some (.object "com/example/quillwire/quillwire/codec/PacketType")) :: ws) ({ frames := 0, cells := 0, slots := 0, locals := 0 } : Room)) (fun a U => a = #[(.int p1)] ∧ Z.Warmed39 U.vm ∧ U.heap = h0) (fun _ _ _ _ _ => True) (fun _ U o U' => ∃ v L, o = .returned v ∧ Q1_5 Z p1 w2 h0 n0 v U'.heap L ∧ FrameEnd U o U' L ({ frames := 0, cells := 0, slots := 0, locals := 0 } : Room).cells ({ frames := 0, cells := 0, slots := 0, locals := 0 } : Room).slots) := by
  refine MetFree.of_bodySF (plainFor_of_name pn_1) hisR ?_
  intro p e s m args below meth c s₁ Bd hml0 hP hK
  obtain ⟨rfl, hZ, hh⟩ := hP
  have hx := Bd.exec
  have hby := Bd.bytes
  have hml : c.maxLocals = 1 := hml0
  have hown : s.vm.findClass "com/example/quillwire/quillwire/codec/PacketTypeAllowsPinLaw" = some m.cls := findClass_of_methodNamed Bd.named
  have hnm := (name_of_methodNamed Bd.named Bd.method).1
  have X0 : Stand p l e ({ frames := 0, cells := 0, slots := 0, locals := 0 } : Room) s m #[(.int p1)] below meth c s₁ [] 0 0 := Stand.of_body Bd
  have e0 : s₁.heap = h0 := by rw [← hh, Bd.state]; rfl
  have N0 := Fr.nil n0
  have pre0 : ∀ t, Steps p.tables e below (s₁.setTop (mkF m 0 #[.val (.int p1)] [])) t → Steps p.tables e below (s₁.setTop (entryFrame m #[(.int p1)] 1)) t := fun t k => castTop (ef_1 m p1) k
  obtain ⟨T3, X3, e3, st3⟩ := getS2 X0 hx hZ hown (host := "") (Or.inl (hw _ (List.mem_of_getElem? (i := 37) rfl))) Via.refl e0 S_PUBREL (g := (mkF m 49 #[.val (.int p1)] [])) rfl (hb hby d1_49)
  obtain ⟨fs, hr, hrun, hended, hW, hsame⟩ := X3.leave (v := some (.ref w2)) (fun h => by rw [Bd.returns] at h; cases h)
  refine ⟨_, _, pre0 _ ?_, hrun, hended, _, _, rfl, ?_, ⟨_, rfl⟩, hW, hsame.mono (by decide) (by decide)⟩
  · show Steps p.tables e below (s₁.setTop (mkF m 0 #[.val (.int p1)] [])) _
    refine XS.iloadN X0.here hx rfl (hb hby d1_0) rfl ?_
    show Steps p.tables e below (s₁.setTop (mkF m 1 #[.val (.int p1)] [(.int p1)])) _
    refine XS.ifYes X0.here hx rfl (pc0 := 1) (pc' := 8) rfl (hb hby d1_1) rfl ((if0 _ _).trans (feq hc1).2) (by decide) (by decide) ?_
    show Steps p.tables e below (s₁.setTop (mkF m 8 #[.val (.int p1)] [])) _
    refine XS.iloadN X0.here hx rfl (hb hby d1_8) rfl ?_
    show Steps p.tables e below (s₁.setTop (mkF m 9 #[.val (.int p1)] [(.int p1)])) _
    refine XS.iconst X0.here hx rfl (hb hby d1_9) ?_
    show Steps p.tables e below (s₁.setTop (mkF m 10 #[.val (.int p1)] [(.int (1 : Int32)), (.int p1)])) _
    refine XS.icmpYes X0.here hx rfl (pc0 := 10) (pc' := 17) rfl (hb hby d1_10) rfl (feq hc10).2 (by decide) (by decide) ?_
    show Steps p.tables e below (s₁.setTop (mkF m 17 #[.val (.int p1)] [])) _
    refine XS.iloadN X0.here hx rfl (hb hby d1_17) rfl ?_
    show Steps p.tables e below (s₁.setTop (mkF m 18 #[.val (.int p1)] [(.int p1)])) _
    refine XS.iconst X0.here hx rfl (hb hby d1_18) ?_
    show Steps p.tables e below (s₁.setTop (mkF m 19 #[.val (.int p1)] [(.int (2 : Int32)), (.int p1)])) _
    refine XS.icmpYes X0.here hx rfl (pc0 := 19) (pc' := 26) rfl (hb hby d1_19) rfl (feq hc19).2 (by decide) (by decide) ?_
    show Steps p.tables e below (s₁.setTop (mkF m 26 #[.val (.int p1)] [])) _
    refine XS.iloadN X0.here hx rfl (hb hby d1_26) rfl ?_
    show Steps p.tables e below (s₁.setTop (mkF m 27 #[.val (.int p1)] [(.int p1)])) _
    refine XS.iconst X0.here hx rfl (hb hby d1_27) ?_
    show Steps p.tables e below (s₁.setTop (mkF m 28 #[.val (.int p1)] [(.int (3 : Int32)), (.int p1)])) _
    refine XS.icmpYes X0.here hx rfl (pc0 := 28) (pc' := 35) rfl (hb hby d1_28) rfl (feq hc28).2 (by decide) (by decide) ?_
    show Steps p.tables e below (s₁.setTop (mkF m 35 #[.val (.int p1)] [])) _
    refine XS.iloadN X0.here hx rfl (hb hby d1_35) rfl ?_
    show Steps p.tables e below (s₁.setTop (mkF m 36 #[.val (.int p1)] [(.int p1)])) _
    refine XS.iconst X0.here hx rfl (hb hby d1_36) ?_
    show Steps p.tables e below (s₁.setTop (mkF m 37 #[.val (.int p1)] [(.int (4 : Int32)), (.int p1)])) _
    refine XS.icmpYes X0.here hx rfl (pc0 := 37) (pc' := 44) rfl (hb hby d1_37) rfl (feq hc37).2 (by decide) (by decide) ?_
    show Steps p.tables e below (s₁.setTop (mkF m 44 #[.val (.int p1)] [])) _
    refine XS.iloadN X0.here hx rfl (hb hby d1_44) rfl ?_
    show Steps p.tables e below (s₁.setTop (mkF m 45 #[.val (.int p1)] [(.int p1)])) _
    refine XS.iconst X0.here hx rfl (hb hby d1_45) ?_
    show Steps p.tables e below (s₁.setTop (mkF m 46 #[.val (.int p1)] [(.int (5 : Int32)), (.int p1)])) _
    refine XS.icmpNo X0.here hx rfl (hb hby d1_46) rfl (teq hc46).2 ?_
    show Steps p.tables e below (s₁.setTop (mkF m 49 #[.val (.int p1)] [])) _
    refine st3 _ ?_
    show Steps p.tables e below (T3.setTop (mkF m 52 #[.val (.int p1)] [(.ref w2)])) _
    jvm_step X3.here [X3.here.top, hx, (hb hby d1_52), X3.method', Bd.returns, Value.isRef, FieldType.isReference]
    first | (intro acts; rw [hr _ acts rfl rfl rfl]) | rw [hr _ _ rfl rfl rfl]
    exact Steps.refl _
  · show Q1_5 Z p1 w2 h0 n0 _ T3.heap _
    rw [e3]
    exact ⟨rfl, N0, rfl⟩
theorem d1_53 : decode method_2_code 53 = .ok (.iload_n 0, 1) := by decide +kernel
theorem d1_54 : decode method_2_code 54 = .ok (.bipush 6, 2) := by decide +kernel
theorem d1_56 : decode method_2_code 56 = .ok (.if_icmp .ne 7, 3) := by decide +kernel
theorem d1_59 : decode method_2_code 59 = .ok (.getstatic 28, 3) := by decide +kernel
theorem d1_62 : decode method_2_code 62 = .ok (.areturn, 1) := by decide +kernel
def Q1_6 (Z : State) (p1 : Int32) (w2 : Addr) (h0 : Heap) (n0 : Nat) (v : Option Value) (h : Heap) (L : List Loc) : Prop := v = some (.ref w2) ∧ Fr n0 L ∧ h = h0
set_option maxRecDepth 65536 in
set_option maxHeartbeats 40000000 in
theorem rm1_6 (l : Launch) (Z : State) (a0 : Array Value) (hw : ∀ d ∈ tables_1, d.before a0 Z = true) (ws : List Jvm.Cond) (p1 : Int32) (w2 : Addr) (h0 : Heap) (n0 : Nat) (Z0 : n0 ≤ h0.size) (S_PUBCOMP : Sta Z h0 "com/example/quillwire/quillwire/codec/PacketType" "PUBCOMP" "Lcom/example/quillwire/quillwire/codec/PacketType;" (.ref w2)) (hc1 : ¬ (p1 = (0 : Int32))) (hc10 : ¬ (p1 = (1 : Int32))) (hc19 : ¬ (p1 = (2 : Int32))) (hc28 : ¬ (p1 = (3 : Int32))) (hc37 : ¬ (p1 = (4 : Int32))) (hc46 : ¬ (p1 = (5 : Int32))) (hc56 : p1 = (6 : Int32)) :
    MetFree l (⟨"com/example/quillwire/quillwire/codec/PacketTypeAllowsPinLaw", "pick", "(I)Lcom/example/quillwire/quillwire/codec/PacketType;"⟩ : MethodName) (head1 (Jvm.Cond.code (⟨"com/example/quillwire/quillwire/codec/PacketTypeAllowsPinLaw", "pick", "(I)Lcom/example/quillwire/quillwire/codec/PacketType;"⟩ : MethodName) method_2_code 1 (some (.object "com/example/quillwire/quillwire/codec/PacketType")) :: ws) ({ frames := 0, cells := 0, slots := 0, locals := 0 } : Room)) (fun a U => a = #[(.int p1)] ∧ Z.Warmed39 U.vm ∧ U.heap = h0) (fun _ _ _ _ _ => True) (fun _ U o U' => ∃ v L, o = .returned v ∧ Q1_6 Z p1 w2 h0 n0 v U'.heap L ∧ FrameEnd U o U' L ({ frames := 0, cells := 0, slots := 0, locals := 0 } : Room).cells ({ frames := 0, cells := 0, slots := 0, locals := 0 } : Room).slots) := by
  refine MetFree.of_bodySF (plainFor_of_name pn_1) hisR ?_
  intro p e s m args below meth c s₁ Bd hml0 hP hK
  obtain ⟨rfl, hZ, hh⟩ := hP
  have hx := Bd.exec
  have hby := Bd.bytes
  have hml : c.maxLocals = 1 := hml0
  have hown : s.vm.findClass "com/example/quillwire/quillwire/codec/PacketTypeAllowsPinLaw" = some m.cls := findClass_of_methodNamed Bd.named
  have hnm := (name_of_methodNamed Bd.named Bd.method).1
  have X0 : Stand p l e ({ frames := 0, cells := 0, slots := 0, locals := 0 } : Room) s m #[(.int p1)] below meth c s₁ [] 0 0 := Stand.of_body Bd
  have e0 : s₁.heap = h0 := by rw [← hh, Bd.state]; rfl
  have N0 := Fr.nil n0
  have pre0 : ∀ t, Steps p.tables e below (s₁.setTop (mkF m 0 #[.val (.int p1)] [])) t → Steps p.tables e below (s₁.setTop (entryFrame m #[(.int p1)] 1)) t := fun t k => castTop (ef_1 m p1) k
  obtain ⟨T3, X3, e3, st3⟩ := getS2 X0 hx hZ hown (host := "") (Or.inl (hw _ (List.mem_of_getElem? (i := 39) rfl))) Via.refl e0 S_PUBCOMP (g := (mkF m 59 #[.val (.int p1)] [])) rfl (hb hby d1_59)
  obtain ⟨fs, hr, hrun, hended, hW, hsame⟩ := X3.leave (v := some (.ref w2)) (fun h => by rw [Bd.returns] at h; cases h)
  refine ⟨_, _, pre0 _ ?_, hrun, hended, _, _, rfl, ?_, ⟨_, rfl⟩, hW, hsame.mono (by decide) (by decide)⟩
  · show Steps p.tables e below (s₁.setTop (mkF m 0 #[.val (.int p1)] [])) _
    refine XS.iloadN X0.here hx rfl (hb hby d1_0) rfl ?_
    show Steps p.tables e below (s₁.setTop (mkF m 1 #[.val (.int p1)] [(.int p1)])) _
    refine XS.ifYes X0.here hx rfl (pc0 := 1) (pc' := 8) rfl (hb hby d1_1) rfl ((if0 _ _).trans (feq hc1).2) (by decide) (by decide) ?_
    show Steps p.tables e below (s₁.setTop (mkF m 8 #[.val (.int p1)] [])) _
    refine XS.iloadN X0.here hx rfl (hb hby d1_8) rfl ?_
    show Steps p.tables e below (s₁.setTop (mkF m 9 #[.val (.int p1)] [(.int p1)])) _
    refine XS.iconst X0.here hx rfl (hb hby d1_9) ?_
    show Steps p.tables e below (s₁.setTop (mkF m 10 #[.val (.int p1)] [(.int (1 : Int32)), (.int p1)])) _
    refine XS.icmpYes X0.here hx rfl (pc0 := 10) (pc' := 17) rfl (hb hby d1_10) rfl (feq hc10).2 (by decide) (by decide) ?_
    show Steps p.tables e below (s₁.setTop (mkF m 17 #[.val (.int p1)] [])) _
    refine XS.iloadN X0.here hx rfl (hb hby d1_17) rfl ?_
    show Steps p.tables e below (s₁.setTop (mkF m 18 #[.val (.int p1)] [(.int p1)])) _
    refine XS.iconst X0.here hx rfl (hb hby d1_18) ?_
    show Steps p.tables e below (s₁.setTop (mkF m 19 #[.val (.int p1)] [(.int (2 : Int32)), (.int p1)])) _
    refine XS.icmpYes X0.here hx rfl (pc0 := 19) (pc' := 26) rfl (hb hby d1_19) rfl (feq hc19).2 (by decide) (by decide) ?_
    show Steps p.tables e below (s₁.setTop (mkF m 26 #[.val (.int p1)] [])) _
    refine XS.iloadN X0.here hx rfl (hb hby d1_26) rfl ?_
    show Steps p.tables e below (s₁.setTop (mkF m 27 #[.val (.int p1)] [(.int p1)])) _
    refine XS.iconst X0.here hx rfl (hb hby d1_27) ?_
    show Steps p.tables e below (s₁.setTop (mkF m 28 #[.val (.int p1)] [(.int (3 : Int32)), (.int p1)])) _
    refine XS.icmpYes X0.here hx rfl (pc0 := 28) (pc' := 35) rfl (hb hby d1_28) rfl (feq hc28).2 (by decide) (by decide) ?_
    show Steps p.tables e below (s₁.setTop (mkF m 35 #[.val (.int p1)] [])) _
    refine XS.iloadN X0.here hx rfl (hb hby d1_35) rfl ?_
    show Steps p.tables e below (s₁.setTop (mkF m 36 #[.val (.int p1)] [(.int p1)])) _
    refine XS.iconst X0.here hx rfl (hb hby d1_36) ?_
    show Steps p.tables e below (s₁.setTop (mkF m 37 #[.val (.int p1)] [(.int (4 : Int32)), (.int p1)])) _
    refine XS.icmpYes X0.here hx rfl (pc0 := 37) (pc' := 44) rfl (hb hby d1_37) rfl (feq hc37).2 (by decide) (by decide) ?_
    show Steps p.tables e below (s₁.setTop (mkF m 44 #[.val (.int p1)] [])) _
    refine XS.iloadN X0.here hx rfl (hb hby d1_44) rfl ?_
    show Steps p.tables e below (s₁.setTop (mkF m 45 #[.val (.int p1)] [(.int p1)])) _
    refine XS.iconst X0.here hx rfl (hb hby d1_45) ?_
    show Steps p.tables e below (s₁.setTop (mkF m 46 #[.val (.int p1)] [(.int (5 : Int32)), (.int p1)])) _
    refine XS.icmpYes X0.here hx rfl (pc0 := 46) (pc' := 53) rfl (hb hby d1_46) rfl (feq hc46).2 (by decide) (by decide) ?_
    show Steps p.tables e below (s₁.setTop (mkF m 53 #[.val (.int p1)] [])) _
    refine XS.iloadN X0.here hx rfl (hb hby d1_53) rfl ?_
    show Steps p.tables e below (s₁.setTop (mkF m 54 #[.val (.int p1)] [(.int p1)])) _
    refine XS.bipush X0.here hx rfl (hb hby d1_54) ?_
    show Steps p.tables e below (s₁.setTop (mkF m 56 #[.val (.int p1)] [(.int (6 : Int32)), (.int p1)])) _
    refine XS.icmpNo X0.here hx rfl (hb hby d1_56) rfl (teq hc56).2 ?_
    show Steps p.tables e below (s₁.setTop (mkF m 59 #[.val (.int p1)] [])) _
    refine st3 _ ?_
    show Steps p.tables e below (T3.setTop (mkF m 62 #[.val (.int p1)] [(.ref w2)])) _
    jvm_step X3.here [X3.here.top, hx, (hb hby d1_62), X3.method', Bd.returns, Value.isRef, FieldType.isReference]
    first | (intro acts; rw [hr _ acts rfl rfl rfl]) | rw [hr _ _ rfl rfl rfl]
    exact Steps.refl _
  · show Q1_6 Z p1 w2 h0 n0 _ T3.heap _
    rw [e3]
    exact ⟨rfl, N0, rfl⟩
theorem d1_63 : decode method_2_code 63 = .ok (.iload_n 0, 1) := by decide +kernel
theorem d1_64 : decode method_2_code 64 = .ok (.bipush 7, 2) := by decide +kernel
theorem d1_66 : decode method_2_code 66 = .ok (.if_icmp .ne 7, 3) := by decide +kernel
theorem d1_69 : decode method_2_code 69 = .ok (.getstatic 31, 3) := by decide +kernel
theorem d1_72 : decode method_2_code 72 = .ok (.areturn, 1) := by decide +kernel
def Q1_7 (Z : State) (p1 : Int32) (w2 : Addr) (h0 : Heap) (n0 : Nat) (v : Option Value) (h : Heap) (L : List Loc) : Prop := v = some (.ref w2) ∧ Fr n0 L ∧ h = h0
set_option maxRecDepth 65536 in
set_option maxHeartbeats 40000000 in
theorem rm1_7 (l : Launch) (Z : State) (a0 : Array Value) (hw : ∀ d ∈ tables_1, d.before a0 Z = true) (ws : List Jvm.Cond) (p1 : Int32) (w2 : Addr) (h0 : Heap) (n0 : Nat) (Z0 : n0 ≤ h0.size) (S_SUBSCRIBE : Sta Z h0 "com/example/quillwire/quillwire/codec/PacketType" "SUBSCRIBE" "Lcom/example/quillwire/quillwire/codec/PacketType;" (.ref w2)) (hc1 : ¬ (p1 = (0 : Int32))) (hc10 : ¬ (p1 = (1 : Int32))) (hc19 : ¬ (p1 = (2 : Int32))) (hc28 : ¬ (p1 = (3 : Int32))) (hc37 : ¬ (p1 = (4 : Int32))) (hc46 : ¬ (p1 = (5 : Int32))) (hc56 : ¬ (p1 = (6 : Int32))) (hc66 : p1 = (7 : Int32)) :
    MetFree l (⟨"com/example/quillwire/quillwire/codec/PacketTypeAllowsPinLaw", "pick", "(I)Lcom/example/quillwire/quillwire/codec/PacketType;"⟩ : MethodName) (head1 (Jvm.Cond.code (⟨"com/example/quillwire/quillwire/codec/PacketTypeAllowsPinLaw", "pick", "(I)Lcom/example/quillwire/quillwire/codec/PacketType;"⟩ : MethodName) method_2_code 1 (some (.object "com/example/quillwire/quillwire/codec/PacketType")) :: ws) ({ frames := 0, cells := 0, slots := 0, locals := 0 } : Room)) (fun a U => a = #[(.int p1)] ∧ Z.Warmed39 U.vm ∧ U.heap = h0) (fun _ _ _ _ _ => True) (fun _ U o U' => ∃ v L, o = .returned v ∧ Q1_7 Z p1 w2 h0 n0 v U'.heap L ∧ FrameEnd U o U' L ({ frames := 0, cells := 0, slots := 0, locals := 0 } : Room).cells ({ frames := 0, cells := 0, slots := 0, locals := 0 } : Room).slots) := by
  refine MetFree.of_bodySF (plainFor_of_name pn_1) hisR ?_
  intro p e s m args below meth c s₁ Bd hml0 hP hK
  obtain ⟨rfl, hZ, hh⟩ := hP
  have hx := Bd.exec
  have hby := Bd.bytes
  have hml : c.maxLocals = 1 := hml0
  have hown : s.vm.findClass "com/example/quillwire/quillwire/codec/PacketTypeAllowsPinLaw" = some m.cls := findClass_of_methodNamed Bd.named
  have hnm := (name_of_methodNamed Bd.named Bd.method).1
  have X0 : Stand p l e ({ frames := 0, cells := 0, slots := 0, locals := 0 } : Room) s m #[(.int p1)] below meth c s₁ [] 0 0 := Stand.of_body Bd
  have e0 : s₁.heap = h0 := by rw [← hh, Bd.state]; rfl
  have N0 := Fr.nil n0
  have pre0 : ∀ t, Steps p.tables e below (s₁.setTop (mkF m 0 #[.val (.int p1)] [])) t → Steps p.tables e below (s₁.setTop (entryFrame m #[(.int p1)] 1)) t := fun t k => castTop (ef_1 m p1) k
  obtain ⟨T3, X3, e3, st3⟩ := getS2 X0 hx hZ hown (host := "") (Or.inl (hw _ (List.mem_of_getElem? (i := 25) rfl))) Via.refl e0 S_SUBSCRIBE (g := (mkF m 69 #[.val (.int p1)] [])) rfl (hb hby d1_69)
  obtain ⟨fs, hr, hrun, hended, hW, hsame⟩ := X3.leave (v := some (.ref w2)) (fun h => by rw [Bd.returns] at h; cases h)
  refine ⟨_, _, pre0 _ ?_, hrun, hended, _, _, rfl, ?_, ⟨_, rfl⟩, hW, hsame.mono (by decide) (by decide)⟩
  · show Steps p.tables e below (s₁.setTop (mkF m 0 #[.val (.int p1)] [])) _
    refine XS.iloadN X0.here hx rfl (hb hby d1_0) rfl ?_
    show Steps p.tables e below (s₁.setTop (mkF m 1 #[.val (.int p1)] [(.int p1)])) _
    refine XS.ifYes X0.here hx rfl (pc0 := 1) (pc' := 8) rfl (hb hby d1_1) rfl ((if0 _ _).trans (feq hc1).2) (by decide) (by decide) ?_
    show Steps p.tables e below (s₁.setTop (mkF m 8 #[.val (.int p1)] [])) _
    refine XS.iloadN X0.here hx rfl (hb hby d1_8) rfl ?_
    show Steps p.tables e below (s₁.setTop (mkF m 9 #[.val (.int p1)] [(.int p1)])) _
    refine XS.iconst X0.here hx rfl (hb hby d1_9) ?_
    show Steps p.tables e below (s₁.setTop (mkF m 10 #[.val (.int p1)] [(.int (1 : Int32)), (.int p1)])) _
    refine XS.icmpYes X0.here hx rfl (pc0 := 10) (pc' := 17) rfl (hb hby d1_10) rfl (feq hc10).2 (by decide) (by decide) ?_
    show Steps p.tables e below (s₁.setTop (mkF m 17 #[.val (.int p1)] [])) _
    refine XS.iloadN X0.here hx rfl (hb hby d1_17) rfl ?_
    show Steps p.tables e below (s₁.setTop (mkF m 18 #[.val (.int p1)] [(.int p1)])) _
    refine XS.iconst X0.here hx rfl (hb hby d1_18) ?_
    show Steps p.tables e below (s₁.setTop (mkF m 19 #[.val (.int p1)] [(.int (2 : Int32)), (.int p1)])) _
    refine XS.icmpYes X0.here hx rfl (pc0 := 19) (pc' := 26) rfl (hb hby d1_19) rfl (feq hc19).2 (by decide) (by decide) ?_
    show Steps p.tables e below (s₁.setTop (mkF m 26 #[.val (.int p1)] [])) _
    refine XS.iloadN X0.here hx rfl (hb hby d1_26) rfl ?_
    show Steps p.tables e below (s₁.setTop (mkF m 27 #[.val (.int p1)] [(.int p1)])) _
    refine XS.iconst X0.here hx rfl (hb hby d1_27) ?_
    show Steps p.tables e below (s₁.setTop (mkF m 28 #[.val (.int p1)] [(.int (3 : Int32)), (.int p1)])) _
    refine XS.icmpYes X0.here hx rfl (pc0 := 28) (pc' := 35) rfl (hb hby d1_28) rfl (feq hc28).2 (by decide) (by decide) ?_
    show Steps p.tables e below (s₁.setTop (mkF m 35 #[.val (.int p1)] [])) _
    refine XS.iloadN X0.here hx rfl (hb hby d1_35) rfl ?_
    show Steps p.tables e below (s₁.setTop (mkF m 36 #[.val (.int p1)] [(.int p1)])) _
    refine XS.iconst X0.here hx rfl (hb hby d1_36) ?_
    show Steps p.tables e below (s₁.setTop (mkF m 37 #[.val (.int p1)] [(.int (4 : Int32)), (.int p1)])) _
    refine XS.icmpYes X0.here hx rfl (pc0 := 37) (pc' := 44) rfl (hb hby d1_37) rfl (feq hc37).2 (by decide) (by decide) ?_
    show Steps p.tables e below (s₁.setTop (mkF m 44 #[.val (.int p1)] [])) _
    refine XS.iloadN X0.here hx rfl (hb hby d1_44) rfl ?_
    show Steps p.tables e below (s₁.setTop (mkF m 45 #[.val (.int p1)] [(.int p1)])) _
    refine XS.iconst X0.here hx rfl (hb hby d1_45) ?_
    show Steps p.tables e below (s₁.setTop (mkF m 46 #[.val (.int p1)] [(.int (5 : Int32)), (.int p1)])) _
    refine XS.icmpYes X0.here hx rfl (pc0 := 46) (pc' := 53) rfl (hb hby d1_46) rfl (feq hc46).2 (by decide) (by decide) ?_
    show Steps p.tables e below (s₁.setTop (mkF m 53 #[.val (.int p1)] [])) _
    refine XS.iloadN X0.here hx rfl (hb hby d1_53) rfl ?_
    show Steps p.tables e below (s₁.setTop (mkF m 54 #[.val (.int p1)] [(.int p1)])) _
    refine XS.bipush X0.here hx rfl (hb hby d1_54) ?_
    show Steps p.tables e below (s₁.setTop (mkF m 56 #[.val (.int p1)] [(.int (6 : Int32)), (.int p1)])) _
    refine XS.icmpYes X0.here hx rfl (pc0 := 56) (pc' := 63) rfl (hb hby d1_56) rfl (feq hc56).2 (by decide) (by decide) ?_
    show Steps p.tables e below (s₁.setTop (mkF m 63 #[.val (.int p1)] [])) _
    refine XS.iloadN X0.here hx rfl (hb hby d1_63) rfl ?_
    show Steps p.tables e below (s₁.setTop (mkF m 64 #[.val (.int p1)] [(.int p1)])) _
    refine XS.bipush X0.here hx rfl (hb hby d1_64) ?_
    show Steps p.tables e below (s₁.setTop (mkF m 66 #[.val (.int p1)] [(.int (7 : Int32)), (.int p1)])) _
    refine XS.icmpNo X0.here hx rfl (hb hby d1_66) rfl (teq hc66).2 ?_
    show Steps p.tables e below (s₁.setTop (mkF m 69 #[.val (.int p1)] [])) _
    refine st3 _ ?_
    show Steps p.tables e below (T3.setTop (mkF m 72 #[.val (.int p1)] [(.ref w2)])) _
    jvm_step X3.here [X3.here.top, hx, (hb hby d1_72), X3.method', Bd.returns, Value.isRef, FieldType.isReference]
    first | (intro acts; rw [hr _ acts rfl rfl rfl]) | rw [hr _ _ rfl rfl rfl]
    exact Steps.refl _
  · show Q1_7 Z p1 w2 h0 n0 _ T3.heap _
    rw [e3]
    exact ⟨rfl, N0, rfl⟩
theorem d1_73 : decode method_2_code 73 = .ok (.iload_n 0, 1) := by decide +kernel
theorem d1_74 : decode method_2_code 74 = .ok (.bipush 8, 2) := by decide +kernel
theorem d1_76 : decode method_2_code 76 = .ok (.if_icmp .ne 7, 3) := by decide +kernel
theorem d1_79 : decode method_2_code 79 = .ok (.getstatic 34, 3) := by decide +kernel
theorem d1_82 : decode method_2_code 82 = .ok (.areturn, 1) := by decide +kernel
def Q1_8 (Z : State) (p1 : Int32) (w2 : Addr) (h0 : Heap) (n0 : Nat) (v : Option Value) (h : Heap) (L : List Loc) : Prop := v = some (.ref w2) ∧ Fr n0 L ∧ h = h0
set_option maxRecDepth 65536 in
set_option maxHeartbeats 40000000 in
theorem rm1_8 (l : Launch) (Z : State) (a0 : Array Value) (hw : ∀ d ∈ tables_1, d.before a0 Z = true) (ws : List Jvm.Cond) (p1 : Int32) (w2 : Addr) (h0 : Heap) (n0 : Nat) (Z0 : n0 ≤ h0.size) (S_SUBACK : Sta Z h0 "com/example/quillwire/quillwire/codec/PacketType" "SUBACK" "Lcom/example/quillwire/quillwire/codec/PacketType;" (.ref w2)) (hc1 : ¬ (p1 = (0 : Int32))) (hc10 : ¬ (p1 = (1 : Int32))) (hc19 : ¬ (p1 = (2 : Int32))) (hc28 : ¬ (p1 = (3 : Int32))) (hc37 : ¬ (p1 = (4 : Int32))) (hc46 : ¬ (p1 = (5 : Int32))) (hc56 : ¬ (p1 = (6 : Int32))) (hc66 : ¬ (p1 = (7 : Int32))) (hc76 : p1 = (8 : Int32)) :
    MetFree l (⟨"com/example/quillwire/quillwire/codec/PacketTypeAllowsPinLaw", "pick", "(I)Lcom/example/quillwire/quillwire/codec/PacketType;"⟩ : MethodName) (head1 (Jvm.Cond.code (⟨"com/example/quillwire/quillwire/codec/PacketTypeAllowsPinLaw", "pick", "(I)Lcom/example/quillwire/quillwire/codec/PacketType;"⟩ : MethodName) method_2_code 1 (some (.object "com/example/quillwire/quillwire/codec/PacketType")) :: ws) ({ frames := 0, cells := 0, slots := 0, locals := 0 } : Room)) (fun a U => a = #[(.int p1)] ∧ Z.Warmed39 U.vm ∧ U.heap = h0) (fun _ _ _ _ _ => True) (fun _ U o U' => ∃ v L, o = .returned v ∧ Q1_8 Z p1 w2 h0 n0 v U'.heap L ∧ FrameEnd U o U' L ({ frames := 0, cells := 0, slots := 0, locals := 0 } : Room).cells ({ frames := 0, cells := 0, slots := 0, locals := 0 } : Room).slots) := by
  refine MetFree.of_bodySF (plainFor_of_name pn_1) hisR ?_
  intro p e s m args below meth c s₁ Bd hml0 hP hK
  obtain ⟨rfl, hZ, hh⟩ := hP
  have hx := Bd.exec
  have hby := Bd.bytes
  have hml : c.maxLocals = 1 := hml0
  have hown : s.vm.findClass "com/example/quillwire/quillwire/codec/PacketTypeAllowsPinLaw" = some m.cls := findClass_of_methodNamed Bd.named
  have hnm := (name_of_methodNamed Bd.named Bd.method).1
  have X0 : Stand p l e ({ frames := 0, cells := 0, slots := 0, locals := 0 } : Room) s m #[(.int p1)] below meth c s₁ [] 0 0 := Stand.of_body Bd
  have e0 : s₁.heap = h0 := by rw [← hh, Bd.state]; rfl
  have N0 := Fr.nil n0
  have pre0 : ∀ t, Steps p.tables e below (s₁.setTop (mkF m 0 #[.val (.int p1)] [])) t → Steps p.tables e below (s₁.setTop (entryFrame m #[(.int p1)] 1)) t := fun t k => castTop (ef_1 m p1) k
  obtain ⟨T3, X3, e3, st3⟩ := getS2 X0 hx hZ hown (host := "") (Or.inl (hw _ (List.mem_of_getElem? (i := 27) rfl))) Via.refl e0 S_SUBACK (g := (mkF m 79 #[.val (.int p1)] [])) rfl (hb hby d1_79)
  obtain ⟨fs, hr, hrun, hended, hW, hsame⟩ := X3.leave (v := some (.ref w2)) (fun h => by rw [Bd.returns] at h; cases h)
  refine ⟨_, _, pre0 _ ?_, hrun, hended, _, _, rfl, ?_, ⟨_, rfl⟩, hW, hsame.mono (by decide) (by decide)⟩
  · show Steps p.tables e below (s₁.setTop (mkF m 0 #[.val (.int p1)] [])) _
    refine XS.iloadN X0.here hx rfl (hb hby d1_0) rfl ?_
    show Steps p.tables e below (s₁.setTop (mkF m 1 #[.val (.int p1)] [(.int p1)])) _
    refine XS.ifYes X0.here hx rfl (pc0 := 1) (pc' := 8) rfl (hb hby d1_1) rfl ((if0 _ _).trans (feq hc1).2) (by decide) (by decide) ?_
    show Steps p.tables e below (s₁.setTop (mkF m 8 #[.val (.int p1)] [])) _
    refine XS.iloadN X0.here hx rfl (hb hby d1_8) rfl ?_
    show Steps p.tables e below (s₁.setTop (mkF m 9 #[.val (.int p1)] [(.int p1)])) _
    refine XS.iconst X0.here hx rfl (hb hby d1_9) ?_
    show Steps p.tables e below (s₁.setTop (mkF m 10 #[.val (.int p1)] [(.int (1 : Int32)), (.int p1)])) _
    refine XS.icmpYes X0.here hx rfl (pc0 := 10) (pc' := 17) rfl (hb hby d1_10) rfl (feq hc10).2 (by decide) (by decide) ?_
    show Steps p.tables e below (s₁.setTop (mkF m 17 #[.val (.int p1)] [])) _
    refine XS.iloadN X0.here hx rfl (hb hby d1_17) rfl ?_
    show Steps p.tables e below (s₁.setTop (mkF m 18 #[.val (.int p1)] [(.int p1)])) _
    refine XS.iconst X0.here hx rfl (hb hby d1_18) ?_
    show Steps p.tables e below (s₁.setTop (mkF m 19 #[.val (.int p1)] [(.int (2 : Int32)), (.int p1)])) _
    refine XS.icmpYes X0.here hx rfl (pc0 := 19) (pc' := 26) rfl (hb hby d1_19) rfl (feq hc19).2 (by decide) (by decide) ?_
    show Steps p.tables e below (s₁.setTop (mkF m 26 #[.val (.int p1)] [])) _
    refine XS.iloadN X0.here hx rfl (hb hby d1_26) rfl ?_
    show Steps p.tables e below (s₁.setTop (mkF m 27 #[.val (.int p1)] [(.int p1)])) _
    refine XS.iconst X0.here hx rfl (hb hby d1_27) ?_
    show Steps p.tables e below (s₁.setTop (mkF m 28 #[.val (.int p1)] [(.int (3 : Int32)), (.int p1)])) _
    refine XS.icmpYes X0.here hx rfl (pc0 := 28) (pc' := 35) rfl (hb hby d1_28) rfl (feq hc28).2 (by decide) (by decide) ?_
    show Steps p.tables e below (s₁.setTop (mkF m 35 #[.val (.int p1)] [])) _
    refine XS.iloadN X0.here hx rfl (hb hby d1_35) rfl ?_
    show Steps p.tables e below (s₁.setTop (mkF m 36 #[.val (.int p1)] [(.int p1)])) _
    refine XS.iconst X0.here hx rfl (hb hby d1_36) ?_
    show Steps p.tables e below (s₁.setTop (mkF m 37 #[.val (.int p1)] [(.int (4 : Int32)), (.int p1)])) _
    refine XS.icmpYes X0.here hx rfl (pc0 := 37) (pc' := 44) rfl (hb hby d1_37) rfl (feq hc37).2 (by decide) (by decide) ?_
    show Steps p.tables e below (s₁.setTop (mkF m 44 #[.val (.int p1)] [])) _
    refine XS.iloadN X0.here hx rfl (hb hby d1_44) rfl ?_
    show Steps p.tables e below (s₁.setTop (mkF m 45 #[.val (.int p1)] [(.int p1)])) _
    refine XS.iconst X0.here hx rfl (hb hby d1_45) ?_
    show Steps p.tables e below (s₁.setTop (mkF m 46 #[.val (.int p1)] [(.int (5 : Int32)), (.int p1)])) _
    refine XS.icmpYes X0.here hx rfl (pc0 := 46) (pc' := 53) rfl (hb hby d1_46) rfl (feq hc46).2 (by decide) (by decide) ?_
    show Steps p.tables e below (s₁.setTop (mkF m 53 #[.val (.int p1)] [])) _
    refine XS.iloadN X0.here hx rfl (hb hby d1_53) rfl ?_
    show Steps p.tables e below (s₁.setTop (mkF m 54 #[.val (.int p1)] [(.int p1)])) _
    refine XS.bipush X0.here hx rfl (hb hby d1_54) ?_
    show Steps p.tables e below (s₁.setTop (mkF m 56 #[.val (.int p1)] [(.int (6 : Int32)), (.int p1)])) _
    refine XS.icmpYes X0.here hx rfl (pc0 := 56) (pc' := 63) rfl (hb hby d1_56) rfl (feq hc56).2 (by decide) (by decide) ?_
    show Steps p.tables e below (s₁.setTop (mkF m 63 #[.val (.int p1)] [])) _
    refine XS.iloadN X0.here hx rfl (hb hby d1_63) rfl ?_
    show Steps p.tables e below (s₁.setTop (mkF m 64 #[.val (.int p1)] [(.int p1)])) _
    refine XS.bipush X0.here hx rfl (hb hby d1_64) ?_
    show Steps p.tables e below (s₁.setTop (mkF m 66 #[.val (.int p1)] [(.int (7 : Int32)), (.int p1)])) _
    refine XS.icmpYes X0.here hx rfl (pc0 := 66) (pc' := 73) rfl (hb hby d1_66) rfl (feq hc66).2 (by decide) (by decide) ?_
    show Steps p.tables e below (s₁.setTop (mkF m 73 #[.val (.int p1)] [])) _
    refine XS.iloadN X0.here hx rfl (hb hby d1_73) rfl ?_
    show Steps p.tables e below (s₁.setTop (mkF m 74 #[.val (.int p1)] [(.int p1)])) _
    refine XS.bipush X0.here hx rfl (hb hby d1_74) ?_
    show Steps p.tables e below (s₁.setTop (mkF m 76 #[.val (.int p1)] [(.int (8 : Int32)), (.int p1)])) _
    refine XS.icmpNo X0.here hx rfl (hb hby d1_76) rfl (teq hc76).2 ?_
    show Steps p.tables e below (s₁.setTop (mkF m 79 #[.val (.int p1)] [])) _
    refine st3 _ ?_
    show Steps p.tables e below (T3.setTop (mkF m 82 #[.val (.int p1)] [(.ref w2)])) _
    jvm_step X3.here [X3.here.top, hx, (hb hby d1_82), X3.method', Bd.returns, Value.isRef, FieldType.isReference]
    first | (intro acts; rw [hr _ acts rfl rfl rfl]) | rw [hr _ _ rfl rfl rfl]
    exact Steps.refl _
  · show Q1_8 Z p1 w2 h0 n0 _ T3.heap _
    rw [e3]
    exact ⟨rfl, N0, rfl⟩
theorem d1_83 : decode method_2_code 83 = .ok (.iload_n 0, 1) := by decide +kernel
theorem d1_84 : decode method_2_code 84 = .ok (.bipush 9, 2) := by decide +kernel
theorem d1_86 : decode method_2_code 86 = .ok (.if_icmp .ne 7, 3) := by decide +kernel
theorem d1_89 : decode method_2_code 89 = .ok (.getstatic 37, 3) := by decide +kernel
theorem d1_92 : decode method_2_code 92 = .ok (.areturn, 1) := by decide +kernel
def Q1_9 (Z : State) (p1 : Int32) (w2 : Addr) (h0 : Heap) (n0 : Nat) (v : Option Value) (h : Heap) (L : List Loc) : Prop := v = some (.ref w2) ∧ Fr n0 L ∧ h = h0
set_option maxRecDepth 65536 in
set_option maxHeartbeats 40000000 in
theorem rm1_9 (l : Launch) (Z : State) (a0 : Array Value) (hw : ∀ d ∈ tables_1, d.before a0 Z = true) (ws : List Jvm.Cond) (p1 : Int32) (w2 : Addr) (h0 : Heap) (n0 : Nat) (Z0 : n0 ≤ h0.size) (S_UNSUBSCRIBE : Sta Z h0 "com/example/quillwire/quillwire/codec/PacketType" "UNSUBSCRIBE" "Lcom/example/quillwire/quillwire/codec/PacketType;" (.ref w2)) (hc1 : ¬ (p1 = (0 : Int32))) (hc10 : ¬ (p1 = (1 : Int32))) (hc19 : ¬ (p1 = (2 : Int32))) (hc28 : ¬ (p1 = (3 : Int32))) (hc37 : ¬ (p1 = (4 : Int32))) (hc46 : ¬ (p1 = (5 : Int32))) (hc56 : ¬ (p1 = (6 : Int32))) (hc66 : ¬ (p1 = (7 : Int32))) (hc76 : ¬ (p1 = (8 : Int32))) (hc86 : p1 = (9 : Int32)) :
    MetFree l (⟨"com/example/quillwire/quillwire/codec/PacketTypeAllowsPinLaw", "pick", "(I)Lcom/example/quillwire/quillwire/codec/PacketType;"⟩ : MethodName) (head1 (Jvm.Cond.code (⟨"com/example/quillwire/quillwire/codec/PacketTypeAllowsPinLaw", "pick", "(I)Lcom/example/quillwire/quillwire/codec/PacketType;"⟩ : MethodName) method_2_code 1 (some (.object "com/example/quillwire/quillwire/codec/PacketType")) :: ws) ({ frames := 0, cells := 0, slots := 0, locals := 0 } : Room)) (fun a U => a = #[(.int p1)] ∧ Z.Warmed39 U.vm ∧ U.heap = h0) (fun _ _ _ _ _ => True) (fun _ U o U' => ∃ v L, o = .returned v ∧ Q1_9 Z p1 w2 h0 n0 v U'.heap L ∧ FrameEnd U o U' L ({ frames := 0, cells := 0, slots := 0, locals := 0 } : Room).cells ({ frames := 0, cells := 0, slots := 0, locals := 0 } : Room).slots) := by
  refine MetFree.of_bodySF (plainFor_of_name pn_1) hisR ?_
  intro p e s m args below meth c s₁ Bd hml0 hP hK
  obtain ⟨rfl, hZ, hh⟩ := hP
  have hx := Bd.exec
  have hby := Bd.bytes
  have hml : c.maxLocals = 1 := hml0
  have hown : s.vm.findClass "com/example/quillwire/quillwire/codec/PacketTypeAllowsPinLaw" = some m.cls := findClass_of_methodNamed Bd.named
  have hnm := (name_of_methodNamed Bd.named Bd.method).1
  have X0 : Stand p l e ({ frames := 0, cells := 0, slots := 0, locals := 0 } : Room) s m #[(.int p1)] below meth c s₁ [] 0 0 := Stand.of_body Bd
  have e0 : s₁.heap = h0 := by rw [← hh, Bd.state]; rfl
  have N0 := Fr.nil n0
  have pre0 : ∀ t, Steps p.tables e below (s₁.setTop (mkF m 0 #[.val (.int p1)] [])) t → Steps p.tables e below (s₁.setTop (entryFrame m #[(.int p1)] 1)) t := fun t k => castTop (ef_1 m p1) k
  obtain ⟨T3, X3, e3, st3⟩ := getS2 X0 hx hZ hown (host := "") (Or.inl (hw _ (List.mem_of_getElem? (i := 17) rfl))) Via.refl e0 S_UNSUBSCRIBE (g := (mkF m 89 #[.val (.int p1)] [])) rfl (hb hby d1_89)
  obtain ⟨fs, hr, hrun, hended, hW, hsame⟩ := X3.leave (v := some (.ref w2)) (fun h => by rw [Bd.returns] at h; cases h)
  refine ⟨_, _, pre0 _ ?_, hrun, hended, _, _, rfl, ?_, ⟨_, rfl⟩, hW, hsame.mono (by decide) (by decide)⟩
  · show Steps p.tables e below (s₁.setTop (mkF m 0 #[.val (.int p1)] [])) _
    refine XS.iloadN X0.here hx rfl (hb hby d1_0) rfl ?_
    show Steps p.tables e below (s₁.setTop (mkF m 1 #[.val (.int p1)] [(.int p1)])) _
    refine XS.ifYes X0.here hx rfl (pc0 := 1) (pc' := 8) rfl (hb hby d1_1) rfl ((if0 _ _).trans (feq hc1).2) (by decide) (by decide) ?_
    show Steps p.tables e below (s₁.setTop (mkF m 8 #[.val (.int p1)] [])) _
    refine XS.iloadN X0.here hx rfl (hb hby d1_8) rfl ?_
    show Steps p.tables e below (s₁.setTop (mkF m 9 #[.val (.int p1)] [(.int p1)])) _
    refine XS.iconst X0.here hx rfl (hb hby d1_9) ?_
    show Steps p.tables e below (s₁.setTop (mkF m 10 #[.val (.int p1)] [(.int (1 : Int32)), (.int p1)])) _
    refine XS.icmpYes X0.here hx rfl (pc0 := 10) (pc' := 17) rfl (hb hby d1_10) rfl (feq hc10).2 (by decide) (by decide) ?_
    show Steps p.tables e below (s₁.setTop (mkF m 17 #[.val (.int p1)] [])) _
    refine XS.iloadN X0.here hx rfl (hb hby d1_17) rfl ?_
    show Steps p.tables e below (s₁.setTop (mkF m 18 #[.val (.int p1)] [(.int p1)])) _
    refine XS.iconst X0.here hx rfl (hb hby d1_18) ?_
    show Steps p.tables e below (s₁.setTop (mkF m 19 #[.val (.int p1)] [(.int (2 : Int32)), (.int p1)])) _
    refine XS.icmpYes X0.here hx rfl (pc0 := 19) (pc' := 26) rfl (hb hby d1_19) rfl (feq hc19).2 (by decide) (by decide) ?_
    show Steps p.tables e below (s₁.setTop (mkF m 26 #[.val (.int p1)] [])) _
    refine XS.iloadN X0.here hx rfl (hb hby d1_26) rfl ?_
    show Steps p.tables e below (s₁.setTop (mkF m 27 #[.val (.int p1)] [(.int p1)])) _
    refine XS.iconst X0.here hx rfl (hb hby d1_27) ?_
    show Steps p.tables e below (s₁.setTop (mkF m 28 #[.val (.int p1)] [(.int (3 : Int32)), (.int p1)])) _
    refine XS.icmpYes X0.here hx rfl (pc0 := 28) (pc' := 35) rfl (hb hby d1_28) rfl (feq hc28).2 (by decide) (by decide) ?_
    show Steps p.tables e below (s₁.setTop (mkF m 35 #[.val (.int p1)] [])) _
    refine XS.iloadN X0.here hx rfl (hb hby d1_35) rfl ?_
    show Steps p.tables e below (s₁.setTop (mkF m 36 #[.val (.int p1)] [(.int p1)])) _
    refine XS.iconst X0.here hx rfl (hb hby d1_36) ?_
    show Steps p.tables e below (s₁.setTop (mkF m 37 #[.val (.int p1)] [(.int (4 : Int32)), (.int p1)])) _
    refine XS.icmpYes X0.here hx rfl (pc0 := 37) (pc' := 44) rfl (hb hby d1_37) rfl (feq hc37).2 (by decide) (by decide) ?_
    show Steps p.tables e below (s₁.setTop (mkF m 44 #[.val (.int p1)] [])) _
    refine XS.iloadN X0.here hx rfl (hb hby d1_44) rfl ?_
    show Steps p.tables e below (s₁.setTop (mkF m 45 #[.val (.int p1)] [(.int p1)])) _
    refine XS.iconst X0.here hx rfl (hb hby d1_45) ?_
    show Steps p.tables e below (s₁.setTop (mkF m 46 #[.val (.int p1)] [(.int (5 : Int32)), (.int p1)])) _
    refine XS.icmpYes X0.here hx rfl (pc0 := 46) (pc' := 53) rfl (hb hby d1_46) rfl (feq hc46).2 (by decide) (by decide) ?_
    show Steps p.tables e below (s₁.setTop (mkF m 53 #[.val (.int p1)] [])) _
    refine XS.iloadN X0.here hx rfl (hb hby d1_53) rfl ?_
    show Steps p.tables e below (s₁.setTop (mkF m 54 #[.val (.int p1)] [(.int p1)])) _
    refine XS.bipush X0.here hx rfl (hb hby d1_54) ?_
    show Steps p.tables e below (s₁.setTop (mkF m 56 #[.val (.int p1)] [(.int (6 : Int32)), (.int p1)])) _
    refine XS.icmpYes X0.here hx rfl (pc0 := 56) (pc' := 63) rfl (hb hby d1_56) rfl (feq hc56).2 (by decide) (by decide) ?_
    show Steps p.tables e below (s₁.setTop (mkF m 63 #[.val (.int p1)] [])) _
    refine XS.iloadN X0.here hx rfl (hb hby d1_63) rfl ?_
    show Steps p.tables e below (s₁.setTop (mkF m 64 #[.val (.int p1)] [(.int p1)])) _
    refine XS.bipush X0.here hx rfl (hb hby d1_64) ?_
    show Steps p.tables e below (s₁.setTop (mkF m 66 #[.val (.int p1)] [(.int (7 : Int32)), (.int p1)])) _
    refine XS.icmpYes X0.here hx rfl (pc0 := 66) (pc' := 73) rfl (hb hby d1_66) rfl (feq hc66).2 (by decide) (by decide) ?_
    show Steps p.tables e below (s₁.setTop (mkF m 73 #[.val (.int p1)] [])) _
    refine XS.iloadN X0.here hx rfl (hb hby d1_73) rfl ?_
    show Steps p.tables e below (s₁.setTop (mkF m 74 #[.val (.int p1)] [(.int p1)])) _
    refine XS.bipush X0.here hx rfl (hb hby d1_74) ?_
    show Steps p.tables e below (s₁.setTop (mkF m 76 #[.val (.int p1)] [(.int (8 : Int32)), (.int p1)])) _
    refine XS.icmpYes X0.here hx rfl (pc0 := 76) (pc' := 83) rfl (hb hby d1_76) rfl (feq hc76).2 (by decide) (by decide) ?_
    show Steps p.tables e below (s₁.setTop (mkF m 83 #[.val (.int p1)] [])) _
    refine XS.iloadN X0.here hx rfl (hb hby d1_83) rfl ?_
    show Steps p.tables e below (s₁.setTop (mkF m 84 #[.val (.int p1)] [(.int p1)])) _
    refine XS.bipush X0.here hx rfl (hb hby d1_84) ?_
    show Steps p.tables e below (s₁.setTop (mkF m 86 #[.val (.int p1)] [(.int (9 : Int32)), (.int p1)])) _
    refine XS.icmpNo X0.here hx rfl (hb hby d1_86) rfl (teq hc86).2 ?_
    show Steps p.tables e below (s₁.setTop (mkF m 89 #[.val (.int p1)] [])) _
    refine st3 _ ?_
    show Steps p.tables e below (T3.setTop (mkF m 92 #[.val (.int p1)] [(.ref w2)])) _
    jvm_step X3.here [X3.here.top, hx, (hb hby d1_92), X3.method', Bd.returns, Value.isRef, FieldType.isReference]
    first | (intro acts; rw [hr _ acts rfl rfl rfl]) | rw [hr _ _ rfl rfl rfl]
    exact Steps.refl _
  · show Q1_9 Z p1 w2 h0 n0 _ T3.heap _
    rw [e3]
    exact ⟨rfl, N0, rfl⟩
theorem d1_93 : decode method_2_code 93 = .ok (.iload_n 0, 1) := by decide +kernel
theorem d1_94 : decode method_2_code 94 = .ok (.bipush 10, 2) := by decide +kernel
theorem d1_96 : decode method_2_code 96 = .ok (.if_icmp .ne 7, 3) := by decide +kernel
theorem d1_99 : decode method_2_code 99 = .ok (.getstatic 40, 3) := by decide +kernel
theorem d1_102 : decode method_2_code 102 = .ok (.areturn, 1) := by decide +kernel
def Q1_10 (Z : State) (p1 : Int32) (w2 : Addr) (h0 : Heap) (n0 : Nat) (v : Option Value) (h : Heap) (L : List Loc) : Prop := v = some (.ref w2) ∧ Fr n0 L ∧ h = h0
set_option maxRecDepth 65536 in
set_option maxHeartbeats 40000000 in
theorem rm1_10 (l : Launch) (Z : State) (a0 : Array Value) (hw : ∀ d ∈ tables_1, d.before a0 Z = true) (ws : List Jvm.Cond) (p1 : Int32) (w2 : Addr) (h0 : Heap) (n0 : Nat) (Z0 : n0 ≤ h0.size) (S_UNSUBACK : Sta Z h0 "com/example/quillwire/quillwire/codec/PacketType" "UNSUBACK" "Lcom/example/quillwire/quillwire/codec/PacketType;" (.ref w2)) (hc1 : ¬ (p1 = (0 : Int32))) (hc10 : ¬ (p1 = (1 : Int32))) (hc19 : ¬ (p1 = (2 : Int32))) (hc28 : ¬ (p1 = (3 : Int32))) (hc37 : ¬ (p1 = (4 : Int32))) (hc46 : ¬ (p1 = (5 : Int32))) (hc56 : ¬ (p1 = (6 : Int32))) (hc66 : ¬ (p1 = (7 : Int32))) (hc76 : ¬ (p1 = (8 : Int32))) (hc86 : ¬ (p1 = (9 : Int32))) (hc96 : p1 = (10 : Int32)) :
    MetFree l (⟨"com/example/quillwire/quillwire/codec/PacketTypeAllowsPinLaw", "pick", "(I)Lcom/example/quillwire/quillwire/codec/PacketType;"⟩ : MethodName) (head1 (Jvm.Cond.code (⟨"com/example/quillwire/quillwire/codec/PacketTypeAllowsPinLaw", "pick", "(I)Lcom/example/quillwire/quillwire/codec/PacketType;"⟩ : MethodName) method_2_code 1 (some (.object "com/example/quillwire/quillwire/codec/PacketType")) :: ws) ({ frames := 0, cells := 0, slots := 0, locals := 0 } : Room)) (fun a U => a = #[(.int p1)] ∧ Z.Warmed39 U.vm ∧ U.heap = h0) (fun _ _ _ _ _ => True) (fun _ U o U' => ∃ v L, o = .returned v ∧ Q1_10 Z p1 w2 h0 n0 v U'.heap L ∧ FrameEnd U o U' L ({ frames := 0, cells := 0, slots := 0, locals := 0 } : Room).cells ({ frames := 0, cells := 0, slots := 0, locals := 0 } : Room).slots) := by
  refine MetFree.of_bodySF (plainFor_of_name pn_1) hisR ?_
  intro p e s m args below meth c s₁ Bd hml0 hP hK
  obtain ⟨rfl, hZ, hh⟩ := hP
  have hx := Bd.exec
  have hby := Bd.bytes
  have hml : c.maxLocals = 1 := hml0
  have hown : s.vm.findClass "com/example/quillwire/quillwire/codec/PacketTypeAllowsPinLaw" = some m.cls := findClass_of_methodNamed Bd.named
  have hnm := (name_of_methodNamed Bd.named Bd.method).1
  have X0 : Stand p l e ({ frames := 0, cells := 0, slots := 0, locals := 0 } : Room) s m #[(.int p1)] below meth c s₁ [] 0 0 := Stand.of_body Bd
  have e0 : s₁.heap = h0 := by rw [← hh, Bd.state]; rfl
  have N0 := Fr.nil n0
  have pre0 : ∀ t, Steps p.tables e below (s₁.setTop (mkF m 0 #[.val (.int p1)] [])) t → Steps p.tables e below (s₁.setTop (entryFrame m #[(.int p1)] 1)) t := fun t k => castTop (ef_1 m p1) k
  obtain ⟨T3, X3, e3, st3⟩ := getS2 X0 hx hZ hown (host := "") (Or.inl (hw _ (List.mem_of_getElem? (i := 31) rfl))) Via.refl e0 S_UNSUBACK (g := (mkF m 99 #[.val (.int p1)] [])) rfl (hb hby d1_99)
  obtain ⟨fs, hr, hrun, hended, hW, hsame⟩ := X3.leave (v := some (.ref w2)) (fun h => by rw [Bd.returns] at h; cases h)
  refine ⟨_, _, pre0 _ ?_, hrun, hended, _, _, rfl, ?_, ⟨_, rfl⟩, hW, hsame.mono (by decide) (by decide)⟩
  · show Steps p.tables e below (s₁.setTop (mkF m 0 #[.val (.int p1)] [])) _
    refine XS.iloadN X0.here hx rfl (hb hby d1_0) rfl ?_
    show Steps p.tables e below (s₁.setTop (mkF m 1 #[.val (.int p1)] [(.int p1)])) _
    refine XS.ifYes X0.here hx rfl (pc0 := 1) (pc' := 8) rfl (hb hby d1_1) rfl ((if0 _ _).trans (feq hc1).2) (by decide) (by decide) ?_
    show Steps p.tables e below (s₁.setTop (mkF m 8 #[.val (.int p1)] [])) _
    refine XS.iloadN X0.here hx rfl (hb hby d1_8) rfl ?_
    show Steps p.tables e below (s₁.setTop (mkF m 9 #[.val (.int p1)] [(.int p1)])) _
    refine XS.iconst X0.here hx rfl (hb hby d1_9) ?_
    show Steps p.tables e below (s₁.setTop (mkF m 10 #[.val (.int p1)] [(.int (1 : Int32)), (.int p1)])) _
    refine XS.icmpYes X0.here hx rfl (pc0 := 10) (pc' := 17) rfl (hb hby d1_10) rfl (feq hc10).2 (by decide) (by decide) ?_
    show Steps p.tables e below (s₁.setTop (mkF m 17 #[.val (.int p1)] [])) _
    refine XS.iloadN X0.here hx rfl (hb hby d1_17) rfl ?_
    show Steps p.tables e below (s₁.setTop (mkF m 18 #[.val (.int p1)] [(.int p1)])) _
    refine XS.iconst X0.here hx rfl (hb hby d1_18) ?_
    show Steps p.tables e below (s₁.setTop (mkF m 19 #[.val (.int p1)] [(.int (2 : Int32)), (.int p1)])) _
    refine XS.icmpYes X0.here hx rfl (pc0 := 19) (pc' := 26) rfl (hb hby d1_19) rfl (feq hc19).2 (by decide) (by decide) ?_
    show Steps p.tables e below (s₁.setTop (mkF m 26 #[.val (.int p1)] [])) _
    refine XS.iloadN X0.here hx rfl (hb hby d1_26) rfl ?_
    show Steps p.tables e below (s₁.setTop (mkF m 27 #[.val (.int p1)] [(.int p1)])) _
    refine XS.iconst X0.here hx rfl (hb hby d1_27) ?_
    show Steps p.tables e below (s₁.setTop (mkF m 28 #[.val (.int p1)] [(.int (3 : Int32)), (.int p1)])) _
    refine XS.icmpYes X0.here hx rfl (pc0 := 28) (pc' := 35) rfl (hb hby d1_28) rfl (feq hc28).2 (by decide) (by decide) ?_
    show Steps p.tables e below (s₁.setTop (mkF m 35 #[.val (.int p1)] [])) _
    refine XS.iloadN X0.here hx rfl (hb hby d1_35) rfl ?_
    show Steps p.tables e below (s₁.setTop (mkF m 36 #[.val (.int p1)] [(.int p1)])) _
    refine XS.iconst X0.here hx rfl (hb hby d1_36) ?_
    show Steps p.tables e below (s₁.setTop (mkF m 37 #[.val (.int p1)] [(.int (4 : Int32)), (.int p1)])) _
    refine XS.icmpYes X0.here hx rfl (pc0 := 37) (pc' := 44) rfl (hb hby d1_37) rfl (feq hc37).2 (by decide) (by decide) ?_
    show Steps p.tables e below (s₁.setTop (mkF m 44 #[.val (.int p1)] [])) _
    refine XS.iloadN X0.here hx rfl (hb hby d1_44) rfl ?_
    show Steps p.tables e below (s₁.setTop (mkF m 45 #[.val (.int p1)] [(.int p1)])) _
    refine XS.iconst X0.here hx rfl (hb hby d1_45) ?_
    show Steps p.tables e below (s₁.setTop (mkF m 46 #[.val (.int p1)] [(.int (5 : Int32)), (.int p1)])) _
    refine XS.icmpYes X0.here hx rfl (pc0 := 46) (pc' := 53) rfl (hb hby d1_46) rfl (feq hc46).2 (by decide) (by decide) ?_
    show Steps p.tables e below (s₁.setTop (mkF m 53 #[.val (.int p1)] [])) _
    refine XS.iloadN X0.here hx rfl (hb hby d1_53) rfl ?_
    show Steps p.tables e below (s₁.setTop (mkF m 54 #[.val (.int p1)] [(.int p1)])) _
    refine XS.bipush X0.here hx rfl (hb hby d1_54) ?_
    show Steps p.tables e below (s₁.setTop (mkF m 56 #[.val (.int p1)] [(.int (6 : Int32)), (.int p1)])) _
    refine XS.icmpYes X0.here hx rfl (pc0 := 56) (pc' := 63) rfl (hb hby d1_56) rfl (feq hc56).2 (by decide) (by decide) ?_
    show Steps p.tables e below (s₁.setTop (mkF m 63 #[.val (.int p1)] [])) _
    refine XS.iloadN X0.here hx rfl (hb hby d1_63) rfl ?_
    show Steps p.tables e below (s₁.setTop (mkF m 64 #[.val (.int p1)] [(.int p1)])) _
    refine XS.bipush X0.here hx rfl (hb hby d1_64) ?_
    show Steps p.tables e below (s₁.setTop (mkF m 66 #[.val (.int p1)] [(.int (7 : Int32)), (.int p1)])) _
    refine XS.icmpYes X0.here hx rfl (pc0 := 66) (pc' := 73) rfl (hb hby d1_66) rfl (feq hc66).2 (by decide) (by decide) ?_
    show Steps p.tables e below (s₁.setTop (mkF m 73 #[.val (.int p1)] [])) _
    refine XS.iloadN X0.here hx rfl (hb hby d1_73) rfl ?_
    show Steps p.tables e below (s₁.setTop (mkF m 74 #[.val (.int p1)] [(.int p1)])) _
    refine XS.bipush X0.here hx rfl (hb hby d1_74) ?_
    show Steps p.tables e below (s₁.setTop (mkF m 76 #[.val (.int p1)] [(.int (8 : Int32)), (.int p1)])) _
    refine XS.icmpYes X0.here hx rfl (pc0 := 76) (pc' := 83) rfl (hb hby d1_76) rfl (feq hc76).2 (by decide) (by decide) ?_
    show Steps p.tables e below (s₁.setTop (mkF m 83 #[.val (.int p1)] [])) _
    refine XS.iloadN X0.here hx rfl (hb hby d1_83) rfl ?_
    show Steps p.tables e below (s₁.setTop (mkF m 84 #[.val (.int p1)] [(.int p1)])) _
    refine XS.bipush X0.here hx rfl (hb hby d1_84) ?_
    show Steps p.tables e below (s₁.setTop (mkF m 86 #[.val (.int p1)] [(.int (9 : Int32)), (.int p1)])) _
    refine XS.icmpYes X0.here hx rfl (pc0 := 86) (pc' := 93) rfl (hb hby d1_86) rfl (feq hc86).2 (by decide) (by decide) ?_
    show Steps p.tables e below (s₁.setTop (mkF m 93 #[.val (.int p1)] [])) _
    refine XS.iloadN X0.here hx rfl (hb hby d1_93) rfl ?_
    show Steps p.tables e below (s₁.setTop (mkF m 94 #[.val (.int p1)] [(.int p1)])) _
    refine XS.bipush X0.here hx rfl (hb hby d1_94) ?_
    show Steps p.tables e below (s₁.setTop (mkF m 96 #[.val (.int p1)] [(.int (10 : Int32)), (.int p1)])) _
    refine XS.icmpNo X0.here hx rfl (hb hby d1_96) rfl (teq hc96).2 ?_
    show Steps p.tables e below (s₁.setTop (mkF m 99 #[.val (.int p1)] [])) _
    refine st3 _ ?_
    show Steps p.tables e below (T3.setTop (mkF m 102 #[.val (.int p1)] [(.ref w2)])) _
    jvm_step X3.here [X3.here.top, hx, (hb hby d1_102), X3.method', Bd.returns, Value.isRef, FieldType.isReference]
    first | (intro acts; rw [hr _ acts rfl rfl rfl]) | rw [hr _ _ rfl rfl rfl]
    exact Steps.refl _
  · show Q1_10 Z p1 w2 h0 n0 _ T3.heap _
    rw [e3]
    exact ⟨rfl, N0, rfl⟩
theorem d1_103 : decode method_2_code 103 = .ok (.iload_n 0, 1) := by decide +kernel
theorem d1_104 : decode method_2_code 104 = .ok (.bipush 11, 2) := by decide +kernel
theorem d1_106 : decode method_2_code 106 = .ok (.if_icmp .ne 7, 3) := by decide +kernel
theorem d1_109 : decode method_2_code 109 = .ok (.getstatic 43, 3) := by decide +kernel
theorem d1_112 : decode method_2_code 112 = .ok (.areturn, 1) := by decide +kernel
def Q1_11 (Z : State) (p1 : Int32) (w2 : Addr) (h0 : Heap) (n0 : Nat) (v : Option Value) (h : Heap) (L : List Loc) : Prop := v = some (.ref w2) ∧ Fr n0 L ∧ h = h0
set_option maxRecDepth 65536 in
set_option maxHeartbeats 40000000 in
theorem rm1_11 (l : Launch) (Z : State) (a0 : Array Value) (hw : ∀ d ∈ tables_1, d.before a0 Z = true) (ws : List Jvm.Cond) (p1 : Int32) (w2 : Addr) (h0 : Heap) (n0 : Nat) (Z0 : n0 ≤ h0.size) (S_PINGREQ : Sta Z h0 "com/example/quillwire/quillwire/codec/PacketType" "PINGREQ" "Lcom/example/quillwire/quillwire/codec/PacketType;" (.ref w2)) (hc1 : ¬ (p1 = (0 : Int32))) (hc10 : ¬ (p1 = (1 : Int32))) (hc19 : ¬ (p1 = (2 : Int32))) (hc28 : ¬ (p1 = (3 : Int32))) (hc37 : ¬ (p1 = (4 : Int32))) (hc46 : ¬ (p1 = (5 : Int32))) (hc56 : ¬ (p1 = (6 : Int32))) (hc66 : ¬ (p1 = (7 : Int32))) (hc76 : ¬ (p1 = (8 : Int32))) (hc86 : ¬ (p1 = (9 : Int32))) (hc96 : ¬ (p1 = (10 : Int32))) (hc106 : p1 = (11 : Int32)) :
    MetFree l (⟨"com/example/quillwire/quillwire/codec/PacketTypeAllowsPinLaw", "pick", "(I)Lcom/example/quillwire/quillwire/codec/PacketType;"⟩ : MethodName) (head1 (Jvm.Cond.code (⟨"com/example/quillwire/quillwire/codec/PacketTypeAllowsPinLaw", "pick", "(I)Lcom/example/quillwire/quillwire/codec/PacketType;"⟩ : MethodName) method_2_code 1 (some (.object "com/example/quillwire/quillwire/codec/PacketType")) :: ws) ({ frames := 0, cells := 0, slots := 0, locals := 0 } : Room)) (fun a U => a = #[(.int p1)] ∧ Z.Warmed39 U.vm ∧ U.heap = h0) (fun _ _ _ _ _ => True) (fun _ U o U' => ∃ v L, o = .returned v ∧ Q1_11 Z p1 w2 h0 n0 v U'.heap L ∧ FrameEnd U o U' L ({ frames := 0, cells := 0, slots := 0, locals := 0 } : Room).cells ({ frames := 0, cells := 0, slots := 0, locals := 0 } : Room).slots) := by
  refine MetFree.of_bodySF (plainFor_of_name pn_1) hisR ?_
  intro p e s m args below meth c s₁ Bd hml0 hP hK
  obtain ⟨rfl, hZ, hh⟩ := hP
  have hx := Bd.exec
  have hby := Bd.bytes
  have hml : c.maxLocals = 1 := hml0
  have hown : s.vm.findClass "com/example/quillwire/quillwire/codec/PacketTypeAllowsPinLaw" = some m.cls := findClass_of_methodNamed Bd.named
  have hnm := (name_of_methodNamed Bd.named Bd.method).1
  have X0 : Stand p l e ({ frames := 0, cells := 0, slots := 0, locals := 0 } : Room) s m #[(.int p1)] below meth c s₁ [] 0 0 := Stand.of_body Bd
  have e0 : s₁.heap = h0 := by rw [← hh, Bd.state]; rfl
  have N0 := Fr.nil n0
  have pre0 : ∀ t, Steps p.tables e below (s₁.setTop (mkF m 0 #[.val (.int p1)] [])) t → Steps p.tables e below (s₁.setTop (entryFrame m #[(.int p1)] 1)) t := fun t k => castTop (ef_1 m p1) k
  obtain ⟨T3, X3, e3, st3⟩ := getS2 X0 hx hZ hown (host := "") (Or.inl (hw _ (List.mem_of_getElem? (i := 29) rfl))) Via.refl e0 S_PINGREQ (g := (mkF m 109 #[.val (.int p1)] [])) rfl (hb hby d1_109)
  obtain ⟨fs, hr, hrun, hended, hW, hsame⟩ := X3.leave (v := some (.ref w2)) (fun h => by rw [Bd.returns] at h; cases h)
  refine ⟨_, _, pre0 _ ?_, hrun, hended, _, _, rfl, ?_, ⟨_, rfl⟩, hW, hsame.mono (by decide) (by decide)⟩
  · show Steps p.tables e below (s₁.setTop (mkF m 0 #[.val (.int p1)] [])) _
    refine XS.iloadN X0.here hx rfl (hb hby d1_0) rfl ?_
    show Steps p.tables e below (s₁.setTop (mkF m 1 #[.val (.int p1)] [(.int p1)])) _
    refine XS.ifYes X0.here hx rfl (pc0 := 1) (pc' := 8) rfl (hb hby d1_1) rfl ((if0 _ _).trans (feq hc1).2) (by decide) (by decide) ?_
    show Steps p.tables e below (s₁.setTop (mkF m 8 #[.val (.int p1)] [])) _
    refine XS.iloadN X0.here hx rfl (hb hby d1_8) rfl ?_
    show Steps p.tables e below (s₁.setTop (mkF m 9 #[.val (.int p1)] [(.int p1)])) _
    refine XS.iconst X0.here hx rfl (hb hby d1_9) ?_
    show Steps p.tables e below (s₁.setTop (mkF m 10 #[.val (.int p1)] [(.int (1 : Int32)), (.int p1)])) _
    refine XS.icmpYes X0.here hx rfl (pc0 := 10) (pc' := 17) rfl (hb hby d1_10) rfl (feq hc10).2 (by decide) (by decide) ?_
    show Steps p.tables e below (s₁.setTop (mkF m 17 #[.val (.int p1)] [])) _
    refine XS.iloadN X0.here hx rfl (hb hby d1_17) rfl ?_
    show Steps p.tables e below (s₁.setTop (mkF m 18 #[.val (.int p1)] [(.int p1)])) _
    refine XS.iconst X0.here hx rfl (hb hby d1_18) ?_
    show Steps p.tables e below (s₁.setTop (mkF m 19 #[.val (.int p1)] [(.int (2 : Int32)), (.int p1)])) _
    refine XS.icmpYes X0.here hx rfl (pc0 := 19) (pc' := 26) rfl (hb hby d1_19) rfl (feq hc19).2 (by decide) (by decide) ?_
    show Steps p.tables e below (s₁.setTop (mkF m 26 #[.val (.int p1)] [])) _
    refine XS.iloadN X0.here hx rfl (hb hby d1_26) rfl ?_
    show Steps p.tables e below (s₁.setTop (mkF m 27 #[.val (.int p1)] [(.int p1)])) _
    refine XS.iconst X0.here hx rfl (hb hby d1_27) ?_
    show Steps p.tables e below (s₁.setTop (mkF m 28 #[.val (.int p1)] [(.int (3 : Int32)), (.int p1)])) _
    refine XS.icmpYes X0.here hx rfl (pc0 := 28) (pc' := 35) rfl (hb hby d1_28) rfl (feq hc28).2 (by decide) (by decide) ?_
    show Steps p.tables e below (s₁.setTop (mkF m 35 #[.val (.int p1)] [])) _
    refine XS.iloadN X0.here hx rfl (hb hby d1_35) rfl ?_
    show Steps p.tables e below (s₁.setTop (mkF m 36 #[.val (.int p1)] [(.int p1)])) _
    refine XS.iconst X0.here hx rfl (hb hby d1_36) ?_
    show Steps p.tables e below (s₁.setTop (mkF m 37 #[.val (.int p1)] [(.int (4 : Int32)), (.int p1)])) _
    refine XS.icmpYes X0.here hx rfl (pc0 := 37) (pc' := 44) rfl (hb hby d1_37) rfl (feq hc37).2 (by decide) (by decide) ?_
    show Steps p.tables e below (s₁.setTop (mkF m 44 #[.val (.int p1)] [])) _
    refine XS.iloadN X0.here hx rfl (hb hby d1_44) rfl ?_
    show Steps p.tables e below (s₁.setTop (mkF m 45 #[.val (.int p1)] [(.int p1)])) _
    refine XS.iconst X0.here hx rfl (hb hby d1_45) ?_
    show Steps p.tables e below (s₁.setTop (mkF m 46 #[.val (.int p1)] [(.int (5 : Int32)), (.int p1)])) _
    refine XS.icmpYes X0.here hx rfl (pc0 := 46) (pc' := 53) rfl (hb hby d1_46) rfl (feq hc46).2 (by decide) (by decide) ?_
    show Steps p.tables e below (s₁.setTop (mkF m 53 #[.val (.int p1)] [])) _
    refine XS.iloadN X0.here hx rfl (hb hby d1_53) rfl ?_
    show Steps p.tables e below (s₁.setTop (mkF m 54 #[.val (.int p1)] [(.int p1)])) _
    refine XS.bipush X0.here hx rfl (hb hby d1_54) ?_
    show Steps p.tables e below (s₁.setTop (mkF m 56 #[.val (.int p1)] [(.int (6 : Int32)), (.int p1)])) _
    refine XS.icmpYes X0.here hx rfl (pc0 := 56) (pc' := 63) rfl (hb hby d1_56) rfl (feq hc56).2 (by decide) (by decide) ?_
    show Steps p.tables e below (s₁.setTop (mkF m 63 #[.val (.int p1)] [])) _
    refine XS.iloadN X0.here hx rfl (hb hby d1_63) rfl ?_
    show Steps p.tables e below (s₁.setTop (mkF m 64 #[.val (.int p1)] [(.int p1)])) _
    refine XS.bipush X0.here hx rfl (hb hby d1_64) ?_
    show Steps p.tables e below (s₁.setTop (mkF m 66 #[.val (.int p1)] [(.int (7 : Int32)), (.int p1)])) _
    refine XS.icmpYes X0.here hx rfl (pc0 := 66) (pc' := 73) rfl (hb hby d1_66) rfl (feq hc66).2 (by decide) (by decide) ?_
    show Steps p.tables e below (s₁.setTop (mkF m 73 #[.val (.int p1)] [])) _
    refine XS.iloadN X0.here hx rfl (hb hby d1_73) rfl ?_
    show Steps p.tables e below (s₁.setTop (mkF m 74 #[.val (.int p1)] [(.int p1)])) _
    refine XS.bipush X0.here hx rfl (hb hby d1_74) ?_
    show Steps p.tables e below (s₁.setTop (mkF m 76 #[.val (.int p1)] [(.int (8 : Int32)), (.int p1)])) _
    refine XS.icmpYes X0.here hx rfl (pc0 := 76) (pc' := 83) rfl (hb hby d1_76) rfl (feq hc76).2 (by decide) (by decide) ?_
    show Steps p.tables e below (s₁.setTop (mkF m 83 #[.val (.int p1)] [])) _
    refine XS.iloadN X0.here hx rfl (hb hby d1_83) rfl ?_
    show Steps p.tables e below (s₁.setTop (mkF m 84 #[.val (.int p1)] [(.int p1)])) _
    refine XS.bipush X0.here hx rfl (hb hby d1_84) ?_
    show Steps p.tables e below (s₁.setTop (mkF m 86 #[.val (.int p1)] [(.int (9 : Int32)), (.int p1)])) _
    refine XS.icmpYes X0.here hx rfl (pc0 := 86) (pc' := 93) rfl (hb hby d1_86) rfl (feq hc86).2 (by decide) (by decide) ?_
    show Steps p.tables e below (s₁.setTop (mkF m 93 #[.val (.int p1)] [])) _
    refine XS.iloadN X0.here hx rfl (hb hby d1_93) rfl ?_
    show Steps p.tables e below (s₁.setTop (mkF m 94 #[.val (.int p1)] [(.int p1)])) _
    refine XS.bipush X0.here hx rfl (hb hby d1_94) ?_
    show Steps p.tables e below (s₁.setTop (mkF m 96 #[.val (.int p1)] [(.int (10 : Int32)), (.int p1)])) _
    refine XS.icmpYes X0.here hx rfl (pc0 := 96) (pc' := 103) rfl (hb hby d1_96) rfl (feq hc96).2 (by decide) (by decide) ?_
    show Steps p.tables e below (s₁.setTop (mkF m 103 #[.val (.int p1)] [])) _
    refine XS.iloadN X0.here hx rfl (hb hby d1_103) rfl ?_
    show Steps p.tables e below (s₁.setTop (mkF m 104 #[.val (.int p1)] [(.int p1)])) _
    refine XS.bipush X0.here hx rfl (hb hby d1_104) ?_
    show Steps p.tables e below (s₁.setTop (mkF m 106 #[.val (.int p1)] [(.int (11 : Int32)), (.int p1)])) _
    refine XS.icmpNo X0.here hx rfl (hb hby d1_106) rfl (teq hc106).2 ?_
    show Steps p.tables e below (s₁.setTop (mkF m 109 #[.val (.int p1)] [])) _
    refine st3 _ ?_
    show Steps p.tables e below (T3.setTop (mkF m 112 #[.val (.int p1)] [(.ref w2)])) _
    jvm_step X3.here [X3.here.top, hx, (hb hby d1_112), X3.method', Bd.returns, Value.isRef, FieldType.isReference]
    first | (intro acts; rw [hr _ acts rfl rfl rfl]) | rw [hr _ _ rfl rfl rfl]
    exact Steps.refl _
  · show Q1_11 Z p1 w2 h0 n0 _ T3.heap _
    rw [e3]
    exact ⟨rfl, N0, rfl⟩
theorem d1_113 : decode method_2_code 113 = .ok (.iload_n 0, 1) := by decide +kernel
theorem d1_114 : decode method_2_code 114 = .ok (.bipush 12, 2) := by decide +kernel
theorem d1_116 : decode method_2_code 116 = .ok (.if_icmp .ne 7, 3) := by decide +kernel
theorem d1_119 : decode method_2_code 119 = .ok (.getstatic 46, 3) := by decide +kernel
theorem d1_122 : decode method_2_code 122 = .ok (.areturn, 1) := by decide +kernel
def Q1_12 (Z : State) (p1 : Int32) (w2 : Addr) (h0 : Heap) (n0 : Nat) (v : Option Value) (h : Heap) (L : List Loc) : Prop := v = some (.ref w2) ∧ Fr n0 L ∧ h = h0
set_option maxRecDepth 65536 in
set_option maxHeartbeats 40000000 in
theorem rm1_12 (l : Launch) (Z : State) (a0 : Array Value) (hw : ∀ d ∈ tables_1, d.before a0 Z = true) (ws : List Jvm.Cond) (p1 : Int32) (w2 : Addr) (h0 : Heap) (n0 : Nat) (Z0 : n0 ≤ h0.size) (S_PINGRESP : Sta Z h0 "com/example/quillwire/quillwire/codec/PacketType" "PINGRESP" "Lcom/example/quillwire/quillwire/codec/PacketType;" (.ref w2)) (hc1 : ¬ (p1 = (0 : Int32))) (hc10 : ¬ (p1 = (1 : Int32))) (hc19 : ¬ (p1 = (2 : Int32))) (hc28 : ¬ (p1 = (3 : Int32))) (hc37 : ¬ (p1 = (4 : Int32))) (hc46 : ¬ (p1 = (5 : Int32))) (hc56 : ¬ (p1 = (6 : Int32))) (hc66 : ¬ (p1 = (7 : Int32))) (hc76 : ¬ (p1 = (8 : Int32))) (hc86 : ¬ (p1 = (9 : Int32))) (hc96 : ¬ (p1 = (10 : Int32))) (hc106 : ¬ (p1 = (11 : Int32))) (hc116 : p1 = (12 : Int32)) :
    MetFree l (⟨"com/example/quillwire/quillwire/codec/PacketTypeAllowsPinLaw", "pick", "(I)Lcom/example/quillwire/quillwire/codec/PacketType;"⟩ : MethodName) (head1 (Jvm.Cond.code (⟨"com/example/quillwire/quillwire/codec/PacketTypeAllowsPinLaw", "pick", "(I)Lcom/example/quillwire/quillwire/codec/PacketType;"⟩ : MethodName) method_2_code 1 (some (.object "com/example/quillwire/quillwire/codec/PacketType")) :: ws) ({ frames := 0, cells := 0, slots := 0, locals := 0 } : Room)) (fun a U => a = #[(.int p1)] ∧ Z.Warmed39 U.vm ∧ U.heap = h0) (fun _ _ _ _ _ => True) (fun _ U o U' => ∃ v L, o = .returned v ∧ Q1_12 Z p1 w2 h0 n0 v U'.heap L ∧ FrameEnd U o U' L ({ frames := 0, cells := 0, slots := 0, locals := 0 } : Room).cells ({ frames := 0, cells := 0, slots := 0, locals := 0 } : Room).slots) := by
  refine MetFree.of_bodySF (plainFor_of_name pn_1) hisR ?_
  intro p e s m args below meth c s₁ Bd hml0 hP hK
  obtain ⟨rfl, hZ, hh⟩ := hP
  have hx := Bd.exec
  have hby := Bd.bytes
  have hml : c.maxLocals = 1 := hml0
  have hown : s.vm.findClass "com/example/quillwire/quillwire/codec/PacketTypeAllowsPinLaw" = some m.cls := findClass_of_methodNamed Bd.named
  have hnm := (name_of_methodNamed Bd.named Bd.method).1
  have X0 : Stand p l e ({ frames := 0, cells := 0, slots := 0, locals := 0 } : Room) s m #[(.int p1)] below meth c s₁ [] 0 0 := Stand.of_body Bd
  have e0 : s₁.heap = h0 := by rw [← hh, Bd.state]; rfl
  have N0 := Fr.nil n0
  have pre0 : ∀ t, Steps p.tables e below (s₁.setTop (mkF m 0 #[.val (.int p1)] [])) t → Steps p.tables e below (s₁.setTop (entryFrame m #[(.int p1)] 1)) t := fun t k => castTop (ef_1 m p1) k
  obtain ⟨T3, X3, e3, st3⟩ := getS2 X0 hx hZ hown (host := "") (Or.inl (hw _ (List.mem_of_getElem? (i := 15) rfl))) Via.refl e0 S_PINGRESP (g := (mkF m 119 #[.val (.int p1)] [])) rfl (hb hby d1_119)
  obtain ⟨fs, hr, hrun, hended, hW, hsame⟩ := X3.leave (v := some (.ref w2)) (fun h => by rw [Bd.returns] at h; cases h)
  refine ⟨_, _, pre0 _ ?_, hrun, hended, _, _, rfl, ?_, ⟨_, rfl⟩, hW, hsame.mono (by decide) (by decide)⟩
  · show Steps p.tables e below (s₁.setTop (mkF m 0 #[.val (.int p1)] [])) _
    refine XS.iloadN X0.here hx rfl (hb hby d1_0) rfl ?_
    show Steps p.tables e below (s₁.setTop (mkF m 1 #[.val (.int p1)] [(.int p1)])) _
    refine XS.ifYes X0.here hx rfl (pc0 := 1) (pc' := 8) rfl (hb hby d1_1) rfl ((if0 _ _).trans (feq hc1).2) (by decide) (by decide) ?_
    show Steps p.tables e below (s₁.setTop (mkF m 8 #[.val (.int p1)] [])) _
    refine XS.iloadN X0.here hx rfl (hb hby d1_8) rfl ?_
    show Steps p.tables e below (s₁.setTop (mkF m 9 #[.val (.int p1)] [(.int p1)])) _
    refine XS.iconst X0.here hx rfl (hb hby d1_9) ?_
    show Steps p.tables e below (s₁.setTop (mkF m 10 #[.val (.int p1)] [(.int (1 : Int32)), (.int p1)])) _
    refine XS.icmpYes X0.here hx rfl (pc0 := 10) (pc' := 17) rfl (hb hby d1_10) rfl (feq hc10).2 (by decide) (by decide) ?_
    show Steps p.tables e below (s₁.setTop (mkF m 17 #[.val (.int p1)] [])) _
    refine XS.iloadN X0.here hx rfl (hb hby d1_17) rfl ?_
    show Steps p.tables e below (s₁.setTop (mkF m 18 #[.val (.int p1)] [(.int p1)])) _
    refine XS.iconst X0.here hx rfl (hb hby d1_18) ?_
    show Steps p.tables e below (s₁.setTop (mkF m 19 #[.val (.int p1)] [(.int (2 : Int32)), (.int p1)])) _
    refine XS.icmpYes X0.here hx rfl (pc0 := 19) (pc' := 26) rfl (hb hby d1_19) rfl (feq hc19).2 (by decide) (by decide) ?_
    show Steps p.tables e below (s₁.setTop (mkF m 26 #[.val (.int p1)] [])) _
    refine XS.iloadN X0.here hx rfl (hb hby d1_26) rfl ?_
    show Steps p.tables e below (s₁.setTop (mkF m 27 #[.val (.int p1)] [(.int p1)])) _
    refine XS.iconst X0.here hx rfl (hb hby d1_27) ?_
    show Steps p.tables e below (s₁.setTop (mkF m 28 #[.val (.int p1)] [(.int (3 : Int32)), (.int p1)])) _
    refine XS.icmpYes X0.here hx rfl (pc0 := 28) (pc' := 35) rfl (hb hby d1_28) rfl (feq hc28).2 (by decide) (by decide) ?_
    show Steps p.tables e below (s₁.setTop (mkF m 35 #[.val (.int p1)] [])) _
    refine XS.iloadN X0.here hx rfl (hb hby d1_35) rfl ?_
    show Steps p.tables e below (s₁.setTop (mkF m 36 #[.val (.int p1)] [(.int p1)])) _
    refine XS.iconst X0.here hx rfl (hb hby d1_36) ?_
    show Steps p.tables e below (s₁.setTop (mkF m 37 #[.val (.int p1)] [(.int (4 : Int32)), (.int p1)])) _
    refine XS.icmpYes X0.here hx rfl (pc0 := 37) (pc' := 44) rfl (hb hby d1_37) rfl (feq hc37).2 (by decide) (by decide) ?_
    show Steps p.tables e below (s₁.setTop (mkF m 44 #[.val (.int p1)] [])) _
    refine XS.iloadN X0.here hx rfl (hb hby d1_44) rfl ?_
    show Steps p.tables e below (s₁.setTop (mkF m 45 #[.val (.int p1)] [(.int p1)])) _
    refine XS.iconst X0.here hx rfl (hb hby d1_45) ?_
    show Steps p.tables e below (s₁.setTop (mkF m 46 #[.val (.int p1)] [(.int (5 : Int32)), (.int p1)])) _
    refine XS.icmpYes X0.here hx rfl (pc0 := 46) (pc' := 53) rfl (hb hby d1_46) rfl (feq hc46).2 (by decide) (by decide) ?_
    show Steps p.tables e below (s₁.setTop (mkF m 53 #[.val (.int p1)] [])) _
    refine XS.iloadN X0.here hx rfl (hb hby d1_53) rfl ?_
    show Steps p.tables e below (s₁.setTop (mkF m 54 #[.val (.int p1)] [(.int p1)])) _
    refine XS.bipush X0.here hx rfl (hb hby d1_54) ?_
    show Steps p.tables e below (s₁.setTop (mkF m 56 #[.val (.int p1)] [(.int (6 : Int32)), (.int p1)])) _
    refine XS.icmpYes X0.here hx rfl (pc0 := 56) (pc' := 63) rfl (hb hby d1_56) rfl (feq hc56).2 (by decide) (by decide) ?_
    show Steps p.tables e below (s₁.setTop (mkF m 63 #[.val (.int p1)] [])) _
    refine XS.iloadN X0.here hx rfl (hb hby d1_63) rfl ?_
    show Steps p.tables e below (s₁.setTop (mkF m 64 #[.val (.int p1)] [(.int p1)])) _
    refine XS.bipush X0.here hx rfl (hb hby d1_64) ?_
    show Steps p.tables e below (s₁.setTop (mkF m 66 #[.val (.int p1)] [(.int (7 : Int32)), (.int p1)])) _
    refine XS.icmpYes X0.here hx rfl (pc0 := 66) (pc' := 73) rfl (hb hby d1_66) rfl (feq hc66).2 (by decide) (by decide) ?_
    show Steps p.tables e below (s₁.setTop (mkF m 73 #[.val (.int p1)] [])) _
    refine XS.iloadN X0.here hx rfl (hb hby d1_73) rfl ?_
    show Steps p.tables e below (s₁.setTop (mkF m 74 #[.val (.int p1)] [(.int p1)])) _
    refine XS.bipush X0.here hx rfl (hb hby d1_74) ?_
    show Steps p.tables e below (s₁.setTop (mkF m 76 #[.val (.int p1)] [(.int (8 : Int32)), (.int p1)])) _
    refine XS.icmpYes X0.here hx rfl (pc0 := 76) (pc' := 83) rfl (hb hby d1_76) rfl (feq hc76).2 (by decide) (by decide) ?_
    show Steps p.tables e below (s₁.setTop (mkF m 83 #[.val (.int p1)] [])) _
    refine XS.iloadN X0.here hx rfl (hb hby d1_83) rfl ?_
    show Steps p.tables e below (s₁.setTop (mkF m 84 #[.val (.int p1)] [(.int p1)])) _
    refine XS.bipush X0.here hx rfl (hb hby d1_84) ?_
    show Steps p.tables e below (s₁.setTop (mkF m 86 #[.val (.int p1)] [(.int (9 : Int32)), (.int p1)])) _
    refine XS.icmpYes X0.here hx rfl (pc0 := 86) (pc' := 93) rfl (hb hby d1_86) rfl (feq hc86).2 (by decide) (by decide) ?_
    show Steps p.tables e below (s₁.setTop (mkF m 93 #[.val (.int p1)] [])) _
    refine XS.iloadN X0.here hx rfl (hb hby d1_93) rfl ?_
    show Steps p.tables e below (s₁.setTop (mkF m 94 #[.val (.int p1)] [(.int p1)])) _
    refine XS.bipush X0.here hx rfl (hb hby d1_94) ?_
    show Steps p.tables e below (s₁.setTop (mkF m 96 #[.val (.int p1)] [(.int (10 : Int32)), (.int p1)])) _
    refine XS.icmpYes X0.here hx rfl (pc0 := 96) (pc' := 103) rfl (hb hby d1_96) rfl (feq hc96).2 (by decide) (by decide) ?_
    show Steps p.tables e below (s₁.setTop (mkF m 103 #[.val (.int p1)] [])) _
    refine XS.iloadN X0.here hx rfl (hb hby d1_103) rfl ?_
    show Steps p.tables e below (s₁.setTop (mkF m 104 #[.val (.int p1)] [(.int p1)])) _
    refine XS.bipush X0.here hx rfl (hb hby d1_104) ?_
    show Steps p.tables e below (s₁.setTop (mkF m 106 #[.val (.int p1)] [(.int (11 : Int32)), (.int p1)])) _
    refine XS.icmpYes X0.here hx rfl (pc0 := 106) (pc' := 113) rfl (hb hby d1_106) rfl (feq hc106).2 (by decide) (by decide) ?_
    show Steps p.tables e below (s₁.setTop (mkF m 113 #[.val (.int p1)] [])) _
    refine XS.iloadN X0.here hx rfl (hb hby d1_113) rfl ?_
    show Steps p.tables e below (s₁.setTop (mkF m 114 #[.val (.int p1)] [(.int p1)])) _
    refine XS.bipush X0.here hx rfl (hb hby d1_114) ?_
    show Steps p.tables e below (s₁.setTop (mkF m 116 #[.val (.int p1)] [(.int (12 : Int32)), (.int p1)])) _
    refine XS.icmpNo X0.here hx rfl (hb hby d1_116) rfl (teq hc116).2 ?_
    show Steps p.tables e below (s₁.setTop (mkF m 119 #[.val (.int p1)] [])) _
    refine st3 _ ?_
    show Steps p.tables e below (T3.setTop (mkF m 122 #[.val (.int p1)] [(.ref w2)])) _
    jvm_step X3.here [X3.here.top, hx, (hb hby d1_122), X3.method', Bd.returns, Value.isRef, FieldType.isReference]
    first | (intro acts; rw [hr _ acts rfl rfl rfl]) | rw [hr _ _ rfl rfl rfl]
    exact Steps.refl _
  · show Q1_12 Z p1 w2 h0 n0 _ T3.heap _
    rw [e3]
    exact ⟨rfl, N0, rfl⟩
theorem d1_123 : decode method_2_code 123 = .ok (.getstatic 49, 3) := by decide +kernel
theorem d1_126 : decode method_2_code 126 = .ok (.areturn, 1) := by decide +kernel
def Q1_13 (Z : State) (p1 : Int32) (w2 : Addr) (h0 : Heap) (n0 : Nat) (v : Option Value) (h : Heap) (L : List Loc) : Prop := v = some (.ref w2) ∧ Fr n0 L ∧ h = h0
set_option maxRecDepth 65536 in
set_option maxHeartbeats 40000000 in
theorem rm1_13 (l : Launch) (Z : State) (a0 : Array Value) (hw : ∀ d ∈ tables_1, d.before a0 Z = true) (ws : List Jvm.Cond) (p1 : Int32) (w2 : Addr) (h0 : Heap) (n0 : Nat) (Z0 : n0 ≤ h0.size) (S_DISCONNECT : Sta Z h0 "com/example/quillwire/quillwire/codec/PacketType" "DISCONNECT" "Lcom/example/quillwire/quillwire/codec/PacketType;" (.ref w2)) (hc1 : ¬ (p1 = (0 : Int32))) (hc10 : ¬ (p1 = (1 : Int32))) (hc19 : ¬ (p1 = (2 : Int32))) (hc28 : ¬ (p1 = (3 : Int32))) (hc37 : ¬ (p1 = (4 : Int32))) (hc46 : ¬ (p1 = (5 : Int32))) (hc56 : ¬ (p1 = (6 : Int32))) (hc66 : ¬ (p1 = (7 : Int32))) (hc76 : ¬ (p1 = (8 : Int32))) (hc86 : ¬ (p1 = (9 : Int32))) (hc96 : ¬ (p1 = (10 : Int32))) (hc106 : ¬ (p1 = (11 : Int32))) (hc116 : ¬ (p1 = (12 : Int32))) :
    MetFree l (⟨"com/example/quillwire/quillwire/codec/PacketTypeAllowsPinLaw", "pick", "(I)Lcom/example/quillwire/quillwire/codec/PacketType;"⟩ : MethodName) (head1 (Jvm.Cond.code (⟨"com/example/quillwire/quillwire/codec/PacketTypeAllowsPinLaw", "pick", "(I)Lcom/example/quillwire/quillwire/codec/PacketType;"⟩ : MethodName) method_2_code 1 (some (.object "com/example/quillwire/quillwire/codec/PacketType")) :: ws) ({ frames := 0, cells := 0, slots := 0, locals := 0 } : Room)) (fun a U => a = #[(.int p1)] ∧ Z.Warmed39 U.vm ∧ U.heap = h0) (fun _ _ _ _ _ => True) (fun _ U o U' => ∃ v L, o = .returned v ∧ Q1_13 Z p1 w2 h0 n0 v U'.heap L ∧ FrameEnd U o U' L ({ frames := 0, cells := 0, slots := 0, locals := 0 } : Room).cells ({ frames := 0, cells := 0, slots := 0, locals := 0 } : Room).slots) := by
  refine MetFree.of_bodySF (plainFor_of_name pn_1) hisR ?_
  intro p e s m args below meth c s₁ Bd hml0 hP hK
  obtain ⟨rfl, hZ, hh⟩ := hP
  have hx := Bd.exec
  have hby := Bd.bytes
  have hml : c.maxLocals = 1 := hml0
  have hown : s.vm.findClass "com/example/quillwire/quillwire/codec/PacketTypeAllowsPinLaw" = some m.cls := findClass_of_methodNamed Bd.named
  have hnm := (name_of_methodNamed Bd.named Bd.method).1
  have X0 : Stand p l e ({ frames := 0, cells := 0, slots := 0, locals := 0 } : Room) s m #[(.int p1)] below meth c s₁ [] 0 0 := Stand.of_body Bd
  have e0 : s₁.heap = h0 := by rw [← hh, Bd.state]; rfl
  have N0 := Fr.nil n0
  have pre0 : ∀ t, Steps p.tables e below (s₁.setTop (mkF m 0 #[.val (.int p1)] [])) t → Steps p.tables e below (s₁.setTop (entryFrame m #[(.int p1)] 1)) t := fun t k => castTop (ef_1 m p1) k
  obtain ⟨T3, X3, e3, st3⟩ := getS2 X0 hx hZ hown (host := "") (Or.inl (hw _ (List.mem_of_getElem? (i := 33) rfl))) Via.refl e0 S_DISCONNECT (g := (mkF m 123 #[.val (.int p1)] [])) rfl (hb hby d1_123)
  obtain ⟨fs, hr, hrun, hended, hW, hsame⟩ := X3.leave (v := some (.ref w2)) (fun h => by rw [Bd.returns] at h; cases h)
  refine ⟨_, _, pre0 _ ?_, hrun, hended, _, _, rfl, ?_, ⟨_, rfl⟩, hW, hsame.mono (by decide) (by decide)⟩
  · show Steps p.tables e below (s₁.setTop (mkF m 0 #[.val (.int p1)] [])) _
    refine XS.iloadN X0.here hx rfl (hb hby d1_0) rfl ?_
    show Steps p.tables e below (s₁.setTop (mkF m 1 #[.val (.int p1)] [(.int p1)])) _
    refine XS.ifYes X0.here hx rfl (pc0 := 1) (pc' := 8) rfl (hb hby d1_1) rfl ((if0 _ _).trans (feq hc1).2) (by decide) (by decide) ?_
    show Steps p.tables e below (s₁.setTop (mkF m 8 #[.val (.int p1)] [])) _
    refine XS.iloadN X0.here hx rfl (hb hby d1_8) rfl ?_
    show Steps p.tables e below (s₁.setTop (mkF m 9 #[.val (.int p1)] [(.int p1)])) _
    refine XS.iconst X0.here hx rfl (hb hby d1_9) ?_
    show Steps p.tables e below (s₁.setTop (mkF m 10 #[.val (.int p1)] [(.int (1 : Int32)), (.int p1)])) _
    refine XS.icmpYes X0.here hx rfl (pc0 := 10) (pc' := 17) rfl (hb hby d1_10) rfl (feq hc10).2 (by decide) (by decide) ?_
    show Steps p.tables e below (s₁.setTop (mkF m 17 #[.val (.int p1)] [])) _
    refine XS.iloadN X0.here hx rfl (hb hby d1_17) rfl ?_
    show Steps p.tables e below (s₁.setTop (mkF m 18 #[.val (.int p1)] [(.int p1)])) _
    refine XS.iconst X0.here hx rfl (hb hby d1_18) ?_
    show Steps p.tables e below (s₁.setTop (mkF m 19 #[.val (.int p1)] [(.int (2 : Int32)), (.int p1)])) _
    refine XS.icmpYes X0.here hx rfl (pc0 := 19) (pc' := 26) rfl (hb hby d1_19) rfl (feq hc19).2 (by decide) (by decide) ?_
    show Steps p.tables e below (s₁.setTop (mkF m 26 #[.val (.int p1)] [])) _
    refine XS.iloadN X0.here hx rfl (hb hby d1_26) rfl ?_
    show Steps p.tables e below (s₁.setTop (mkF m 27 #[.val (.int p1)] [(.int p1)])) _
    refine XS.iconst X0.here hx rfl (hb hby d1_27) ?_
    show Steps p.tables e below (s₁.setTop (mkF m 28 #[.val (.int p1)] [(.int (3 : Int32)), (.int p1)])) _
    refine XS.icmpYes X0.here hx rfl (pc0 := 28) (pc' := 35) rfl (hb hby d1_28) rfl (feq hc28).2 (by decide) (by decide) ?_
    show Steps p.tables e below (s₁.setTop (mkF m 35 #[.val (.int p1)] [])) _
    refine XS.iloadN X0.here hx rfl (hb hby d1_35) rfl ?_
    show Steps p.tables e below (s₁.setTop (mkF m 36 #[.val (.int p1)] [(.int p1)])) _
    refine XS.iconst X0.here hx rfl (hb hby d1_36) ?_
    show Steps p.tables e below (s₁.setTop (mkF m 37 #[.val (.int p1)] [(.int (4 : Int32)), (.int p1)])) _
    refine XS.icmpYes X0.here hx rfl (pc0 := 37) (pc' := 44) rfl (hb hby d1_37) rfl (feq hc37).2 (by decide) (by decide) ?_
    show Steps p.tables e below (s₁.setTop (mkF m 44 #[.val (.int p1)] [])) _
    refine XS.iloadN X0.here hx rfl (hb hby d1_44) rfl ?_
    show Steps p.tables e below (s₁.setTop (mkF m 45 #[.val (.int p1)] [(.int p1)])) _
    refine XS.iconst X0.here hx rfl (hb hby d1_45) ?_
    show Steps p.tables e below (s₁.setTop (mkF m 46 #[.val (.int p1)] [(.int (5 : Int32)), (.int p1)])) _
    refine XS.icmpYes X0.here hx rfl (pc0 := 46) (pc' := 53) rfl (hb hby d1_46) rfl (feq hc46).2 (by decide) (by decide) ?_
    show Steps p.tables e below (s₁.setTop (mkF m 53 #[.val (.int p1)] [])) _
    refine XS.iloadN X0.here hx rfl (hb hby d1_53) rfl ?_
    show Steps p.tables e below (s₁.setTop (mkF m 54 #[.val (.int p1)] [(.int p1)])) _
    refine XS.bipush X0.here hx rfl (hb hby d1_54) ?_
    show Steps p.tables e below (s₁.setTop (mkF m 56 #[.val (.int p1)] [(.int (6 : Int32)), (.int p1)])) _
    refine XS.icmpYes X0.here hx rfl (pc0 := 56) (pc' := 63) rfl (hb hby d1_56) rfl (feq hc56).2 (by decide) (by decide) ?_
    show Steps p.tables e below (s₁.setTop (mkF m 63 #[.val (.int p1)] [])) _
    refine XS.iloadN X0.here hx rfl (hb hby d1_63) rfl ?_
    show Steps p.tables e below (s₁.setTop (mkF m 64 #[.val (.int p1)] [(.int p1)])) _
    refine XS.bipush X0.here hx rfl (hb hby d1_64) ?_
    show Steps p.tables e below (s₁.setTop (mkF m 66 #[.val (.int p1)] [(.int (7 : Int32)), (.int p1)])) _
    refine XS.icmpYes X0.here hx rfl (pc0 := 66) (pc' := 73) rfl (hb hby d1_66) rfl (feq hc66).2 (by decide) (by decide) ?_
    show Steps p.tables e below (s₁.setTop (mkF m 73 #[.val (.int p1)] [])) _
    refine XS.iloadN X0.here hx rfl (hb hby d1_73) rfl ?_
    show Steps p.tables e below (s₁.setTop (mkF m 74 #[.val (.int p1)] [(.int p1)])) _
    refine XS.bipush X0.here hx rfl (hb hby d1_74) ?_
    show Steps p.tables e below (s₁.setTop (mkF m 76 #[.val (.int p1)] [(.int (8 : Int32)), (.int p1)])) _
    refine XS.icmpYes X0.here hx rfl (pc0 := 76) (pc' := 83) rfl (hb hby d1_76) rfl (feq hc76).2 (by decide) (by decide) ?_
    show Steps p.tables e below (s₁.setTop (mkF m 83 #[.val (.int p1)] [])) _
    refine XS.iloadN X0.here hx rfl (hb hby d1_83) rfl ?_
    show Steps p.tables e below (s₁.setTop (mkF m 84 #[.val (.int p1)] [(.int p1)])) _
    refine XS.bipush X0.here hx rfl (hb hby d1_84) ?_
    show Steps p.tables e below (s₁.setTop (mkF m 86 #[.val (.int p1)] [(.int (9 : Int32)), (.int p1)])) _
    refine XS.icmpYes X0.here hx rfl (pc0 := 86) (pc' := 93) rfl (hb hby d1_86) rfl (feq hc86).2 (by decide) (by decide) ?_
    show Steps p.tables e below (s₁.setTop (mkF m 93 #[.val (.int p1)] [])) _
    refine XS.iloadN X0.here hx rfl (hb hby d1_93) rfl ?_
    show Steps p.tables e below (s₁.setTop (mkF m 94 #[.val (.int p1)] [(.int p1)])) _
    refine XS.bipush X0.here hx rfl (hb hby d1_94) ?_
    show Steps p.tables e below (s₁.setTop (mkF m 96 #[.val (.int p1)] [(.int (10 : Int32)), (.int p1)])) _
    refine XS.icmpYes X0.here hx rfl (pc0 := 96) (pc' := 103) rfl (hb hby d1_96) rfl (feq hc96).2 (by decide) (by decide) ?_
    show Steps p.tables e below (s₁.setTop (mkF m 103 #[.val (.int p1)] [])) _
    refine XS.iloadN X0.here hx rfl (hb hby d1_103) rfl ?_
    show Steps p.tables e below (s₁.setTop (mkF m 104 #[.val (.int p1)] [(.int p1)])) _
    refine XS.bipush X0.here hx rfl (hb hby d1_104) ?_
    show Steps p.tables e below (s₁.setTop (mkF m 106 #[.val (.int p1)] [(.int (11 : Int32)), (.int p1)])) _
    refine XS.icmpYes X0.here hx rfl (pc0 := 106) (pc' := 113) rfl (hb hby d1_106) rfl (feq hc106).2 (by decide) (by decide) ?_
    show Steps p.tables e below (s₁.setTop (mkF m 113 #[.val (.int p1)] [])) _
    refine XS.iloadN X0.here hx rfl (hb hby d1_113) rfl ?_
    show Steps p.tables e below (s₁.setTop (mkF m 114 #[.val (.int p1)] [(.int p1)])) _
    refine XS.bipush X0.here hx rfl (hb hby d1_114) ?_
    show Steps p.tables e below (s₁.setTop (mkF m 116 #[.val (.int p1)] [(.int (12 : Int32)), (.int p1)])) _
    refine XS.icmpYes X0.here hx rfl (pc0 := 116) (pc' := 123) rfl (hb hby d1_116) rfl (feq hc116).2 (by decide) (by decide) ?_
    show Steps p.tables e below (s₁.setTop (mkF m 123 #[.val (.int p1)] [])) _
    refine st3 _ ?_
    show Steps p.tables e below (T3.setTop (mkF m 126 #[.val (.int p1)] [(.ref w2)])) _
    jvm_step X3.here [X3.here.top, hx, (hb hby d1_126), X3.method', Bd.returns, Value.isRef, FieldType.isReference]
    first | (intro acts; rw [hr _ acts rfl rfl rfl]) | rw [hr _ _ rfl rfl rfl]
    exact Steps.refl _
  · show Q1_13 Z p1 w2 h0 n0 _ T3.heap _
    rw [e3]
    exact ⟨rfl, N0, rfl⟩
theorem d2_0 : decode prog_52_method_7_code 0 = .ok (.aload_n 0, 1) := by decide +kernel
theorem d2_1 : decode prog_52_method_7_code 1 = .ok (.getfield 72, 3) := by decide +kernel
theorem d2_4 : decode prog_52_method_7_code 4 = .ok (.iconst (-1), 1) := by decide +kernel
theorem d2_5 : decode prog_52_method_7_code 5 = .ok (.if_icmp .eq 30, 3) := by decide +kernel
theorem d2_35 : decode prog_52_method_7_code 35 = .ok (.iconst 1, 1) := by decide +kernel
theorem d2_36 : decode prog_52_method_7_code 36 = .ok (.goto 4, 3) := by decide +kernel
theorem d2_40 : decode prog_52_method_7_code 40 = .ok (.ireturn, 1) := by decide +kernel
theorem pn_2 : plainName "com/example/quillwire/quillwire/codec/PacketType" = true := by first | (simp [plainName, overriddenIn]; done) | decide +kernel
theorem ef_2 (m : MethodId) (x0 : Addr) (x1 : Int32) (x2 : Int32) : entryFrame m #[(.ref x0), (.int x1), (.int x2)] 3 = mkF m 0 #[.val (.ref x0), .val (.int x1), .val (.int x2)] [] := by first | (simp [entryFrame, mkF, argsToLocals, Value.category]; done) | rfl
def Q2_t (Z : State) (a1 : Addr) (p2 : Int32) (p3 : Int32) (w4 : Int32) (h0 : Heap) (n0 : Nat) (v : Option Value) (h : Heap) (L : List Loc) : Prop := v = some (.int (1 : Int32)) ∧ Fr n0 L ∧ h = h0
set_option maxRecDepth 65536 in
set_option maxHeartbeats 40000000 in
theorem rm2_t (l : Launch) (Z : State) (a0 : Array Value) (hw : ∀ d ∈ tables_1, d.before a0 Z = true) (ws : List Jvm.Cond) (a1 : Addr) (p2 : Int32) (p3 : Int32) (w4 : Int32) (h0 : Heap) (n0 : Nat) (Z0 : n0 ≤ h0.size) (F_flags_a1 : Fld Z h0 a1 "com/example/quillwire/quillwire/codec/PacketType" "flags" "I" (.int w4)) (hc5 : w4 = (-1 : Int32)) :
    MetFree l (⟨"com/example/quillwire/quillwire/codec/PacketType", "allows", "(II)Z"⟩ : MethodName) (head1 (Jvm.Cond.code (⟨"com/example/quillwire/quillwire/codec/PacketType", "allows", "(II)Z"⟩ : MethodName) prog_52_method_7_code 3 (some .boolean) :: ws) ({ frames := 0, cells := 0, slots := 0, locals := 0 } : Room)) (fun a U => a = #[(.ref a1), (.int p2), (.int p3)] ∧ Z.Warmed39 U.vm ∧ U.heap = h0) (fun _ _ _ _ _ => True) (fun _ U o U' => ∃ v L, o = .returned v ∧ Q2_t Z a1 p2 p3 w4 h0 n0 v U'.heap L ∧ FrameEnd U o U' L ({ frames := 0, cells := 0, slots := 0, locals := 0 } : Room).cells ({ frames := 0, cells := 0, slots := 0, locals := 0 } : Room).slots) := by
  refine MetFree.of_bodySF (plainFor_of_name pn_2) hisR ?_
  intro p e s m args below meth c s₁ Bd hml0 hP hK
  obtain ⟨rfl, hZ, hh⟩ := hP
  have hx := Bd.exec
  have hby := Bd.bytes
  have hml : c.maxLocals = 3 := hml0
  have hown : s.vm.findClass "com/example/quillwire/quillwire/codec/PacketType" = some m.cls := findClass_of_methodNamed Bd.named
  have hnm := (name_of_methodNamed Bd.named Bd.method).1
  have X0 : Stand p l e ({ frames := 0, cells := 0, slots := 0, locals := 0 } : Room) s m #[(.ref a1), (.int p2), (.int p3)] below meth c s₁ [] 0 0 := Stand.of_body Bd
  have e0 : s₁.heap = h0 := by rw [← hh, Bd.state]; rfl
  have N0 := Fr.nil n0
  have pre0 : ∀ t, Steps p.tables e below (s₁.setTop (mkF m 0 #[.val (.ref a1), .val (.int p2), .val (.int p3)] [])) t → Steps p.tables e below (s₁.setTop (entryFrame m #[(.ref a1), (.int p2), (.int p3)] 3)) t := fun t k => castTop (ef_2 m a1 p2 p3) k
  obtain ⟨T5, X5, e5, st5⟩ := getF X0 hx hZ hown (host := "") (Or.inl (hw _ (List.mem_of_getElem? (i := 13) rfl))) Via.refl e0 F_flags_a1 (g := (mkF m 1 #[.val (.ref a1), .val (.int p2), .val (.int p3)] [(.ref a1)])) rfl rfl (hb hby d2_1)
  obtain ⟨fs, hr, hrun, hended, hW, hsame⟩ := X5.leave (v := some (.int (1 : Int32))) (fun h => by rw [Bd.returns] at h; cases h)
  refine ⟨_, _, pre0 _ ?_, hrun, hended, _, _, rfl, ?_, ⟨_, rfl⟩, hW, hsame.mono (by decide) (by decide)⟩
  · show Steps p.tables e below (s₁.setTop (mkF m 0 #[.val (.ref a1), .val (.int p2), .val (.int p3)] [])) _
    refine XS.aloadN X0.here hx rfl (hb hby d2_0) rfl rfl ?_
    show Steps p.tables e below (s₁.setTop (mkF m 1 #[.val (.ref a1), .val (.int p2), .val (.int p3)] [(.ref a1)])) _
    refine st5 _ ?_
    show Steps p.tables e below (T5.setTop (mkF m 4 #[.val (.ref a1), .val (.int p2), .val (.int p3)] [(.int w4)])) _
    refine XS.iconst X5.here hx rfl (hb hby d2_4) ?_
    show Steps p.tables e below (T5.setTop (mkF m 5 #[.val (.ref a1), .val (.int p2), .val (.int p3)] [(.int (-1 : Int32)), (.int w4)])) _
    refine XS.icmpYes X5.here hx rfl (pc0 := 5) (pc' := 35) rfl (hb hby d2_5) rfl (teq hc5).1 (by decide) (by decide) ?_
    show Steps p.tables e below (T5.setTop (mkF m 35 #[.val (.ref a1), .val (.int p2), .val (.int p3)] [])) _
    refine XS.iconst X5.here hx rfl (hb hby d2_35) ?_
    show Steps p.tables e below (T5.setTop (mkF m 36 #[.val (.ref a1), .val (.int p2), .val (.int p3)] [(.int (1 : Int32))])) _
    refine XS.goto X5.here hx rfl (pc0 := 36) (pc' := 40) rfl (hb hby d2_36) (by decide) (by decide) ?_
    show Steps p.tables e below (T5.setTop (mkF m 40 #[.val (.ref a1), .val (.int p2), .val (.int p3)] [(.int (1 : Int32))])) _
    exact retN X5 hx (t := .boolean) Bd.returns (by simp) (hb hby d2_40) hr
  · show Q2_t Z a1 p2 p3 w4 h0 n0 _ T5.heap _
    rw [e5]
    exact ⟨rfl, N0, rfl⟩
theorem d2_8 : decode prog_52_method_7_code 8 = .ok (.iload_n 1, 1) := by decide +kernel
theorem d2_9 : decode prog_52_method_7_code 9 = .ok (.aload_n 0, 1) := by decide +kernel
theorem d2_10 : decode prog_52_method_7_code 10 = .ok (.getfield 72, 3) := by decide +kernel
theorem d2_13 : decode prog_52_method_7_code 13 = .ok (.if_icmp .eq 22, 3) := by decide +kernel
def Q2_ft (Z : State) (a1 : Addr) (p2 : Int32) (p3 : Int32) (w4 : Int32) (h0 : Heap) (n0 : Nat) (v : Option Value) (h : Heap) (L : List Loc) : Prop := v = some (.int (1 : Int32)) ∧ Fr n0 L ∧ h = h0
set_option maxRecDepth 65536 in
set_option maxHeartbeats 40000000 in
theorem rm2_ft (l : Launch) (Z : State) (a0 : Array Value) (hw : ∀ d ∈ tables_1, d.before a0 Z = true) (ws : List Jvm.Cond) (a1 : Addr) (p2 : Int32) (p3 : Int32) (w4 : Int32) (h0 : Heap) (n0 : Nat) (Z0 : n0 ≤ h0.size) (F_flags_a1 : Fld Z h0 a1 "com/example/quillwire/quillwire/codec/PacketType" "flags" "I" (.int w4)) (hc5 : ¬ (w4 = (-1 : Int32))) (hc13 : p2 = w4) :
    MetFree l (⟨"com/example/quillwire/quillwire/codec/PacketType", "allows", "(II)Z"⟩ : MethodName) (head1 (Jvm.Cond.code (⟨"com/example/quillwire/quillwire/codec/PacketType", "allows", "(II)Z"⟩ : MethodName) prog_52_method_7_code 3 (some .boolean) :: ws) ({ frames := 0, cells := 0, slots := 0, locals := 0 } : Room)) (fun a U => a = #[(.ref a1), (.int p2), (.int p3)] ∧ Z.Warmed39 U.vm ∧ U.heap = h0) (fun _ _ _ _ _ => True) (fun _ U o U' => ∃ v L, o = .returned v ∧ Q2_ft Z a1 p2 p3 w4 h0 n0 v U'.heap L ∧ FrameEnd U o U' L ({ frames := 0, cells := 0, slots := 0, locals := 0 } : Room).cells ({ frames := 0, cells := 0, slots := 0, locals := 0 } : Room).slots) := by
  refine MetFree.of_bodySF (plainFor_of_name pn_2) hisR ?_
  intro p e s m args below meth c s₁ Bd hml0 hP hK
  obtain ⟨rfl, hZ, hh⟩ := hP
  have hx := Bd.exec
  have hby := Bd.bytes
  have hml : c.maxLocals = 3 := hml0
  have hown : s.vm.findClass "com/example/quillwire/quillwire/codec/PacketType" = some m.cls := findClass_of_methodNamed Bd.named
  have hnm := (name_of_methodNamed Bd.named Bd.method).1
  have X0 : Stand p l e ({ frames := 0, cells := 0, slots := 0, locals := 0 } : Room) s m #[(.ref a1), (.int p2), (.int p3)] below meth c s₁ [] 0 0 := Stand.of_body Bd
  have e0 : s₁.heap = h0 := by rw [← hh, Bd.state]; rfl
  have N0 := Fr.nil n0
  have pre0 : ∀ t, Steps p.tables e below (s₁.setTop (mkF m 0 #[.val (.ref a1), .val (.int p2), .val (.int p3)] [])) t → Steps p.tables e below (s₁.setTop (entryFrame m #[(.ref a1), (.int p2), (.int p3)] 3)) t := fun t k => castTop (ef_2 m a1 p2 p3) k
  obtain ⟨T5, X5, e5, st5⟩ := getF X0 hx hZ hown (host := "") (Or.inl (hw _ (List.mem_of_getElem? (i := 13) rfl))) Via.refl e0 F_flags_a1 (g := (mkF m 1 #[.val (.ref a1), .val (.int p2), .val (.int p3)] [(.ref a1)])) rfl rfl (hb hby d2_1)
  obtain ⟨T6, X6, e6, st6⟩ := getF X5 hx hZ hown (host := "") (Or.inl (hw _ (List.mem_of_getElem? (i := 13) rfl))) Via.refl e5 F_flags_a1 (g := (mkF m 10 #[.val (.ref a1), .val (.int p2), .val (.int p3)] [(.ref a1), (.int p2)])) rfl rfl (hb hby d2_10)
  obtain ⟨fs, hr, hrun, hended, hW, hsame⟩ := X6.leave (v := some (.int (1 : Int32))) (fun h => by rw [Bd.returns] at h; cases h)
  refine ⟨_, _, pre0 _ ?_, hrun, hended, _, _, rfl, ?_, ⟨_, rfl⟩, hW, hsame.mono (by decide) (by decide)⟩
  · show Steps p.tables e below (s₁.setTop (mkF m 0 #[.val (.ref a1), .val (.int p2), .val (.int p3)] [])) _
    refine XS.aloadN X0.here hx rfl (hb hby d2_0) rfl rfl ?_
    show Steps p.tables e below (s₁.setTop (mkF m 1 #[.val (.ref a1), .val (.int p2), .val (.int p3)] [(.ref a1)])) _
    refine st5 _ ?_
    show Steps p.tables e below (T5.setTop (mkF m 4 #[.val (.ref a1), .val (.int p2), .val (.int p3)] [(.int w4)])) _
    refine XS.iconst X5.here hx rfl (hb hby d2_4) ?_
    show Steps p.tables e below (T5.setTop (mkF m 5 #[.val (.ref a1), .val (.int p2), .val (.int p3)] [(.int (-1 : Int32)), (.int w4)])) _
    refine XS.icmpNo X5.here hx rfl (hb hby d2_5) rfl (feq hc5).1 ?_
    show Steps p.tables e below (T5.setTop (mkF m 8 #[.val (.ref a1), .val (.int p2), .val (.int p3)] [])) _
    refine XS.iloadN X5.here hx rfl (hb hby d2_8) rfl ?_
    show Steps p.tables e below (T5.setTop (mkF m 9 #[.val (.ref a1), .val (.int p2), .val (.int p3)] [(.int p2)])) _
    refine XS.aloadN X5.here hx rfl (hb hby d2_9) rfl rfl ?_
    show Steps p.tables e below (T5.setTop (mkF m 10 #[.val (.ref a1), .val (.int p2), .val (.int p3)] [(.ref a1), (.int p2)])) _
    refine st6 _ ?_
    show Steps p.tables e below (T6.setTop (mkF m 13 #[.val (.ref a1), .val (.int p2), .val (.int p3)] [(.int w4), (.int p2)])) _
    refine XS.icmpYes X6.here hx rfl (pc0 := 13) (pc' := 35) rfl (hb hby d2_13) rfl (teq hc13).1 (by decide) (by decide) ?_
    show Steps p.tables e below (T6.setTop (mkF m 35 #[.val (.ref a1), .val (.int p2), .val (.int p3)] [])) _
    refine XS.iconst X6.here hx rfl (hb hby d2_35) ?_
    show Steps p.tables e below (T6.setTop (mkF m 36 #[.val (.ref a1), .val (.int p2), .val (.int p3)] [(.int (1 : Int32))])) _
    refine XS.goto X6.here hx rfl (pc0 := 36) (pc' := 40) rfl (hb hby d2_36) (by decide) (by decide) ?_
    show Steps p.tables e below (T6.setTop (mkF m 40 #[.val (.ref a1), .val (.int p2), .val (.int p3)] [(.int (1 : Int32))])) _
    exact retN X6 hx (t := .boolean) Bd.returns (by simp) (hb hby d2_40) hr
  · show Q2_ft Z a1 p2 p3 w4 h0 n0 _ T6.heap _
    rw [e6]
    exact ⟨rfl, N0, rfl⟩
theorem d2_16 : decode prog_52_method_7_code 16 = .ok (.iload_n 2, 1) := by decide +kernel
theorem d2_17 : decode prog_52_method_7_code 17 = .ok (.iconst 3, 1) := by decide +kernel
theorem d2_18 : decode prog_52_method_7_code 18 = .ok (.if_icmp .ne 21, 3) := by decide +kernel
theorem d2_39 : decode prog_52_method_7_code 39 = .ok (.iconst 0, 1) := by decide +kernel
def Q2_fft (Z : State) (a1 : Addr) (p2 : Int32) (p3 : Int32) (w4 : Int32) (h0 : Heap) (n0 : Nat) (v : Option Value) (h : Heap) (L : List Loc) : Prop := v = some (.int (0 : Int32)) ∧ Fr n0 L ∧ h = h0
set_option maxRecDepth 65536 in
set_option maxHeartbeats 40000000 in
theorem rm2_fft (l : Launch) (Z : State) (a0 : Array Value) (hw : ∀ d ∈ tables_1, d.before a0 Z = true) (ws : List Jvm.Cond) (a1 : Addr) (p2 : Int32) (p3 : Int32) (w4 : Int32) (h0 : Heap) (n0 : Nat) (Z0 : n0 ≤ h0.size) (F_flags_a1 : Fld Z h0 a1 "com/example/quillwire/quillwire/codec/PacketType" "flags" "I" (.int w4)) (hc5 : ¬ (w4 = (-1 : Int32))) (hc13 : ¬ (p2 = w4)) (hc18 : ¬ (p3 = (3 : Int32))) :
    MetFree l (⟨"com/example/quillwire/quillwire/codec/PacketType", "allows", "(II)Z"⟩ : MethodName) (head1 (Jvm.Cond.code (⟨"com/example/quillwire/quillwire/codec/PacketType", "allows", "(II)Z"⟩ : MethodName) prog_52_method_7_code 3 (some .boolean) :: ws) ({ frames := 0, cells := 0, slots := 0, locals := 0 } : Room)) (fun a U => a = #[(.ref a1), (.int p2), (.int p3)] ∧ Z.Warmed39 U.vm ∧ U.heap = h0) (fun _ _ _ _ _ => True) (fun _ U o U' => ∃ v L, o = .returned v ∧ Q2_fft Z a1 p2 p3 w4 h0 n0 v U'.heap L ∧ FrameEnd U o U' L ({ frames := 0, cells := 0, slots := 0, locals := 0 } : Room).cells ({ frames := 0, cells := 0, slots := 0, locals := 0 } : Room).slots) := by
  refine MetFree.of_bodySF (plainFor_of_name pn_2) hisR ?_
  intro p e s m args below meth c s₁ Bd hml0 hP hK
  obtain ⟨rfl, hZ, hh⟩ := hP
  have hx := Bd.exec
  have hby := Bd.bytes
  have hml : c.maxLocals = 3 := hml0
  have hown : s.vm.findClass "com/example/quillwire/quillwire/codec/PacketType" = some m.cls := findClass_of_methodNamed Bd.named
  have hnm := (name_of_methodNamed Bd.named Bd.method).1
  have X0 : Stand p l e ({ frames := 0, cells := 0, slots := 0, locals := 0 } : Room) s m #[(.ref a1), (.int p2), (.int p3)] below meth c s₁ [] 0 0 := Stand.of_body Bd
  have e0 : s₁.heap = h0 := by rw [← hh, Bd.state]; rfl
  have N0 := Fr.nil n0
  have pre0 : ∀ t, Steps p.tables e below (s₁.setTop (mkF m 0 #[.val (.ref a1), .val (.int p2), .val (.int p3)] [])) t → Steps p.tables e below (s₁.setTop (entryFrame m #[(.ref a1), (.int p2), (.int p3)] 3)) t := fun t k => castTop (ef_2 m a1 p2 p3) k
  obtain ⟨T5, X5, e5, st5⟩ := getF X0 hx hZ hown (host := "") (Or.inl (hw _ (List.mem_of_getElem? (i := 13) rfl))) Via.refl e0 F_flags_a1 (g := (mkF m 1 #[.val (.ref a1), .val (.int p2), .val (.int p3)] [(.ref a1)])) rfl rfl (hb hby d2_1)
  obtain ⟨T6, X6, e6, st6⟩ := getF X5 hx hZ hown (host := "") (Or.inl (hw _ (List.mem_of_getElem? (i := 13) rfl))) Via.refl e5 F_flags_a1 (g := (mkF m 10 #[.val (.ref a1), .val (.int p2), .val (.int p3)] [(.ref a1), (.int p2)])) rfl rfl (hb hby d2_10)
  obtain ⟨fs, hr, hrun, hended, hW, hsame⟩ := X6.leave (v := some (.int (0 : Int32))) (fun h => by rw [Bd.returns] at h; cases h)
  refine ⟨_, _, pre0 _ ?_, hrun, hended, _, _, rfl, ?_, ⟨_, rfl⟩, hW, hsame.mono (by decide) (by decide)⟩
  · show Steps p.tables e below (s₁.setTop (mkF m 0 #[.val (.ref a1), .val (.int p2), .val (.int p3)] [])) _
    refine XS.aloadN X0.here hx rfl (hb hby d2_0) rfl rfl ?_
    show Steps p.tables e below (s₁.setTop (mkF m 1 #[.val (.ref a1), .val (.int p2), .val (.int p3)] [(.ref a1)])) _
    refine st5 _ ?_
    show Steps p.tables e below (T5.setTop (mkF m 4 #[.val (.ref a1), .val (.int p2), .val (.int p3)] [(.int w4)])) _
    refine XS.iconst X5.here hx rfl (hb hby d2_4) ?_
    show Steps p.tables e below (T5.setTop (mkF m 5 #[.val (.ref a1), .val (.int p2), .val (.int p3)] [(.int (-1 : Int32)), (.int w4)])) _
    refine XS.icmpNo X5.here hx rfl (hb hby d2_5) rfl (feq hc5).1 ?_
    show Steps p.tables e below (T5.setTop (mkF m 8 #[.val (.ref a1), .val (.int p2), .val (.int p3)] [])) _
    refine XS.iloadN X5.here hx rfl (hb hby d2_8) rfl ?_
    show Steps p.tables e below (T5.setTop (mkF m 9 #[.val (.ref a1), .val (.int p2), .val (.int p3)] [(.int p2)])) _
    refine XS.aloadN X5.here hx rfl (hb hby d2_9) rfl rfl ?_
    show Steps p.tables e below (T5.setTop (mkF m 10 #[.val (.ref a1), .val (.int p2), .val (.int p3)] [(.ref a1), (.int p2)])) _
    refine st6 _ ?_
    show Steps p.tables e below (T6.setTop (mkF m 13 #[.val (.ref a1), .val (.int p2), .val (.int p3)] [(.int w4), (.int p2)])) _
    refine XS.icmpNo X6.here hx rfl (hb hby d2_13) rfl (feq hc13).1 ?_
    show Steps p.tables e below (T6.setTop (mkF m 16 #[.val (.ref a1), .val (.int p2), .val (.int p3)] [])) _
    refine XS.iloadN X6.here hx rfl (hb hby d2_16) rfl ?_
    show Steps p.tables e below (T6.setTop (mkF m 17 #[.val (.ref a1), .val (.int p2), .val (.int p3)] [(.int p3)])) _
    refine XS.iconst X6.here hx rfl (hb hby d2_17) ?_
    show Steps p.tables e below (T6.setTop (mkF m 18 #[.val (.ref a1), .val (.int p2), .val (.int p3)] [(.int (3 : Int32)), (.int p3)])) _
    refine XS.icmpYes X6.here hx rfl (pc0 := 18) (pc' := 39) rfl (hb hby d2_18) rfl (feq hc18).2 (by decide) (by decide) ?_
    show Steps p.tables e below (T6.setTop (mkF m 39 #[.val (.ref a1), .val (.int p2), .val (.int p3)] [])) _
    refine XS.iconst X6.here hx rfl (hb hby d2_39) ?_
    show Steps p.tables e below (T6.setTop (mkF m 40 #[.val (.ref a1), .val (.int p2), .val (.int p3)] [(.int (0 : Int32))])) _
    exact retN X6 hx (t := .boolean) Bd.returns (by simp) (hb hby d2_40) hr
  · show Q2_fft Z a1 p2 p3 w4 h0 n0 _ T6.heap _
    rw [e6]
    exact ⟨rfl, N0, rfl⟩
theorem d2_21 : decode prog_52_method_7_code 21 = .ok (.aload_n 0, 1) := by decide +kernel
theorem d2_22 : decode prog_52_method_7_code 22 = .ok (.getfield 72, 3) := by decide +kernel
theorem d2_25 : decode prog_52_method_7_code 25 = .ok (.iconst 2, 1) := by decide +kernel
theorem d2_26 : decode prog_52_method_7_code 26 = .ok (.if_icmp .ne 13, 3) := by decide +kernel
def Q2_ffft (Z : State) (a1 : Addr) (p2 : Int32) (p3 : Int32) (w4 : Int32) (h0 : Heap) (n0 : Nat) (v : Option Value) (h : Heap) (L : List Loc) : Prop := v = some (.int (0 : Int32)) ∧ Fr n0 L ∧ h = h0
set_option maxRecDepth 65536 in
set_option maxHeartbeats 40000000 in
theorem rm2_ffft (l : Launch) (Z : State) (a0 : Array Value) (hw : ∀ d ∈ tables_1, d.before a0 Z = true) (ws : List Jvm.Cond) (a1 : Addr) (p2 : Int32) (p3 : Int32) (w4 : Int32) (h0 : Heap) (n0 : Nat) (Z0 : n0 ≤ h0.size) (F_flags_a1 : Fld Z h0 a1 "com/example/quillwire/quillwire/codec/PacketType" "flags" "I" (.int w4)) (hc5 : ¬ (w4 = (-1 : Int32))) (hc13 : ¬ (p2 = w4)) (hc18 : p3 = (3 : Int32)) (hc26 : ¬ (w4 = (2 : Int32))) :
    MetFree l (⟨"com/example/quillwire/quillwire/codec/PacketType", "allows", "(II)Z"⟩ : MethodName) (head1 (Jvm.Cond.code (⟨"com/example/quillwire/quillwire/codec/PacketType", "allows", "(II)Z"⟩ : MethodName) prog_52_method_7_code 3 (some .boolean) :: ws) ({ frames := 0, cells := 0, slots := 0, locals := 0 } : Room)) (fun a U => a = #[(.ref a1), (.int p2), (.int p3)] ∧ Z.Warmed39 U.vm ∧ U.heap = h0) (fun _ _ _ _ _ => True) (fun _ U o U' => ∃ v L, o = .returned v ∧ Q2_ffft Z a1 p2 p3 w4 h0 n0 v U'.heap L ∧ FrameEnd U o U' L ({ frames := 0, cells := 0, slots := 0, locals := 0 } : Room).cells ({ frames := 0, cells := 0, slots := 0, locals := 0 } : Room).slots) := by
  refine MetFree.of_bodySF (plainFor_of_name pn_2) hisR ?_
  intro p e s m args below meth c s₁ Bd hml0 hP hK
  obtain ⟨rfl, hZ, hh⟩ := hP
  have hx := Bd.exec
  have hby := Bd.bytes
  have hml : c.maxLocals = 3 := hml0
  have hown : s.vm.findClass "com/example/quillwire/quillwire/codec/PacketType" = some m.cls := findClass_of_methodNamed Bd.named
  have hnm := (name_of_methodNamed Bd.named Bd.method).1
  have X0 : Stand p l e ({ frames := 0, cells := 0, slots := 0, locals := 0 } : Room) s m #[(.ref a1), (.int p2), (.int p3)] below meth c s₁ [] 0 0 := Stand.of_body Bd
  have e0 : s₁.heap = h0 := by rw [← hh, Bd.state]; rfl
  have N0 := Fr.nil n0
  have pre0 : ∀ t, Steps p.tables e below (s₁.setTop (mkF m 0 #[.val (.ref a1), .val (.int p2), .val (.int p3)] [])) t → Steps p.tables e below (s₁.setTop (entryFrame m #[(.ref a1), (.int p2), (.int p3)] 3)) t := fun t k => castTop (ef_2 m a1 p2 p3) k
  obtain ⟨T5, X5, e5, st5⟩ := getF X0 hx hZ hown (host := "") (Or.inl (hw _ (List.mem_of_getElem? (i := 13) rfl))) Via.refl e0 F_flags_a1 (g := (mkF m 1 #[.val (.ref a1), .val (.int p2), .val (.int p3)] [(.ref a1)])) rfl rfl (hb hby d2_1)
  obtain ⟨T6, X6, e6, st6⟩ := getF X5 hx hZ hown (host := "") (Or.inl (hw _ (List.mem_of_getElem? (i := 13) rfl))) Via.refl e5 F_flags_a1 (g := (mkF m 10 #[.val (.ref a1), .val (.int p2), .val (.int p3)] [(.ref a1), (.int p2)])) rfl rfl (hb hby d2_10)
  obtain ⟨T7, X7, e7, st7⟩ := getF X6 hx hZ hown (host := "") (Or.inl (hw _ (List.mem_of_getElem? (i := 13) rfl))) Via.refl e6 F_flags_a1 (g := (mkF m 22 #[.val (.ref a1), .val (.int p2), .val (.int p3)] [(.ref a1)])) rfl rfl (hb hby d2_22)
  obtain ⟨fs, hr, hrun, hended, hW, hsame⟩ := X7.leave (v := some (.int (0 : Int32))) (fun h => by rw [Bd.returns] at h; cases h)
  refine ⟨_, _, pre0 _ ?_, hrun, hended, _, _, rfl, ?_, ⟨_, rfl⟩, hW, hsame.mono (by decide) (by decide)⟩
  · show Steps p.tables e below (s₁.setTop (mkF m 0 #[.val (.ref a1), .val (.int p2), .val (.int p3)] [])) _
    refine XS.aloadN X0.here hx rfl (hb hby d2_0) rfl rfl ?_
    show Steps p.tables e below (s₁.setTop (mkF m 1 #[.val (.ref a1), .val (.int p2), .val (.int p3)] [(.ref a1)])) _
    refine st5 _ ?_
    show Steps p.tables e below (T5.setTop (mkF m 4 #[.val (.ref a1), .val (.int p2), .val (.int p3)] [(.int w4)])) _
    refine XS.iconst X5.here hx rfl (hb hby d2_4) ?_
    show Steps p.tables e below (T5.setTop (mkF m 5 #[.val (.ref a1), .val (.int p2), .val (.int p3)] [(.int (-1 : Int32)), (.int w4)])) _
    refine XS.icmpNo X5.here hx rfl (hb hby d2_5) rfl (feq hc5).1 ?_
    show Steps p.tables e below (T5.setTop (mkF m 8 #[.val (.ref a1), .val (.int p2), .val (.int p3)] [])) _
    refine XS.iloadN X5.here hx rfl (hb hby d2_8) rfl ?_
    show Steps p.tables e below (T5.setTop (mkF m 9 #[.val (.ref a1), .val (.int p2), .val (.int p3)] [(.int p2)])) _
    refine XS.aloadN X5.here hx rfl (hb hby d2_9) rfl rfl ?_
    show Steps p.tables e below (T5.setTop (mkF m 10 #[.val (.ref a1), .val (.int p2), .val (.int p3)] [(.ref a1), (.int p2)])) _
    refine st6 _ ?_
    show Steps p.tables e below (T6.setTop (mkF m 13 #[.val (.ref a1), .val (.int p2), .val (.int p3)] [(.int w4), (.int p2)])) _
    refine XS.icmpNo X6.here hx rfl (hb hby d2_13) rfl (feq hc13).1 ?_
    show Steps p.tables e below (T6.setTop (mkF m 16 #[.val (.ref a1), .val (.int p2), .val (.int p3)] [])) _
    refine XS.iloadN X6.here hx rfl (hb hby d2_16) rfl ?_
    show Steps p.tables e below (T6.setTop (mkF m 17 #[.val (.ref a1), .val (.int p2), .val (.int p3)] [(.int p3)])) _
    refine XS.iconst X6.here hx rfl (hb hby d2_17) ?_
    show Steps p.tables e below (T6.setTop (mkF m 18 #[.val (.ref a1), .val (.int p2), .val (.int p3)] [(.int (3 : Int32)), (.int p3)])) _
    refine XS.icmpNo X6.here hx rfl (hb hby d2_18) rfl (teq hc18).2 ?_
    show Steps p.tables e below (T6.setTop (mkF m 21 #[.val (.ref a1), .val (.int p2), .val (.int p3)] [])) _
    refine XS.aloadN X6.here hx rfl (hb hby d2_21) rfl rfl ?_
    show Steps p.tables e below (T6.setTop (mkF m 22 #[.val (.ref a1), .val (.int p2), .val (.int p3)] [(.ref a1)])) _
    refine st7 _ ?_
    show Steps p.tables e below (T7.setTop (mkF m 25 #[.val (.ref a1), .val (.int p2), .val (.int p3)] [(.int w4)])) _
    refine XS.iconst X7.here hx rfl (hb hby d2_25) ?_
    show Steps p.tables e below (T7.setTop (mkF m 26 #[.val (.ref a1), .val (.int p2), .val (.int p3)] [(.int (2 : Int32)), (.int w4)])) _
    refine XS.icmpYes X7.here hx rfl (pc0 := 26) (pc' := 39) rfl (hb hby d2_26) rfl (feq hc26).2 (by decide) (by decide) ?_
    show Steps p.tables e below (T7.setTop (mkF m 39 #[.val (.ref a1), .val (.int p2), .val (.int p3)] [])) _
    refine XS.iconst X7.here hx rfl (hb hby d2_39) ?_
    show Steps p.tables e below (T7.setTop (mkF m 40 #[.val (.ref a1), .val (.int p2), .val (.int p3)] [(.int (0 : Int32))])) _
    exact retN X7 hx (t := .boolean) Bd.returns (by simp) (hb hby d2_40) hr
  · show Q2_ffft Z a1 p2 p3 w4 h0 n0 _ T7.heap _
    rw [e7]
    exact ⟨rfl, N0, rfl⟩
theorem d2_29 : decode prog_52_method_7_code 29 = .ok (.iload_n 1, 1) := by decide +kernel
theorem d2_30 : decode prog_52_method_7_code 30 = .ok (.bipush 10, 2) := by decide +kernel
theorem d2_32 : decode prog_52_method_7_code 32 = .ok (.if_icmp .ne 7, 3) := by decide +kernel
def Q2_fffft (Z : State) (a1 : Addr) (p2 : Int32) (p3 : Int32) (w4 : Int32) (h0 : Heap) (n0 : Nat) (v : Option Value) (h : Heap) (L : List Loc) : Prop := v = some (.int (0 : Int32)) ∧ Fr n0 L ∧ h = h0
set_option maxRecDepth 65536 in
set_option maxHeartbeats 40000000 in
theorem rm2_fffft (l : Launch) (Z : State) (a0 : Array Value) (hw : ∀ d ∈ tables_1, d.before a0 Z = true) (ws : List Jvm.Cond) (a1 : Addr) (p2 : Int32) (p3 : Int32) (w4 : Int32) (h0 : Heap) (n0 : Nat) (Z0 : n0 ≤ h0.size) (F_flags_a1 : Fld Z h0 a1 "com/example/quillwire/quillwire/codec/PacketType" "flags" "I" (.int w4)) (hc5 : ¬ (w4 = (-1 : Int32))) (hc13 : ¬ (p2 = w4)) (hc18 : p3 = (3 : Int32)) (hc26 : w4 = (2 : Int32)) (hc32 : ¬ (p2 = (10 : Int32))) :
    MetFree l (⟨"com/example/quillwire/quillwire/codec/PacketType", "allows", "(II)Z"⟩ : MethodName) (head1 (Jvm.Cond.code (⟨"com/example/quillwire/quillwire/codec/PacketType", "allows", "(II)Z"⟩ : MethodName) prog_52_method_7_code 3 (some .boolean) :: ws) ({ frames := 0, cells := 0, slots := 0, locals := 0 } : Room)) (fun a U => a = #[(.ref a1), (.int p2), (.int p3)] ∧ Z.Warmed39 U.vm ∧ U.heap = h0) (fun _ _ _ _ _ => True) (fun _ U o U' => ∃ v L, o = .returned v ∧ Q2_fffft Z a1 p2 p3 w4 h0 n0 v U'.heap L ∧ FrameEnd U o U' L ({ frames := 0, cells := 0, slots := 0, locals := 0 } : Room).cells ({ frames := 0, cells := 0, slots := 0, locals := 0 } : Room).slots) := by
  refine MetFree.of_bodySF (plainFor_of_name pn_2) hisR ?_
  intro p e s m args below meth c s₁ Bd hml0 hP hK
  obtain ⟨rfl, hZ, hh⟩ := hP
  have hx := Bd.exec
  have hby := Bd.bytes
  have hml : c.maxLocals = 3 := hml0
  have hown : s.vm.findClass "com/example/quillwire/quillwire/codec/PacketType" = some m.cls := findClass_of_methodNamed Bd.named
  have hnm := (name_of_methodNamed Bd.named Bd.method).1
  have X0 : Stand p l e ({ frames := 0, cells := 0, slots := 0, locals := 0 } : Room) s m #[(.ref a1), (.int p2), (.int p3)] below meth c s₁ [] 0 0 := Stand.of_body Bd
  have e0 : s₁.heap = h0 := by rw [← hh, Bd.state]; rfl
  have N0 := Fr.nil n0
  have pre0 : ∀ t, Steps p.tables e below (s₁.setTop (mkF m 0 #[.val (.ref a1), .val (.int p2), .val (.int p3)] [])) t → Steps p.tables e below (s₁.setTop (entryFrame m #[(.ref a1), (.int p2), (.int p3)] 3)) t := fun t k => castTop (ef_2 m a1 p2 p3) k
  obtain ⟨T5, X5, e5, st5⟩ := getF X0 hx hZ hown (host := "") (Or.inl (hw _ (List.mem_of_getElem? (i := 13) rfl))) Via.refl e0 F_flags_a1 (g := (mkF m 1 #[.val (.ref a1), .val (.int p2), .val (.int p3)] [(.ref a1)])) rfl rfl (hb hby d2_1)
  obtain ⟨T6, X6, e6, st6⟩ := getF X5 hx hZ hown (host := "") (Or.inl (hw _ (List.mem_of_getElem? (i := 13) rfl))) Via.refl e5 F_flags_a1 (g := (mkF m 10 #[.val (.ref a1), .val (.int p2), .val (.int p3)] [(.ref a1), (.int p2)])) rfl rfl (hb hby d2_10)
  obtain ⟨T7, X7, e7, st7⟩ := getF X6 hx hZ hown (host := "") (Or.inl (hw _ (List.mem_of_getElem? (i := 13) rfl))) Via.refl e6 F_flags_a1 (g := (mkF m 22 #[.val (.ref a1), .val (.int p2), .val (.int p3)] [(.ref a1)])) rfl rfl (hb hby d2_22)
  obtain ⟨fs, hr, hrun, hended, hW, hsame⟩ := X7.leave (v := some (.int (0 : Int32))) (fun h => by rw [Bd.returns] at h; cases h)
  refine ⟨_, _, pre0 _ ?_, hrun, hended, _, _, rfl, ?_, ⟨_, rfl⟩, hW, hsame.mono (by decide) (by decide)⟩
  · show Steps p.tables e below (s₁.setTop (mkF m 0 #[.val (.ref a1), .val (.int p2), .val (.int p3)] [])) _
    refine XS.aloadN X0.here hx rfl (hb hby d2_0) rfl rfl ?_
    show Steps p.tables e below (s₁.setTop (mkF m 1 #[.val (.ref a1), .val (.int p2), .val (.int p3)] [(.ref a1)])) _
    refine st5 _ ?_
    show Steps p.tables e below (T5.setTop (mkF m 4 #[.val (.ref a1), .val (.int p2), .val (.int p3)] [(.int w4)])) _
    refine XS.iconst X5.here hx rfl (hb hby d2_4) ?_
    show Steps p.tables e below (T5.setTop (mkF m 5 #[.val (.ref a1), .val (.int p2), .val (.int p3)] [(.int (-1 : Int32)), (.int w4)])) _
    refine XS.icmpNo X5.here hx rfl (hb hby d2_5) rfl (feq hc5).1 ?_
    show Steps p.tables e below (T5.setTop (mkF m 8 #[.val (.ref a1), .val (.int p2), .val (.int p3)] [])) _
    refine XS.iloadN X5.here hx rfl (hb hby d2_8) rfl ?_
    show Steps p.tables e below (T5.setTop (mkF m 9 #[.val (.ref a1), .val (.int p2), .val (.int p3)] [(.int p2)])) _
    refine XS.aloadN X5.here hx rfl (hb hby d2_9) rfl rfl ?_
    show Steps p.tables e below (T5.setTop (mkF m 10 #[.val (.ref a1), .val (.int p2), .val (.int p3)] [(.ref a1), (.int p2)])) _
    refine st6 _ ?_
    show Steps p.tables e below (T6.setTop (mkF m 13 #[.val (.ref a1), .val (.int p2), .val (.int p3)] [(.int w4), (.int p2)])) _
    refine XS.icmpNo X6.here hx rfl (hb hby d2_13) rfl (feq hc13).1 ?_
    show Steps p.tables e below (T6.setTop (mkF m 16 #[.val (.ref a1), .val (.int p2), .val (.int p3)] [])) _
    refine XS.iloadN X6.here hx rfl (hb hby d2_16) rfl ?_
    show Steps p.tables e below (T6.setTop (mkF m 17 #[.val (.ref a1), .val (.int p2), .val (.int p3)] [(.int p3)])) _
    refine XS.iconst X6.here hx rfl (hb hby d2_17) ?_
    show Steps p.tables e below (T6.setTop (mkF m 18 #[.val (.ref a1), .val (.int p2), .val (.int p3)] [(.int (3 : Int32)), (.int p3)])) _
    refine XS.icmpNo X6.here hx rfl (hb hby d2_18) rfl (teq hc18).2 ?_
    show Steps p.tables e below (T6.setTop (mkF m 21 #[.val (.ref a1), .val (.int p2), .val (.int p3)] [])) _
    refine XS.aloadN X6.here hx rfl (hb hby d2_21) rfl rfl ?_
    show Steps p.tables e below (T6.setTop (mkF m 22 #[.val (.ref a1), .val (.int p2), .val (.int p3)] [(.ref a1)])) _
    refine st7 _ ?_
    show Steps p.tables e below (T7.setTop (mkF m 25 #[.val (.ref a1), .val (.int p2), .val (.int p3)] [(.int w4)])) _
    refine XS.iconst X7.here hx rfl (hb hby d2_25) ?_
    show Steps p.tables e below (T7.setTop (mkF m 26 #[.val (.ref a1), .val (.int p2), .val (.int p3)] [(.int (2 : Int32)), (.int w4)])) _
    refine XS.icmpNo X7.here hx rfl (hb hby d2_26) rfl (teq hc26).2 ?_
    show Steps p.tables e below (T7.setTop (mkF m 29 #[.val (.ref a1), .val (.int p2), .val (.int p3)] [])) _
    refine XS.iloadN X7.here hx rfl (hb hby d2_29) rfl ?_
    show Steps p.tables e below (T7.setTop (mkF m 30 #[.val (.ref a1), .val (.int p2), .val (.int p3)] [(.int p2)])) _
    refine XS.bipush X7.here hx rfl (hb hby d2_30) ?_
    show Steps p.tables e below (T7.setTop (mkF m 32 #[.val (.ref a1), .val (.int p2), .val (.int p3)] [(.int (10 : Int32)), (.int p2)])) _
    refine XS.icmpYes X7.here hx rfl (pc0 := 32) (pc' := 39) rfl (hb hby d2_32) rfl (feq hc32).2 (by decide) (by decide) ?_
    show Steps p.tables e below (T7.setTop (mkF m 39 #[.val (.ref a1), .val (.int p2), .val (.int p3)] [])) _
    refine XS.iconst X7.here hx rfl (hb hby d2_39) ?_
    show Steps p.tables e below (T7.setTop (mkF m 40 #[.val (.ref a1), .val (.int p2), .val (.int p3)] [(.int (0 : Int32))])) _
    exact retN X7 hx (t := .boolean) Bd.returns (by simp) (hb hby d2_40) hr
  · show Q2_fffft Z a1 p2 p3 w4 h0 n0 _ T7.heap _
    rw [e7]
    exact ⟨rfl, N0, rfl⟩
def Q2_fffff (Z : State) (a1 : Addr) (p2 : Int32) (p3 : Int32) (w4 : Int32) (h0 : Heap) (n0 : Nat) (v : Option Value) (h : Heap) (L : List Loc) : Prop := v = some (.int (1 : Int32)) ∧ Fr n0 L ∧ h = h0
set_option maxRecDepth 65536 in
set_option maxHeartbeats 40000000 in
theorem rm2_fffff (l : Launch) (Z : State) (a0 : Array Value) (hw : ∀ d ∈ tables_1, d.before a0 Z = true) (ws : List Jvm.Cond) (a1 : Addr) (p2 : Int32) (p3 : Int32) (w4 : Int32) (h0 : Heap) (n0 : Nat) (Z0 : n0 ≤ h0.size) (F_flags_a1 : Fld Z h0 a1 "com/example/quillwire/quillwire/codec/PacketType" "flags" "I" (.int w4)) (hc5 : ¬ (w4 = (-1 : Int32))) (hc13 : ¬ (p2 = w4)) (hc18 : p3 = (3 : Int32)) (hc26 : w4 = (2 : Int32)) (hc32 : p2 = (10 : Int32)) :
    MetFree l (⟨"com/example/quillwire/quillwire/codec/PacketType", "allows", "(II)Z"⟩ : MethodName) (head1 (Jvm.Cond.code (⟨"com/example/quillwire/quillwire/codec/PacketType", "allows", "(II)Z"⟩ : MethodName) prog_52_method_7_code 3 (some .boolean) :: ws) ({ frames := 0, cells := 0, slots := 0, locals := 0 } : Room)) (fun a U => a = #[(.ref a1), (.int p2), (.int p3)] ∧ Z.Warmed39 U.vm ∧ U.heap = h0) (fun _ _ _ _ _ => True) (fun _ U o U' => ∃ v L, o = .returned v ∧ Q2_fffff Z a1 p2 p3 w4 h0 n0 v U'.heap L ∧ FrameEnd U o U' L ({ frames := 0, cells := 0, slots := 0, locals := 0 } : Room).cells ({ frames := 0, cells := 0, slots := 0, locals := 0 } : Room).slots) := by
  refine MetFree.of_bodySF (plainFor_of_name pn_2) hisR ?_
  intro p e s m args below meth c s₁ Bd hml0 hP hK
  obtain ⟨rfl, hZ, hh⟩ := hP
  have hx := Bd.exec
  have hby := Bd.bytes
  have hml : c.maxLocals = 3 := hml0
  have hown : s.vm.findClass "com/example/quillwire/quillwire/codec/PacketType" = some m.cls := findClass_of_methodNamed Bd.named
  have hnm := (name_of_methodNamed Bd.named Bd.method).1
  have X0 : Stand p l e ({ frames := 0, cells := 0, slots := 0, locals := 0 } : Room) s m #[(.ref a1), (.int p2), (.int p3)] below meth c s₁ [] 0 0 := Stand.of_body Bd
  have e0 : s₁.heap = h0 := by rw [← hh, Bd.state]; rfl
  have N0 := Fr.nil n0
  have pre0 : ∀ t, Steps p.tables e below (s₁.setTop (mkF m 0 #[.val (.ref a1), .val (.int p2), .val (.int p3)] [])) t → Steps p.tables e below (s₁.setTop (entryFrame m #[(.ref a1), (.int p2), (.int p3)] 3)) t := fun t k => castTop (ef_2 m a1 p2 p3) k
  obtain ⟨T5, X5, e5, st5⟩ := getF X0 hx hZ hown (host := "") (Or.inl (hw _ (List.mem_of_getElem? (i := 13) rfl))) Via.refl e0 F_flags_a1 (g := (mkF m 1 #[.val (.ref a1), .val (.int p2), .val (.int p3)] [(.ref a1)])) rfl rfl (hb hby d2_1)
  obtain ⟨T6, X6, e6, st6⟩ := getF X5 hx hZ hown (host := "") (Or.inl (hw _ (List.mem_of_getElem? (i := 13) rfl))) Via.refl e5 F_flags_a1 (g := (mkF m 10 #[.val (.ref a1), .val (.int p2), .val (.int p3)] [(.ref a1), (.int p2)])) rfl rfl (hb hby d2_10)
  obtain ⟨T7, X7, e7, st7⟩ := getF X6 hx hZ hown (host := "") (Or.inl (hw _ (List.mem_of_getElem? (i := 13) rfl))) Via.refl e6 F_flags_a1 (g := (mkF m 22 #[.val (.ref a1), .val (.int p2), .val (.int p3)] [(.ref a1)])) rfl rfl (hb hby d2_22)
  obtain ⟨fs, hr, hrun, hended, hW, hsame⟩ := X7.leave (v := some (.int (1 : Int32))) (fun h => by rw [Bd.returns] at h; cases h)
  refine ⟨_, _, pre0 _ ?_, hrun, hended, _, _, rfl, ?_, ⟨_, rfl⟩, hW, hsame.mono (by decide) (by decide)⟩
  · show Steps p.tables e below (s₁.setTop (mkF m 0 #[.val (.ref a1), .val (.int p2), .val (.int p3)] [])) _
    refine XS.aloadN X0.here hx rfl (hb hby d2_0) rfl rfl ?_
    show Steps p.tables e below (s₁.setTop (mkF m 1 #[.val (.ref a1), .val (.int p2), .val (.int p3)] [(.ref a1)])) _
    refine st5 _ ?_
    show Steps p.tables e below (T5.setTop (mkF m 4 #[.val (.ref a1), .val (.int p2), .val (.int p3)] [(.int w4)])) _
    refine XS.iconst X5.here hx rfl (hb hby d2_4) ?_
    show Steps p.tables e below (T5.setTop (mkF m 5 #[.val (.ref a1), .val (.int p2), .val (.int p3)] [(.int (-1 : Int32)), (.int w4)])) _
    refine XS.icmpNo X5.here hx rfl (hb hby d2_5) rfl (feq hc5).1 ?_
    show Steps p.tables e below (T5.setTop (mkF m 8 #[.val (.ref a1), .val (.int p2), .val (.int p3)] [])) _
    refine XS.iloadN X5.here hx rfl (hb hby d2_8) rfl ?_
    show Steps p.tables e below (T5.setTop (mkF m 9 #[.val (.ref a1), .val (.int p2), .val (.int p3)] [(.int p2)])) _
    refine XS.aloadN X5.here hx rfl (hb hby d2_9) rfl rfl ?_
    show Steps p.tables e below (T5.setTop (mkF m 10 #[.val (.ref a1), .val (.int p2), .val (.int p3)] [(.ref a1), (.int p2)])) _
    refine st6 _ ?_
    show Steps p.tables e below (T6.setTop (mkF m 13 #[.val (.ref a1), .val (.int p2), .val (.int p3)] [(.int w4), (.int p2)])) _
    refine XS.icmpNo X6.here hx rfl (hb hby d2_13) rfl (feq hc13).1 ?_
    show Steps p.tables e below (T6.setTop (mkF m 16 #[.val (.ref a1), .val (.int p2), .val (.int p3)] [])) _
    refine XS.iloadN X6.here hx rfl (hb hby d2_16) rfl ?_
    show Steps p.tables e below (T6.setTop (mkF m 17 #[.val (.ref a1), .val (.int p2), .val (.int p3)] [(.int p3)])) _
    refine XS.iconst X6.here hx rfl (hb hby d2_17) ?_
    show Steps p.tables e below (T6.setTop (mkF m 18 #[.val (.ref a1), .val (.int p2), .val (.int p3)] [(.int (3 : Int32)), (.int p3)])) _
    refine XS.icmpNo X6.here hx rfl (hb hby d2_18) rfl (teq hc18).2 ?_
    show Steps p.tables e below (T6.setTop (mkF m 21 #[.val (.ref a1), .val (.int p2), .val (.int p3)] [])) _
    refine XS.aloadN X6.here hx rfl (hb hby d2_21) rfl rfl ?_
    show Steps p.tables e below (T6.setTop (mkF m 22 #[.val (.ref a1), .val (.int p2), .val (.int p3)] [(.ref a1)])) _
    refine st7 _ ?_
    show Steps p.tables e below (T7.setTop (mkF m 25 #[.val (.ref a1), .val (.int p2), .val (.int p3)] [(.int w4)])) _
    refine XS.iconst X7.here hx rfl (hb hby d2_25) ?_
    show Steps p.tables e below (T7.setTop (mkF m 26 #[.val (.ref a1), .val (.int p2), .val (.int p3)] [(.int (2 : Int32)), (.int w4)])) _
    refine XS.icmpNo X7.here hx rfl (hb hby d2_26) rfl (teq hc26).2 ?_
    show Steps p.tables e below (T7.setTop (mkF m 29 #[.val (.ref a1), .val (.int p2), .val (.int p3)] [])) _
    refine XS.iloadN X7.here hx rfl (hb hby d2_29) rfl ?_
    show Steps p.tables e below (T7.setTop (mkF m 30 #[.val (.ref a1), .val (.int p2), .val (.int p3)] [(.int p2)])) _
    refine XS.bipush X7.here hx rfl (hb hby d2_30) ?_
    show Steps p.tables e below (T7.setTop (mkF m 32 #[.val (.ref a1), .val (.int p2), .val (.int p3)] [(.int (10 : Int32)), (.int p2)])) _
    refine XS.icmpNo X7.here hx rfl (hb hby d2_32) rfl (teq hc32).2 ?_
    show Steps p.tables e below (T7.setTop (mkF m 35 #[.val (.ref a1), .val (.int p2), .val (.int p3)] [])) _
    refine XS.iconst X7.here hx rfl (hb hby d2_35) ?_
    show Steps p.tables e below (T7.setTop (mkF m 36 #[.val (.ref a1), .val (.int p2), .val (.int p3)] [(.int (1 : Int32))])) _
    refine XS.goto X7.here hx rfl (pc0 := 36) (pc' := 40) rfl (hb hby d2_36) (by decide) (by decide) ?_
    show Steps p.tables e below (T7.setTop (mkF m 40 #[.val (.ref a1), .val (.int p2), .val (.int p3)] [(.int (1 : Int32))])) _
    exact retN X7 hx (t := .boolean) Bd.returns (by simp) (hb hby d2_40) hr
  · show Q2_fffff Z a1 p2 p3 w4 h0 n0 _ T7.heap _
    rw [e7]
    exact ⟨rfl, N0, rfl⟩
theorem os0_30_own_a_ff {s0 : Slot} {z1 : Value} {z2 : Value} {z3 : Value} {s4 : Slot} {s5 : Slot} {s6 : Slot} {s7 : Slot} {s8 : Slot} {v : Int32} (h : One s6) : storeLocals #[s0, .val z1, .val z2, .val z3, s4, s5, s6, s7, s8] 6 (.int v) = some #[s0, .val z1, .val z2, .val z3, s4, s5, .val (.int v), s7, s8] := by
  rcases h with rfl | ⟨w, rfl, hw⟩
  · rfl
  · cases w <;> first | rfl | (simp [Value.category] at hw)
theorem os0_47_own_a_ff {s0 : Slot} {z1 : Value} {z2 : Value} {z3 : Value} {s4 : Slot} {s5 : Slot} {z6 : Value} {s7 : Slot} {s8 : Slot} {v : Int32} (h : One s7) : storeLocals #[s0, .val z1, .val z2, .val z3, s4, s5, .val z6, s7, s8] 7 (.int v) = some #[s0, .val z1, .val z2, .val z3, s4, s5, .val z6, .val (.int v), s8] := by
  rcases h with rfl | ⟨w, rfl, hw⟩
  · rfl
  · cases w <;> first | rfl | (simp [Value.category] at hw)
set_option maxRecDepth 65536 in
set_option maxHeartbeats 40000000 in
theorem own_a_ff {p : Program} {l : Launch} {e : Env} {R : Room} {s : State} {m : MethodId} {args : Array Value} {below : List Frame} {meth : Method} {c : Code} {T0 : State} {locs : List Loc} {cells slots : Nat} {Z : State} {a0 : Array Value} {h0 : Heap} (s0 : Slot) (i1 : Int32) (i2 : Int32) (i3 : Int32) (s4 : Slot) (s5 : Slot) (s6 : Slot) (s7 : Slot) (s8 : Slot)
    (X0 : Stand p l e R s m args below meth c T0 locs cells slots) (hx : p.tables.exec = Jvm.exec) (hZ : Z.Warmed39 s.vm) (hw : ∀ d ∈ tables_1, d.before a0 Z = true) (hby : c.code = code) (hml : c.maxLocals = 9) (hown : s.vm.findClass "com/example/quillwire/quillwire/codec/PacketTypeAllowsPinLaw" = some m.cls) (e0 : T0.heap = h0) (hs6 : One s6) (hs7 : One s7) (hc19 : ¬ ((i3 &&& (1 : Int32)) = (0 : Int32))) (hc35 : ¬ ((i3 &&& (2 : Int32)) = (0 : Int32))) :
    ∀ target, Steps p.tables e below (T0.setTop (mkF m 49 #[s0, .val (.int i1), .val (.int i2), .val (.int i3), s4, s5, .val (.int (i1 &&& (15 : Int32))), .val (.int ((3 : Int32) + (i2 &&& (1 : Int32)))), s8] [])) target → Steps p.tables e below (T0.setTop (mkF m 16 #[s0, .val (.int i1), .val (.int i2), .val (.int i3), s4, s5, s6, s7, s8] [])) target := by

  intro target kt
  show Steps p.tables e below (T0.setTop (mkF m 16 #[s0, .val (.int i1), .val (.int i2), .val (.int i3), s4, s5, s6, s7, s8] [])) _
  refine XS.iloadN X0.here hx rfl (hb hby at_16) rfl ?_
  show Steps p.tables e below (T0.setTop (mkF m 17 #[s0, .val (.int i1), .val (.int i2), .val (.int i3), s4, s5, s6, s7, s8] [(.int i3)])) _
  refine XS.iconst X0.here hx rfl (hb hby at_17) ?_
  show Steps p.tables e below (T0.setTop (mkF m 18 #[s0, .val (.int i1), .val (.int i2), .val (.int i3), s4, s5, s6, s7, s8] [(.int (1 : Int32)), (.int i3)])) _
  refine XS.iand X0.here hx rfl (hb hby at_18) rfl ?_
  show Steps p.tables e below (T0.setTop (mkF m 19 #[s0, .val (.int i1), .val (.int i2), .val (.int i3), s4, s5, s6, s7, s8] [(.int (i3 &&& (1 : Int32)))])) _
  refine XS.ifNo X0.here hx rfl (hb hby at_19) rfl ((if0 _ _).trans (feq hc19).1) ?_
  show Steps p.tables e below (T0.setTop (mkF m 22 #[s0, .val (.int i1), .val (.int i2), .val (.int i3), s4, s5, s6, s7, s8] [])) _
  refine XS.iloadN X0.here hx rfl (hb hby at_22) rfl ?_
  show Steps p.tables e below (T0.setTop (mkF m 23 #[s0, .val (.int i1), .val (.int i2), .val (.int i3), s4, s5, s6, s7, s8] [(.int i1)])) _
  refine XS.bipush X0.here hx rfl (hb hby at_23) ?_
  show Steps p.tables e below (T0.setTop (mkF m 25 #[s0, .val (.int i1), .val (.int i2), .val (.int i3), s4, s5, s6, s7, s8] [(.int (15 : Int32)), (.int i1)])) _
  refine XS.iand X0.here hx rfl (hb hby at_25) rfl ?_
  show Steps p.tables e below (T0.setTop (mkF m 26 #[s0, .val (.int i1), .val (.int i2), .val (.int i3), s4, s5, s6, s7, s8] [(.int (i1 &&& (15 : Int32)))])) _
  refine XS.goto X0.here hx rfl (pc0 := 26) (pc' := 30) rfl (hb hby at_26) (by decide) (by decide) ?_
  show Steps p.tables e below (T0.setTop (mkF m 30 #[s0, .val (.int i1), .val (.int i2), .val (.int i3), s4, s5, s6, s7, s8] [(.int (i1 &&& (15 : Int32)))])) _
  refine XS.istore X0.here hx rfl (hb hby at_30) rfl (l' := #[s0, .val (.int i1), .val (.int i2), .val (.int i3), s4, s5, .val (.int (i1 &&& (15 : Int32))), s7, s8]) (os0_30_own_a_ff hs6) ?_
  show Steps p.tables e below (T0.setTop (mkF m 32 #[s0, .val (.int i1), .val (.int i2), .val (.int i3), s4, s5, .val (.int (i1 &&& (15 : Int32))), s7, s8] [])) _
  refine XS.iloadN X0.here hx rfl (hb hby at_32) rfl ?_
  show Steps p.tables e below (T0.setTop (mkF m 33 #[s0, .val (.int i1), .val (.int i2), .val (.int i3), s4, s5, .val (.int (i1 &&& (15 : Int32))), s7, s8] [(.int i3)])) _
  refine XS.iconst X0.here hx rfl (hb hby at_33) ?_
  show Steps p.tables e below (T0.setTop (mkF m 34 #[s0, .val (.int i1), .val (.int i2), .val (.int i3), s4, s5, .val (.int (i1 &&& (15 : Int32))), s7, s8] [(.int (2 : Int32)), (.int i3)])) _
  refine XS.iand X0.here hx rfl (hb hby at_34) rfl ?_
  show Steps p.tables e below (T0.setTop (mkF m 35 #[s0, .val (.int i1), .val (.int i2), .val (.int i3), s4, s5, .val (.int (i1 &&& (15 : Int32))), s7, s8] [(.int (i3 &&& (2 : Int32)))])) _
  refine XS.ifNo X0.here hx rfl (hb hby at_35) rfl ((if0 _ _).trans (feq hc35).1) ?_
  show Steps p.tables e below (T0.setTop (mkF m 38 #[s0, .val (.int i1), .val (.int i2), .val (.int i3), s4, s5, .val (.int (i1 &&& (15 : Int32))), s7, s8] [])) _
  refine XS.iconst X0.here hx rfl (hb hby at_38) ?_
  show Steps p.tables e below (T0.setTop (mkF m 39 #[s0, .val (.int i1), .val (.int i2), .val (.int i3), s4, s5, .val (.int (i1 &&& (15 : Int32))), s7, s8] [(.int (3 : Int32))])) _
  refine XS.iloadN X0.here hx rfl (hb hby at_39) rfl ?_
  show Steps p.tables e below (T0.setTop (mkF m 40 #[s0, .val (.int i1), .val (.int i2), .val (.int i3), s4, s5, .val (.int (i1 &&& (15 : Int32))), s7, s8] [(.int i2), (.int (3 : Int32))])) _
  refine XS.iconst X0.here hx rfl (hb hby at_40) ?_
  show Steps p.tables e below (T0.setTop (mkF m 41 #[s0, .val (.int i1), .val (.int i2), .val (.int i3), s4, s5, .val (.int (i1 &&& (15 : Int32))), s7, s8] [(.int (1 : Int32)), (.int i2), (.int (3 : Int32))])) _
  refine XS.iand X0.here hx rfl (hb hby at_41) rfl ?_
  show Steps p.tables e below (T0.setTop (mkF m 42 #[s0, .val (.int i1), .val (.int i2), .val (.int i3), s4, s5, .val (.int (i1 &&& (15 : Int32))), s7, s8] [(.int (i2 &&& (1 : Int32))), (.int (3 : Int32))])) _
  refine XS.iadd X0.here hx rfl (hb hby at_42) rfl ?_
  show Steps p.tables e below (T0.setTop (mkF m 43 #[s0, .val (.int i1), .val (.int i2), .val (.int i3), s4, s5, .val (.int (i1 &&& (15 : Int32))), s7, s8] [(.int ((3 : Int32) + (i2 &&& (1 : Int32))))])) _
  refine XS.goto X0.here hx rfl (pc0 := 43) (pc' := 47) rfl (hb hby at_43) (by decide) (by decide) ?_
  show Steps p.tables e below (T0.setTop (mkF m 47 #[s0, .val (.int i1), .val (.int i2), .val (.int i3), s4, s5, .val (.int (i1 &&& (15 : Int32))), s7, s8] [(.int ((3 : Int32) + (i2 &&& (1 : Int32))))])) _
  refine XS.istore X0.here hx rfl (hb hby at_47) rfl (l' := #[s0, .val (.int i1), .val (.int i2), .val (.int i3), s4, s5, .val (.int (i1 &&& (15 : Int32))), .val (.int ((3 : Int32) + (i2 &&& (1 : Int32)))), s8]) (os0_47_own_a_ff hs7) ?_
  exact kt
theorem os0_30_own_a_ft {s0 : Slot} {z1 : Value} {z2 : Value} {z3 : Value} {s4 : Slot} {s5 : Slot} {s6 : Slot} {s7 : Slot} {s8 : Slot} {v : Int32} (h : One s6) : storeLocals #[s0, .val z1, .val z2, .val z3, s4, s5, s6, s7, s8] 6 (.int v) = some #[s0, .val z1, .val z2, .val z3, s4, s5, .val (.int v), s7, s8] := by
  rcases h with rfl | ⟨w, rfl, hw⟩
  · rfl
  · cases w <;> first | rfl | (simp [Value.category] at hw)
theorem os0_47_own_a_ft {s0 : Slot} {z1 : Value} {z2 : Value} {z3 : Value} {s4 : Slot} {s5 : Slot} {z6 : Value} {s7 : Slot} {s8 : Slot} {v : Int32} (h : One s7) : storeLocals #[s0, .val z1, .val z2, .val z3, s4, s5, .val z6, s7, s8] 7 (.int v) = some #[s0, .val z1, .val z2, .val z3, s4, s5, .val z6, .val (.int v), s8] := by
  rcases h with rfl | ⟨w, rfl, hw⟩
  · rfl
  · cases w <;> first | rfl | (simp [Value.category] at hw)
set_option maxRecDepth 65536 in
set_option maxHeartbeats 40000000 in
theorem own_a_ft {p : Program} {l : Launch} {e : Env} {R : Room} {s : State} {m : MethodId} {args : Array Value} {below : List Frame} {meth : Method} {c : Code} {T0 : State} {locs : List Loc} {cells slots : Nat} {Z : State} {a0 : Array Value} {h0 : Heap} (s0 : Slot) (i1 : Int32) (i2 : Int32) (i3 : Int32) (s4 : Slot) (s5 : Slot) (s6 : Slot) (s7 : Slot) (s8 : Slot)
    (X0 : Stand p l e R s m args below meth c T0 locs cells slots) (hx : p.tables.exec = Jvm.exec) (hZ : Z.Warmed39 s.vm) (hw : ∀ d ∈ tables_1, d.before a0 Z = true) (hby : c.code = code) (hml : c.maxLocals = 9) (hown : s.vm.findClass "com/example/quillwire/quillwire/codec/PacketTypeAllowsPinLaw" = some m.cls) (e0 : T0.heap = h0) (hs6 : One s6) (hs7 : One s7) (hc19 : ¬ ((i3 &&& (1 : Int32)) = (0 : Int32))) (hc35 : (i3 &&& (2 : Int32)) = (0 : Int32)) :
    ∀ target, Steps p.tables e below (T0.setTop (mkF m 49 #[s0, .val (.int i1), .val (.int i2), .val (.int i3), s4, s5, .val (.int (i1 &&& (15 : Int32))), .val (.int i2), s8] [])) target → Steps p.tables e below (T0.setTop (mkF m 16 #[s0, .val (.int i1), .val (.int i2), .val (.int i3), s4, s5, s6, s7, s8] [])) target := by

  intro target kt
  show Steps p.tables e below (T0.setTop (mkF m 16 #[s0, .val (.int i1), .val (.int i2), .val (.int i3), s4, s5, s6, s7, s8] [])) _
  refine XS.iloadN X0.here hx rfl (hb hby at_16) rfl ?_
  show Steps p.tables e below (T0.setTop (mkF m 17 #[s0, .val (.int i1), .val (.int i2), .val (.int i3), s4, s5, s6, s7, s8] [(.int i3)])) _
  refine XS.iconst X0.here hx rfl (hb hby at_17) ?_
  show Steps p.tables e below (T0.setTop (mkF m 18 #[s0, .val (.int i1), .val (.int i2), .val (.int i3), s4, s5, s6, s7, s8] [(.int (1 : Int32)), (.int i3)])) _
  refine XS.iand X0.here hx rfl (hb hby at_18) rfl ?_
  show Steps p.tables e below (T0.setTop (mkF m 19 #[s0, .val (.int i1), .val (.int i2), .val (.int i3), s4, s5, s6, s7, s8] [(.int (i3 &&& (1 : Int32)))])) _
  refine XS.ifNo X0.here hx rfl (hb hby at_19) rfl ((if0 _ _).trans (feq hc19).1) ?_
  show Steps p.tables e below (T0.setTop (mkF m 22 #[s0, .val (.int i1), .val (.int i2), .val (.int i3), s4, s5, s6, s7, s8] [])) _
  refine XS.iloadN X0.here hx rfl (hb hby at_22) rfl ?_
  show Steps p.tables e below (T0.setTop (mkF m 23 #[s0, .val (.int i1), .val (.int i2), .val (.int i3), s4, s5, s6, s7, s8] [(.int i1)])) _
  refine XS.bipush X0.here hx rfl (hb hby at_23) ?_
  show Steps p.tables e below (T0.setTop (mkF m 25 #[s0, .val (.int i1), .val (.int i2), .val (.int i3), s4, s5, s6, s7, s8] [(.int (15 : Int32)), (.int i1)])) _
  refine XS.iand X0.here hx rfl (hb hby at_25) rfl ?_
  show Steps p.tables e below (T0.setTop (mkF m 26 #[s0, .val (.int i1), .val (.int i2), .val (.int i3), s4, s5, s6, s7, s8] [(.int (i1 &&& (15 : Int32)))])) _
  refine XS.goto X0.here hx rfl (pc0 := 26) (pc' := 30) rfl (hb hby at_26) (by decide) (by decide) ?_
  show Steps p.tables e below (T0.setTop (mkF m 30 #[s0, .val (.int i1), .val (.int i2), .val (.int i3), s4, s5, s6, s7, s8] [(.int (i1 &&& (15 : Int32)))])) _
  refine XS.istore X0.here hx rfl (hb hby at_30) rfl (l' := #[s0, .val (.int i1), .val (.int i2), .val (.int i3), s4, s5, .val (.int (i1 &&& (15 : Int32))), s7, s8]) (os0_30_own_a_ft hs6) ?_
  show Steps p.tables e below (T0.setTop (mkF m 32 #[s0, .val (.int i1), .val (.int i2), .val (.int i3), s4, s5, .val (.int (i1 &&& (15 : Int32))), s7, s8] [])) _
  refine XS.iloadN X0.here hx rfl (hb hby at_32) rfl ?_
  show Steps p.tables e below (T0.setTop (mkF m 33 #[s0, .val (.int i1), .val (.int i2), .val (.int i3), s4, s5, .val (.int (i1 &&& (15 : Int32))), s7, s8] [(.int i3)])) _
  refine XS.iconst X0.here hx rfl (hb hby at_33) ?_
  show Steps p.tables e below (T0.setTop (mkF m 34 #[s0, .val (.int i1), .val (.int i2), .val (.int i3), s4, s5, .val (.int (i1 &&& (15 : Int32))), s7, s8] [(.int (2 : Int32)), (.int i3)])) _
  refine XS.iand X0.here hx rfl (hb hby at_34) rfl ?_
  show Steps p.tables e below (T0.setTop (mkF m 35 #[s0, .val (.int i1), .val (.int i2), .val (.int i3), s4, s5, .val (.int (i1 &&& (15 : Int32))), s7, s8] [(.int (i3 &&& (2 : Int32)))])) _
  refine XS.ifYes X0.here hx rfl (pc0 := 35) (pc' := 46) rfl (hb hby at_35) rfl ((if0 _ _).trans (teq hc35).1) (by decide) (by decide) ?_
  show Steps p.tables e below (T0.setTop (mkF m 46 #[s0, .val (.int i1), .val (.int i2), .val (.int i3), s4, s5, .val (.int (i1 &&& (15 : Int32))), s7, s8] [])) _
  refine XS.iloadN X0.here hx rfl (hb hby at_46) rfl ?_
  show Steps p.tables e below (T0.setTop (mkF m 47 #[s0, .val (.int i1), .val (.int i2), .val (.int i3), s4, s5, .val (.int (i1 &&& (15 : Int32))), s7, s8] [(.int i2)])) _
  refine XS.istore X0.here hx rfl (hb hby at_47) rfl (l' := #[s0, .val (.int i1), .val (.int i2), .val (.int i3), s4, s5, .val (.int (i1 &&& (15 : Int32))), .val (.int i2), s8]) (os0_47_own_a_ft hs7) ?_
  exact kt
theorem os0_30_own_a_tf {s0 : Slot} {z1 : Value} {z2 : Value} {z3 : Value} {s4 : Slot} {s5 : Slot} {s6 : Slot} {s7 : Slot} {s8 : Slot} {v : Int32} (h : One s6) : storeLocals #[s0, .val z1, .val z2, .val z3, s4, s5, s6, s7, s8] 6 (.int v) = some #[s0, .val z1, .val z2, .val z3, s4, s5, .val (.int v), s7, s8] := by
  rcases h with rfl | ⟨w, rfl, hw⟩
  · rfl
  · cases w <;> first | rfl | (simp [Value.category] at hw)
theorem os0_47_own_a_tf {s0 : Slot} {z1 : Value} {z2 : Value} {z3 : Value} {s4 : Slot} {s5 : Slot} {z6 : Value} {s7 : Slot} {s8 : Slot} {v : Int32} (h : One s7) : storeLocals #[s0, .val z1, .val z2, .val z3, s4, s5, .val z6, s7, s8] 7 (.int v) = some #[s0, .val z1, .val z2, .val z3, s4, s5, .val z6, .val (.int v), s8] := by
  rcases h with rfl | ⟨w, rfl, hw⟩
  · rfl
  · cases w <;> first | rfl | (simp [Value.category] at hw)
set_option maxRecDepth 65536 in
set_option maxHeartbeats 40000000 in
theorem own_a_tf {p : Program} {l : Launch} {e : Env} {R : Room} {s : State} {m : MethodId} {args : Array Value} {below : List Frame} {meth : Method} {c : Code} {T0 : State} {locs : List Loc} {cells slots : Nat} {Z : State} {a0 : Array Value} {h0 : Heap} (s0 : Slot) (i1 : Int32) (i2 : Int32) (i3 : Int32) (s4 : Slot) (s5 : Slot) (s6 : Slot) (s7 : Slot) (s8 : Slot)
    (X0 : Stand p l e R s m args below meth c T0 locs cells slots) (hx : p.tables.exec = Jvm.exec) (hZ : Z.Warmed39 s.vm) (hw : ∀ d ∈ tables_1, d.before a0 Z = true) (hby : c.code = code) (hml : c.maxLocals = 9) (hown : s.vm.findClass "com/example/quillwire/quillwire/codec/PacketTypeAllowsPinLaw" = some m.cls) (e0 : T0.heap = h0) (hs6 : One s6) (hs7 : One s7) (hc19 : (i3 &&& (1 : Int32)) = (0 : Int32)) (hc35 : ¬ ((i3 &&& (2 : Int32)) = (0 : Int32))) :
    ∀ target, Steps p.tables e below (T0.setTop (mkF m 49 #[s0, .val (.int i1), .val (.int i2), .val (.int i3), s4, s5, .val (.int i1), .val (.int ((3 : Int32) + (i2 &&& (1 : Int32)))), s8] [])) target → Steps p.tables e below (T0.setTop (mkF m 16 #[s0, .val (.int i1), .val (.int i2), .val (.int i3), s4, s5, s6, s7, s8] [])) target := by

  intro target kt
  show Steps p.tables e below (T0.setTop (mkF m 16 #[s0, .val (.int i1), .val (.int i2), .val (.int i3), s4, s5, s6, s7, s8] [])) _
  refine XS.iloadN X0.here hx rfl (hb hby at_16) rfl ?_
  show Steps p.tables e below (T0.setTop (mkF m 17 #[s0, .val (.int i1), .val (.int i2), .val (.int i3), s4, s5, s6, s7, s8] [(.int i3)])) _
  refine XS.iconst X0.here hx rfl (hb hby at_17) ?_
  show Steps p.tables e below (T0.setTop (mkF m 18 #[s0, .val (.int i1), .val (.int i2), .val (.int i3), s4, s5, s6, s7, s8] [(.int (1 : Int32)), (.int i3)])) _
  refine XS.iand X0.here hx rfl (hb hby at_18) rfl ?_
  show Steps p.tables e below (T0.setTop (mkF m 19 #[s0, .val (.int i1), .val (.int i2), .val (.int i3), s4, s5, s6, s7, s8] [(.int (i3 &&& (1 : Int32)))])) _
  refine XS.ifYes X0.here hx rfl (pc0 := 19) (pc' := 29) rfl (hb hby at_19) rfl ((if0 _ _).trans (teq hc19).1) (by decide) (by decide) ?_
  show Steps p.tables e below (T0.setTop (mkF m 29 #[s0, .val (.int i1), .val (.int i2), .val (.int i3), s4, s5, s6, s7, s8] [])) _
  refine XS.iloadN X0.here hx rfl (hb hby at_29) rfl ?_
  show Steps p.tables e below (T0.setTop (mkF m 30 #[s0, .val (.int i1), .val (.int i2), .val (.int i3), s4, s5, s6, s7, s8] [(.int i1)])) _
  refine XS.istore X0.here hx rfl (hb hby at_30) rfl (l' := #[s0, .val (.int i1), .val (.int i2), .val (.int i3), s4, s5, .val (.int i1), s7, s8]) (os0_30_own_a_tf hs6) ?_
  show Steps p.tables e below (T0.setTop (mkF m 32 #[s0, .val (.int i1), .val (.int i2), .val (.int i3), s4, s5, .val (.int i1), s7, s8] [])) _
  refine XS.iloadN X0.here hx rfl (hb hby at_32) rfl ?_
  show Steps p.tables e below (T0.setTop (mkF m 33 #[s0, .val (.int i1), .val (.int i2), .val (.int i3), s4, s5, .val (.int i1), s7, s8] [(.int i3)])) _
  refine XS.iconst X0.here hx rfl (hb hby at_33) ?_
  show Steps p.tables e below (T0.setTop (mkF m 34 #[s0, .val (.int i1), .val (.int i2), .val (.int i3), s4, s5, .val (.int i1), s7, s8] [(.int (2 : Int32)), (.int i3)])) _
  refine XS.iand X0.here hx rfl (hb hby at_34) rfl ?_
  show Steps p.tables e below (T0.setTop (mkF m 35 #[s0, .val (.int i1), .val (.int i2), .val (.int i3), s4, s5, .val (.int i1), s7, s8] [(.int (i3 &&& (2 : Int32)))])) _
  refine XS.ifNo X0.here hx rfl (hb hby at_35) rfl ((if0 _ _).trans (feq hc35).1) ?_
  show Steps p.tables e below (T0.setTop (mkF m 38 #[s0, .val (.int i1), .val (.int i2), .val (.int i3), s4, s5, .val (.int i1), s7, s8] [])) _
  refine XS.iconst X0.here hx rfl (hb hby at_38) ?_
  show Steps p.tables e below (T0.setTop (mkF m 39 #[s0, .val (.int i1), .val (.int i2), .val (.int i3), s4, s5, .val (.int i1), s7, s8] [(.int (3 : Int32))])) _
  refine XS.iloadN X0.here hx rfl (hb hby at_39) rfl ?_
  show Steps p.tables e below (T0.setTop (mkF m 40 #[s0, .val (.int i1), .val (.int i2), .val (.int i3), s4, s5, .val (.int i1), s7, s8] [(.int i2), (.int (3 : Int32))])) _
  refine XS.iconst X0.here hx rfl (hb hby at_40) ?_
  show Steps p.tables e below (T0.setTop (mkF m 41 #[s0, .val (.int i1), .val (.int i2), .val (.int i3), s4, s5, .val (.int i1), s7, s8] [(.int (1 : Int32)), (.int i2), (.int (3 : Int32))])) _
  refine XS.iand X0.here hx rfl (hb hby at_41) rfl ?_
  show Steps p.tables e below (T0.setTop (mkF m 42 #[s0, .val (.int i1), .val (.int i2), .val (.int i3), s4, s5, .val (.int i1), s7, s8] [(.int (i2 &&& (1 : Int32))), (.int (3 : Int32))])) _
  refine XS.iadd X0.here hx rfl (hb hby at_42) rfl ?_
  show Steps p.tables e below (T0.setTop (mkF m 43 #[s0, .val (.int i1), .val (.int i2), .val (.int i3), s4, s5, .val (.int i1), s7, s8] [(.int ((3 : Int32) + (i2 &&& (1 : Int32))))])) _
  refine XS.goto X0.here hx rfl (pc0 := 43) (pc' := 47) rfl (hb hby at_43) (by decide) (by decide) ?_
  show Steps p.tables e below (T0.setTop (mkF m 47 #[s0, .val (.int i1), .val (.int i2), .val (.int i3), s4, s5, .val (.int i1), s7, s8] [(.int ((3 : Int32) + (i2 &&& (1 : Int32))))])) _
  refine XS.istore X0.here hx rfl (hb hby at_47) rfl (l' := #[s0, .val (.int i1), .val (.int i2), .val (.int i3), s4, s5, .val (.int i1), .val (.int ((3 : Int32) + (i2 &&& (1 : Int32)))), s8]) (os0_47_own_a_tf hs7) ?_
  exact kt
theorem os0_30_own_a_tt {s0 : Slot} {z1 : Value} {z2 : Value} {z3 : Value} {s4 : Slot} {s5 : Slot} {s6 : Slot} {s7 : Slot} {s8 : Slot} {v : Int32} (h : One s6) : storeLocals #[s0, .val z1, .val z2, .val z3, s4, s5, s6, s7, s8] 6 (.int v) = some #[s0, .val z1, .val z2, .val z3, s4, s5, .val (.int v), s7, s8] := by
  rcases h with rfl | ⟨w, rfl, hw⟩
  · rfl
  · cases w <;> first | rfl | (simp [Value.category] at hw)
theorem os0_47_own_a_tt {s0 : Slot} {z1 : Value} {z2 : Value} {z3 : Value} {s4 : Slot} {s5 : Slot} {z6 : Value} {s7 : Slot} {s8 : Slot} {v : Int32} (h : One s7) : storeLocals #[s0, .val z1, .val z2, .val z3, s4, s5, .val z6, s7, s8] 7 (.int v) = some #[s0, .val z1, .val z2, .val z3, s4, s5, .val z6, .val (.int v), s8] := by
  rcases h with rfl | ⟨w, rfl, hw⟩
  · rfl
  · cases w <;> first | rfl | (simp [Value.category] at hw)
set_option maxRecDepth 65536 in
set_option maxHeartbeats 40000000 in
theorem own_a_tt {p : Program} {l : Launch} {e : Env} {R : Room} {s : State} {m : MethodId} {args : Array Value} {below : List Frame} {meth : Method} {c : Code} {T0 : State} {locs : List Loc} {cells slots : Nat} {Z : State} {a0 : Array Value} {h0 : Heap} (s0 : Slot) (i1 : Int32) (i2 : Int32) (i3 : Int32) (s4 : Slot) (s5 : Slot) (s6 : Slot) (s7 : Slot) (s8 : Slot)
    (X0 : Stand p l e R s m args below meth c T0 locs cells slots) (hx : p.tables.exec = Jvm.exec) (hZ : Z.Warmed39 s.vm) (hw : ∀ d ∈ tables_1, d.before a0 Z = true) (hby : c.code = code) (hml : c.maxLocals = 9) (hown : s.vm.findClass "com/example/quillwire/quillwire/codec/PacketTypeAllowsPinLaw" = some m.cls) (e0 : T0.heap = h0) (hs6 : One s6) (hs7 : One s7) (hc19 : (i3 &&& (1 : Int32)) = (0 : Int32)) (hc35 : (i3 &&& (2 : Int32)) = (0 : Int32)) :
    ∀ target, Steps p.tables e below (T0.setTop (mkF m 49 #[s0, .val (.int i1), .val (.int i2), .val (.int i3), s4, s5, .val (.int i1), .val (.int i2), s8] [])) target → Steps p.tables e below (T0.setTop (mkF m 16 #[s0, .val (.int i1), .val (.int i2), .val (.int i3), s4, s5, s6, s7, s8] [])) target := by

  intro target kt
  show Steps p.tables e below (T0.setTop (mkF m 16 #[s0, .val (.int i1), .val (.int i2), .val (.int i3), s4, s5, s6, s7, s8] [])) _
  refine XS.iloadN X0.here hx rfl (hb hby at_16) rfl ?_
  show Steps p.tables e below (T0.setTop (mkF m 17 #[s0, .val (.int i1), .val (.int i2), .val (.int i3), s4, s5, s6, s7, s8] [(.int i3)])) _
  refine XS.iconst X0.here hx rfl (hb hby at_17) ?_
  show Steps p.tables e below (T0.setTop (mkF m 18 #[s0, .val (.int i1), .val (.int i2), .val (.int i3), s4, s5, s6, s7, s8] [(.int (1 : Int32)), (.int i3)])) _
  refine XS.iand X0.here hx rfl (hb hby at_18) rfl ?_
  show Steps p.tables e below (T0.setTop (mkF m 19 #[s0, .val (.int i1), .val (.int i2), .val (.int i3), s4, s5, s6, s7, s8] [(.int (i3 &&& (1 : Int32)))])) _
  refine XS.ifYes X0.here hx rfl (pc0 := 19) (pc' := 29) rfl (hb hby at_19) rfl ((if0 _ _).trans (teq hc19).1) (by decide) (by decide) ?_
  show Steps p.tables e below (T0.setTop (mkF m 29 #[s0, .val (.int i1), .val (.int i2), .val (.int i3), s4, s5, s6, s7, s8] [])) _
  refine XS.iloadN X0.here hx rfl (hb hby at_29) rfl ?_
  show Steps p.tables e below (T0.setTop (mkF m 30 #[s0, .val (.int i1), .val (.int i2), .val (.int i3), s4, s5, s6, s7, s8] [(.int i1)])) _
  refine XS.istore X0.here hx rfl (hb hby at_30) rfl (l' := #[s0, .val (.int i1), .val (.int i2), .val (.int i3), s4, s5, .val (.int i1), s7, s8]) (os0_30_own_a_tt hs6) ?_
  show Steps p.tables e below (T0.setTop (mkF m 32 #[s0, .val (.int i1), .val (.int i2), .val (.int i3), s4, s5, .val (.int i1), s7, s8] [])) _
  refine XS.iloadN X0.here hx rfl (hb hby at_32) rfl ?_
  show Steps p.tables e below (T0.setTop (mkF m 33 #[s0, .val (.int i1), .val (.int i2), .val (.int i3), s4, s5, .val (.int i1), s7, s8] [(.int i3)])) _
  refine XS.iconst X0.here hx rfl (hb hby at_33) ?_
  show Steps p.tables e below (T0.setTop (mkF m 34 #[s0, .val (.int i1), .val (.int i2), .val (.int i3), s4, s5, .val (.int i1), s7, s8] [(.int (2 : Int32)), (.int i3)])) _
  refine XS.iand X0.here hx rfl (hb hby at_34) rfl ?_
  show Steps p.tables e below (T0.setTop (mkF m 35 #[s0, .val (.int i1), .val (.int i2), .val (.int i3), s4, s5, .val (.int i1), s7, s8] [(.int (i3 &&& (2 : Int32)))])) _
  refine XS.ifYes X0.here hx rfl (pc0 := 35) (pc' := 46) rfl (hb hby at_35) rfl ((if0 _ _).trans (teq hc35).1) (by decide) (by decide) ?_
  show Steps p.tables e below (T0.setTop (mkF m 46 #[s0, .val (.int i1), .val (.int i2), .val (.int i3), s4, s5, .val (.int i1), s7, s8] [])) _
  refine XS.iloadN X0.here hx rfl (hb hby at_46) rfl ?_
  show Steps p.tables e below (T0.setTop (mkF m 47 #[s0, .val (.int i1), .val (.int i2), .val (.int i3), s4, s5, .val (.int i1), s7, s8] [(.int i2)])) _
  refine XS.istore X0.here hx rfl (hb hby at_47) rfl (l' := #[s0, .val (.int i1), .val (.int i2), .val (.int i3), s4, s5, .val (.int i1), .val (.int i2), s8]) (os0_47_own_a_tt hs7) ?_
  exact kt
theorem os0_56_own_b_f {s0 : Slot} {s1 : Slot} {s2 : Slot} {s3 : Slot} {z4 : Value} {s5 : Slot} {s6 : Slot} {s7 : Slot} {s8 : Slot} {v : Int32} (h : One s8) : storeLocals #[s0, s1, s2, s3, .val z4, s5, s6, s7, s8] 8 (.int v) = some #[s0, s1, s2, s3, .val z4, s5, s6, s7, .val (.int v)] := by
  rcases h with rfl | ⟨w, rfl, hw⟩
  · rfl
  · cases w <;> first | rfl | (simp [Value.category] at hw)
set_option maxRecDepth 65536 in
set_option maxHeartbeats 40000000 in
theorem own_b_f {p : Program} {l : Launch} {e : Env} {R : Room} {s : State} {m : MethodId} {args : Array Value} {below : List Frame} {meth : Method} {c : Code} {T0 : State} {locs : List Loc} {cells slots : Nat} {Z : State} {a0 : Array Value} {h0 : Heap} (s0 : Slot) (s1 : Slot) (s2 : Slot) (s3 : Slot) (i4 : Int32) (s5 : Slot) (s6 : Slot) (s7 : Slot) (s8 : Slot)
    (X0 : Stand p l e R s m args below meth c T0 locs cells slots) (hx : p.tables.exec = Jvm.exec) (hZ : Z.Warmed39 s.vm) (hw : ∀ d ∈ tables_1, d.before a0 Z = true) (hby : c.code = code) (hml : c.maxLocals = 9) (hown : s.vm.findClass "com/example/quillwire/quillwire/codec/PacketTypeAllowsPinLaw" = some m.cls) (e0 : T0.heap = h0) (hs8 : One s8) (hc52 : i4 = (2 : Int32)) :
    ∀ target, Steps p.tables e below (T0.setTop (mkF m 122 #[s0, s1, s2, s3, .val (.int i4), s5, s6, s7, .val (.int (1 : Int32))] [])) target → Steps p.tables e below (T0.setTop (mkF m 49 #[s0, s1, s2, s3, .val (.int i4), s5, s6, s7, s8] [])) target := by

  intro target kt
  show Steps p.tables e below (T0.setTop (mkF m 49 #[s0, s1, s2, s3, .val (.int i4), s5, s6, s7, s8] [])) _
  refine XS.iload X0.here hx rfl (hb hby at_49) rfl ?_
  show Steps p.tables e below (T0.setTop (mkF m 51 #[s0, s1, s2, s3, .val (.int i4), s5, s6, s7, s8] [(.int i4)])) _
  refine XS.iconst X0.here hx rfl (hb hby at_51) ?_
  show Steps p.tables e below (T0.setTop (mkF m 52 #[s0, s1, s2, s3, .val (.int i4), s5, s6, s7, s8] [(.int (2 : Int32)), (.int i4)])) _
  refine XS.icmpNo X0.here hx rfl (hb hby at_52) rfl (teq hc52).2 ?_
  show Steps p.tables e below (T0.setTop (mkF m 55 #[s0, s1, s2, s3, .val (.int i4), s5, s6, s7, s8] [])) _
  refine XS.iconst X0.here hx rfl (hb hby at_55) ?_
  show Steps p.tables e below (T0.setTop (mkF m 56 #[s0, s1, s2, s3, .val (.int i4), s5, s6, s7, s8] [(.int (1 : Int32))])) _
  refine XS.istore X0.here hx rfl (hb hby at_56) rfl (l' := #[s0, s1, s2, s3, .val (.int i4), s5, s6, s7, .val (.int (1 : Int32))]) (os0_56_own_b_f hs8) ?_
  show Steps p.tables e below (T0.setTop (mkF m 58 #[s0, s1, s2, s3, .val (.int i4), s5, s6, s7, .val (.int (1 : Int32))] [])) _
  refine XS.goto X0.here hx rfl (pc0 := 58) (pc' := 122) rfl (hb hby at_58) (by decide) (by decide) ?_
  exact kt
set_option maxRecDepth 65536 in
set_option maxHeartbeats 40000000 in
theorem own_b_tt {p : Program} {l : Launch} {e : Env} {R : Room} {s : State} {m : MethodId} {args : Array Value} {below : List Frame} {meth : Method} {c : Code} {T0 : State} {locs : List Loc} {cells slots : Nat} {Z : State} {a0 : Array Value} {h0 : Heap} (s0 : Slot) (s1 : Slot) (s2 : Slot) (s3 : Slot) (i4 : Int32) (s5 : Slot) (s6 : Slot) (s7 : Slot) (s8 : Slot)
    (X0 : Stand p l e R s m args below meth c T0 locs cells slots) (hx : p.tables.exec = Jvm.exec) (hZ : Z.Warmed39 s.vm) (hw : ∀ d ∈ tables_1, d.before a0 Z = true) (hby : c.code = code) (hml : c.maxLocals = 9) (hown : s.vm.findClass "com/example/quillwire/quillwire/codec/PacketTypeAllowsPinLaw" = some m.cls) (e0 : T0.heap = h0) (hc52 : ¬ (i4 = (2 : Int32))) (hc64 : i4 = (5 : Int32)) :
    ∀ target, Steps p.tables e below (T0.setTop (mkF m 81 #[s0, s1, s2, s3, .val (.int i4), s5, s6, s7, s8] [])) target → Steps p.tables e below (T0.setTop (mkF m 49 #[s0, s1, s2, s3, .val (.int i4), s5, s6, s7, s8] [])) target := by

  intro target kt
  show Steps p.tables e below (T0.setTop (mkF m 49 #[s0, s1, s2, s3, .val (.int i4), s5, s6, s7, s8] [])) _
  refine XS.iload X0.here hx rfl (hb hby at_49) rfl ?_
  show Steps p.tables e below (T0.setTop (mkF m 51 #[s0, s1, s2, s3, .val (.int i4), s5, s6, s7, s8] [(.int i4)])) _
  refine XS.iconst X0.here hx rfl (hb hby at_51) ?_
  show Steps p.tables e below (T0.setTop (mkF m 52 #[s0, s1, s2, s3, .val (.int i4), s5, s6, s7, s8] [(.int (2 : Int32)), (.int i4)])) _
  refine XS.icmpYes X0.here hx rfl (pc0 := 52) (pc' := 61) rfl (hb hby at_52) rfl (feq hc52).2 (by decide) (by decide) ?_
  show Steps p.tables e below (T0.setTop (mkF m 61 #[s0, s1, s2, s3, .val (.int i4), s5, s6, s7, s8] [])) _
  refine XS.iload X0.here hx rfl (hb hby at_61) rfl ?_
  show Steps p.tables e below (T0.setTop (mkF m 63 #[s0, s1, s2, s3, .val (.int i4), s5, s6, s7, s8] [(.int i4)])) _
  refine XS.iconst X0.here hx rfl (hb hby at_63) ?_
  show Steps p.tables e below (T0.setTop (mkF m 64 #[s0, s1, s2, s3, .val (.int i4), s5, s6, s7, s8] [(.int (5 : Int32)), (.int i4)])) _
  refine XS.icmpYes X0.here hx rfl (pc0 := 64) (pc' := 81) rfl (hb hby at_64) rfl (teq hc64).1 (by decide) (by decide) ?_
  exact kt
set_option maxRecDepth 65536 in
set_option maxHeartbeats 40000000 in
theorem own_b_tft {p : Program} {l : Launch} {e : Env} {R : Room} {s : State} {m : MethodId} {args : Array Value} {below : List Frame} {meth : Method} {c : Code} {T0 : State} {locs : List Loc} {cells slots : Nat} {Z : State} {a0 : Array Value} {h0 : Heap} (s0 : Slot) (s1 : Slot) (s2 : Slot) (s3 : Slot) (i4 : Int32) (s5 : Slot) (s6 : Slot) (s7 : Slot) (s8 : Slot)
    (X0 : Stand p l e R s m args below meth c T0 locs cells slots) (hx : p.tables.exec = Jvm.exec) (hZ : Z.Warmed39 s.vm) (hw : ∀ d ∈ tables_1, d.before a0 Z = true) (hby : c.code = code) (hml : c.maxLocals = 9) (hown : s.vm.findClass "com/example/quillwire/quillwire/codec/PacketTypeAllowsPinLaw" = some m.cls) (e0 : T0.heap = h0) (hc52 : ¬ (i4 = (2 : Int32))) (hc64 : ¬ (i4 = (5 : Int32))) (hc71 : i4 = (7 : Int32)) :
    ∀ target, Steps p.tables e below (T0.setTop (mkF m 81 #[s0, s1, s2, s3, .val (.int i4), s5, s6, s7, s8] [])) target → Steps p.tables e below (T0.setTop (mkF m 49 #[s0, s1, s2, s3, .val (.int i4), s5, s6, s7, s8] [])) target := by

  intro target kt
  show Steps p.tables e below (T0.setTop (mkF m 49 #[s0, s1, s2, s3, .val (.int i4), s5, s6, s7, s8] [])) _
  refine XS.iload X0.here hx rfl (hb hby at_49) rfl ?_
  show Steps p.tables e below (T0.setTop (mkF m 51 #[s0, s1, s2, s3, .val (.int i4), s5, s6, s7, s8] [(.int i4)])) _
  refine XS.iconst X0.here hx rfl (hb hby at_51) ?_
  show Steps p.tables e below (T0.setTop (mkF m 52 #[s0, s1, s2, s3, .val (.int i4), s5, s6, s7, s8] [(.int (2 : Int32)), (.int i4)])) _
  refine XS.icmpYes X0.here hx rfl (pc0 := 52) (pc' := 61) rfl (hb hby at_52) rfl (feq hc52).2 (by decide) (by decide) ?_
  show Steps p.tables e below (T0.setTop (mkF m 61 #[s0, s1, s2, s3, .val (.int i4), s5, s6, s7, s8] [])) _
  refine XS.iload X0.here hx rfl (hb hby at_61) rfl ?_
  show Steps p.tables e below (T0.setTop (mkF m 63 #[s0, s1, s2, s3, .val (.int i4), s5, s6, s7, s8] [(.int i4)])) _
  refine XS.iconst X0.here hx rfl (hb hby at_63) ?_
  show Steps p.tables e below (T0.setTop (mkF m 64 #[s0, s1, s2, s3, .val (.int i4), s5, s6, s7, s8] [(.int (5 : Int32)), (.int i4)])) _
  refine XS.icmpNo X0.here hx rfl (hb hby at_64) rfl (feq hc64).1 ?_
  show Steps p.tables e below (T0.setTop (mkF m 67 #[s0, s1, s2, s3, .val (.int i4), s5, s6, s7, s8] [])) _
  refine XS.iload X0.here hx rfl (hb hby at_67) rfl ?_
  show Steps p.tables e below (T0.setTop (mkF m 69 #[s0, s1, s2, s3, .val (.int i4), s5, s6, s7, s8] [(.int i4)])) _
  refine XS.bipush X0.here hx rfl (hb hby at_69) ?_
  show Steps p.tables e below (T0.setTop (mkF m 71 #[s0, s1, s2, s3, .val (.int i4), s5, s6, s7, s8] [(.int (7 : Int32)), (.int i4)])) _
  refine XS.icmpYes X0.here hx rfl (pc0 := 71) (pc' := 81) rfl (hb hby at_71) rfl (teq hc71).1 (by decide) (by decide) ?_
  exact kt
set_option maxRecDepth 65536 in
set_option maxHeartbeats 40000000 in
theorem own_b_tfff {p : Program} {l : Launch} {e : Env} {R : Room} {s : State} {m : MethodId} {args : Array Value} {below : List Frame} {meth : Method} {c : Code} {T0 : State} {locs : List Loc} {cells slots : Nat} {Z : State} {a0 : Array Value} {h0 : Heap} (s0 : Slot) (s1 : Slot) (s2 : Slot) (s3 : Slot) (i4 : Int32) (s5 : Slot) (s6 : Slot) (s7 : Slot) (s8 : Slot)
    (X0 : Stand p l e R s m args below meth c T0 locs cells slots) (hx : p.tables.exec = Jvm.exec) (hZ : Z.Warmed39 s.vm) (hw : ∀ d ∈ tables_1, d.before a0 Z = true) (hby : c.code = code) (hml : c.maxLocals = 9) (hown : s.vm.findClass "com/example/quillwire/quillwire/codec/PacketTypeAllowsPinLaw" = some m.cls) (e0 : T0.heap = h0) (hc52 : ¬ (i4 = (2 : Int32))) (hc64 : ¬ (i4 = (5 : Int32))) (hc71 : ¬ (i4 = (7 : Int32))) (hc78 : i4 = (9 : Int32)) :
    ∀ target, Steps p.tables e below (T0.setTop (mkF m 81 #[s0, s1, s2, s3, .val (.int i4), s5, s6, s7, s8] [])) target → Steps p.tables e below (T0.setTop (mkF m 49 #[s0, s1, s2, s3, .val (.int i4), s5, s6, s7, s8] [])) target := by

  intro target kt
  show Steps p.tables e below (T0.setTop (mkF m 49 #[s0, s1, s2, s3, .val (.int i4), s5, s6, s7, s8] [])) _
  refine XS.iload X0.here hx rfl (hb hby at_49) rfl ?_
  show Steps p.tables e below (T0.setTop (mkF m 51 #[s0, s1, s2, s3, .val (.int i4), s5, s6, s7, s8] [(.int i4)])) _
  refine XS.iconst X0.here hx rfl (hb hby at_51) ?_
  show Steps p.tables e below (T0.setTop (mkF m 52 #[s0, s1, s2, s3, .val (.int i4), s5, s6, s7, s8] [(.int (2 : Int32)), (.int i4)])) _
  refine XS.icmpYes X0.here hx rfl (pc0 := 52) (pc' := 61) rfl (hb hby at_52) rfl (feq hc52).2 (by decide) (by decide) ?_
  show Steps p.tables e below (T0.setTop (mkF m 61 #[s0, s1, s2, s3, .val (.int i4), s5, s6, s7, s8] [])) _
  refine XS.iload X0.here hx rfl (hb hby at_61) rfl ?_
  show Steps p.tables e below (T0.setTop (mkF m 63 #[s0, s1, s2, s3, .val (.int i4), s5, s6, s7, s8] [(.int i4)])) _
  refine XS.iconst X0.here hx rfl (hb hby at_63) ?_
  show Steps p.tables e below (T0.setTop (mkF m 64 #[s0, s1, s2, s3, .val (.int i4), s5, s6, s7, s8] [(.int (5 : Int32)), (.int i4)])) _
  refine XS.icmpNo X0.here hx rfl (hb hby at_64) rfl (feq hc64).1 ?_
  show Steps p.tables e below (T0.setTop (mkF m 67 #[s0, s1, s2, s3, .val (.int i4), s5, s6, s7, s8] [])) _
  refine XS.iload X0.here hx rfl (hb hby at_67) rfl ?_
  show Steps p.tables e below (T0.setTop (mkF m 69 #[s0, s1, s2, s3, .val (.int i4), s5, s6, s7, s8] [(.int i4)])) _
  refine XS.bipush X0.here hx rfl (hb hby at_69) ?_
  show Steps p.tables e below (T0.setTop (mkF m 71 #[s0, s1, s2, s3, .val (.int i4), s5, s6, s7, s8] [(.int (7 : Int32)), (.int i4)])) _
  refine XS.icmpNo X0.here hx rfl (hb hby at_71) rfl (feq hc71).1 ?_
  show Steps p.tables e below (T0.setTop (mkF m 74 #[s0, s1, s2, s3, .val (.int i4), s5, s6, s7, s8] [])) _
  refine XS.iload X0.here hx rfl (hb hby at_74) rfl ?_
  show Steps p.tables e below (T0.setTop (mkF m 76 #[s0, s1, s2, s3, .val (.int i4), s5, s6, s7, s8] [(.int i4)])) _
  refine XS.bipush X0.here hx rfl (hb hby at_76) ?_
  show Steps p.tables e below (T0.setTop (mkF m 78 #[s0, s1, s2, s3, .val (.int i4), s5, s6, s7, s8] [(.int (9 : Int32)), (.int i4)])) _
  refine XS.icmpNo X0.here hx rfl (hb hby at_78) rfl (teq hc78).2 ?_
  exact kt
theorem os0_105_own_c_t {s0 : Slot} {s1 : Slot} {s2 : Slot} {s3 : Slot} {s4 : Slot} {s5 : Slot} {z6 : Value} {s7 : Slot} {s8 : Slot} {v : Int32} (h : One s8) : storeLocals #[s0, s1, s2, s3, s4, s5, .val z6, s7, s8] 8 (.int v) = some #[s0, s1, s2, s3, s4, s5, .val z6, s7, .val (.int v)] := by
  rcases h with rfl | ⟨w, rfl, hw⟩
  · rfl
  · cases w <;> first | rfl | (simp [Value.category] at hw)
set_option maxRecDepth 65536 in
set_option maxHeartbeats 40000000 in
theorem own_c_t {p : Program} {l : Launch} {e : Env} {R : Room} {s : State} {m : MethodId} {args : Array Value} {below : List Frame} {meth : Method} {c : Code} {T0 : State} {locs : List Loc} {cells slots : Nat} {Z : State} {a0 : Array Value} {h0 : Heap} (s0 : Slot) (s1 : Slot) (s2 : Slot) (s3 : Slot) (s4 : Slot) (s5 : Slot) (i6 : Int32) (s7 : Slot) (s8 : Slot)
    (X0 : Stand p l e R s m args below meth c T0 locs cells slots) (hx : p.tables.exec = Jvm.exec) (hZ : Z.Warmed39 s.vm) (hw : ∀ d ∈ tables_1, d.before a0 Z = true) (hby : c.code = code) (hml : c.maxLocals = 9) (hown : s.vm.findClass "com/example/quillwire/quillwire/codec/PacketTypeAllowsPinLaw" = some m.cls) (e0 : T0.heap = h0) (hs8 : One s8) (hc84 : i6 = (2 : Int32)) :
    ∀ target, Steps p.tables e below (T0.setTop (mkF m 122 #[s0, s1, s2, s3, s4, s5, .val (.int i6), s7, .val (.int (1 : Int32))] [])) target → Steps p.tables e below (T0.setTop (mkF m 81 #[s0, s1, s2, s3, s4, s5, .val (.int i6), s7, s8] [])) target := by

  intro target kt
  show Steps p.tables e below (T0.setTop (mkF m 81 #[s0, s1, s2, s3, s4, s5, .val (.int i6), s7, s8] [])) _
  refine XS.iload X0.here hx rfl (hb hby at_81) rfl ?_
  show Steps p.tables e below (T0.setTop (mkF m 83 #[s0, s1, s2, s3, s4, s5, .val (.int i6), s7, s8] [(.int i6)])) _
  refine XS.iconst X0.here hx rfl (hb hby at_83) ?_
  show Steps p.tables e below (T0.setTop (mkF m 84 #[s0, s1, s2, s3, s4, s5, .val (.int i6), s7, s8] [(.int (2 : Int32)), (.int i6)])) _
  refine XS.icmpYes X0.here hx rfl (pc0 := 84) (pc' := 100) rfl (hb hby at_84) rfl (teq hc84).1 (by decide) (by decide) ?_
  show Steps p.tables e below (T0.setTop (mkF m 100 #[s0, s1, s2, s3, s4, s5, .val (.int i6), s7, s8] [])) _
  refine XS.iconst X0.here hx rfl (hb hby at_100) ?_
  show Steps p.tables e below (T0.setTop (mkF m 101 #[s0, s1, s2, s3, s4, s5, .val (.int i6), s7, s8] [(.int (1 : Int32))])) _
  refine XS.goto X0.here hx rfl (pc0 := 101) (pc' := 105) rfl (hb hby at_101) (by decide) (by decide) ?_
  show Steps p.tables e below (T0.setTop (mkF m 105 #[s0, s1, s2, s3, s4, s5, .val (.int i6), s7, s8] [(.int (1 : Int32))])) _
  refine XS.istore X0.here hx rfl (hb hby at_105) rfl (l' := #[s0, s1, s2, s3, s4, s5, .val (.int i6), s7, .val (.int (1 : Int32))]) (os0_105_own_c_t hs8) ?_
  show Steps p.tables e below (T0.setTop (mkF m 107 #[s0, s1, s2, s3, s4, s5, .val (.int i6), s7, .val (.int (1 : Int32))] [])) _
  refine XS.goto X0.here hx rfl (pc0 := 107) (pc' := 122) rfl (hb hby at_107) (by decide) (by decide) ?_
  exact kt
theorem os0_105_own_c_ft {s0 : Slot} {s1 : Slot} {s2 : Slot} {s3 : Slot} {s4 : Slot} {s5 : Slot} {z6 : Value} {z7 : Value} {s8 : Slot} {v : Int32} (h : One s8) : storeLocals #[s0, s1, s2, s3, s4, s5, .val z6, .val z7, s8] 8 (.int v) = some #[s0, s1, s2, s3, s4, s5, .val z6, .val z7, .val (.int v)] := by
  rcases h with rfl | ⟨w, rfl, hw⟩
  · rfl
  · cases w <;> first | rfl | (simp [Value.category] at hw)
set_option maxRecDepth 65536 in
set_option maxHeartbeats 40000000 in
theorem own_c_ft {p : Program} {l : Launch} {e : Env} {R : Room} {s : State} {m : MethodId} {args : Array Value} {below : List Frame} {meth : Method} {c : Code} {T0 : State} {locs : List Loc} {cells slots : Nat} {Z : State} {a0 : Array Value} {h0 : Heap} (s0 : Slot) (s1 : Slot) (s2 : Slot) (s3 : Slot) (s4 : Slot) (s5 : Slot) (i6 : Int32) (i7 : Int32) (s8 : Slot)
    (X0 : Stand p l e R s m args below meth c T0 locs cells slots) (hx : p.tables.exec = Jvm.exec) (hZ : Z.Warmed39 s.vm) (hw : ∀ d ∈ tables_1, d.before a0 Z = true) (hby : c.code = code) (hml : c.maxLocals = 9) (hown : s.vm.findClass "com/example/quillwire/quillwire/codec/PacketTypeAllowsPinLaw" = some m.cls) (e0 : T0.heap = h0) (hs8 : One s8) (hc84 : ¬ (i6 = (2 : Int32))) (hc90 : ¬ (i7 = (3 : Int32))) :
    ∀ target, Steps p.tables e below (T0.setTop (mkF m 122 #[s0, s1, s2, s3, s4, s5, .val (.int i6), .val (.int i7), .val (.int (0 : Int32))] [])) target → Steps p.tables e below (T0.setTop (mkF m 81 #[s0, s1, s2, s3, s4, s5, .val (.int i6), .val (.int i7), s8] [])) target := by

  intro target kt
  show Steps p.tables e below (T0.setTop (mkF m 81 #[s0, s1, s2, s3, s4, s5, .val (.int i6), .val (.int i7), s8] [])) _
  refine XS.iload X0.here hx rfl (hb hby at_81) rfl ?_
  show Steps p.tables e below (T0.setTop (mkF m 83 #[s0, s1, s2, s3, s4, s5, .val (.int i6), .val (.int i7), s8] [(.int i6)])) _
  refine XS.iconst X0.here hx rfl (hb hby at_83) ?_
  show Steps p.tables e below (T0.setTop (mkF m 84 #[s0, s1, s2, s3, s4, s5, .val (.int i6), .val (.int i7), s8] [(.int (2 : Int32)), (.int i6)])) _
  refine XS.icmpNo X0.here hx rfl (hb hby at_84) rfl (feq hc84).1 ?_
  show Steps p.tables e below (T0.setTop (mkF m 87 #[s0, s1, s2, s3, s4, s5, .val (.int i6), .val (.int i7), s8] [])) _
  refine XS.iload X0.here hx rfl (hb hby at_87) rfl ?_
  show Steps p.tables e below (T0.setTop (mkF m 89 #[s0, s1, s2, s3, s4, s5, .val (.int i6), .val (.int i7), s8] [(.int i7)])) _
  refine XS.iconst X0.here hx rfl (hb hby at_89) ?_
  show Steps p.tables e below (T0.setTop (mkF m 90 #[s0, s1, s2, s3, s4, s5, .val (.int i6), .val (.int i7), s8] [(.int (3 : Int32)), (.int i7)])) _
  refine XS.icmpYes X0.here hx rfl (pc0 := 90) (pc' := 104) rfl (hb hby at_90) rfl (feq hc90).2 (by decide) (by decide) ?_
  show Steps p.tables e below (T0.setTop (mkF m 104 #[s0, s1, s2, s3, s4, s5, .val (.int i6), .val (.int i7), s8] [])) _
  refine XS.iconst X0.here hx rfl (hb hby at_104) ?_
  show Steps p.tables e below (T0.setTop (mkF m 105 #[s0, s1, s2, s3, s4, s5, .val (.int i6), .val (.int i7), s8] [(.int (0 : Int32))])) _
  refine XS.istore X0.here hx rfl (hb hby at_105) rfl (l' := #[s0, s1, s2, s3, s4, s5, .val (.int i6), .val (.int i7), .val (.int (0 : Int32))]) (os0_105_own_c_ft hs8) ?_
  show Steps p.tables e below (T0.setTop (mkF m 107 #[s0, s1, s2, s3, s4, s5, .val (.int i6), .val (.int i7), .val (.int (0 : Int32))] [])) _
  refine XS.goto X0.here hx rfl (pc0 := 107) (pc' := 122) rfl (hb hby at_107) (by decide) (by decide) ?_
  exact kt
theorem os0_105_own_c_fft {s0 : Slot} {s1 : Slot} {s2 : Slot} {s3 : Slot} {s4 : Slot} {s5 : Slot} {z6 : Value} {z7 : Value} {s8 : Slot} {v : Int32} (h : One s8) : storeLocals #[s0, s1, s2, s3, s4, s5, .val z6, .val z7, s8] 8 (.int v) = some #[s0, s1, s2, s3, s4, s5, .val z6, .val z7, .val (.int v)] := by
  rcases h with rfl | ⟨w, rfl, hw⟩
  · rfl
  · cases w <;> first | rfl | (simp [Value.category] at hw)
set_option maxRecDepth 65536 in
set_option maxHeartbeats 40000000 in
theorem own_c_fft {p : Program} {l : Launch} {e : Env} {R : Room} {s : State} {m : MethodId} {args : Array Value} {below : List Frame} {meth : Method} {c : Code} {T0 : State} {locs : List Loc} {cells slots : Nat} {Z : State} {a0 : Array Value} {h0 : Heap} (s0 : Slot) (s1 : Slot) (s2 : Slot) (s3 : Slot) (s4 : Slot) (s5 : Slot) (i6 : Int32) (i7 : Int32) (s8 : Slot)
    (X0 : Stand p l e R s m args below meth c T0 locs cells slots) (hx : p.tables.exec = Jvm.exec) (hZ : Z.Warmed39 s.vm) (hw : ∀ d ∈ tables_1, d.before a0 Z = true) (hby : c.code = code) (hml : c.maxLocals = 9) (hown : s.vm.findClass "com/example/quillwire/quillwire/codec/PacketTypeAllowsPinLaw" = some m.cls) (e0 : T0.heap = h0) (hs8 : One s8) (hc84 : ¬ (i6 = (2 : Int32))) (hc90 : i7 = (3 : Int32)) (hc97 : ¬ (i6 = (10 : Int32))) :
    ∀ target, Steps p.tables e below (T0.setTop (mkF m 122 #[s0, s1, s2, s3, s4, s5, .val (.int i6), .val (.int i7), .val (.int (0 : Int32))] [])) target → Steps p.tables e below (T0.setTop (mkF m 81 #[s0, s1, s2, s3, s4, s5, .val (.int i6), .val (.int i7), s8] [])) target := by

  intro target kt
  show Steps p.tables e below (T0.setTop (mkF m 81 #[s0, s1, s2, s3, s4, s5, .val (.int i6), .val (.int i7), s8] [])) _
  refine XS.iload X0.here hx rfl (hb hby at_81) rfl ?_
  show Steps p.tables e below (T0.setTop (mkF m 83 #[s0, s1, s2, s3, s4, s5, .val (.int i6), .val (.int i7), s8] [(.int i6)])) _
  refine XS.iconst X0.here hx rfl (hb hby at_83) ?_
  show Steps p.tables e below (T0.setTop (mkF m 84 #[s0, s1, s2, s3, s4, s5, .val (.int i6), .val (.int i7), s8] [(.int (2 : Int32)), (.int i6)])) _
  refine XS.icmpNo X0.here hx rfl (hb hby at_84) rfl (feq hc84).1 ?_
  show Steps p.tables e below (T0.setTop (mkF m 87 #[s0, s1, s2, s3, s4, s5, .val (.int i6), .val (.int i7), s8] [])) _
  refine XS.iload X0.here hx rfl (hb hby at_87) rfl ?_
  show Steps p.tables e below (T0.setTop (mkF m 89 #[s0, s1, s2, s3, s4, s5, .val (.int i6), .val (.int i7), s8] [(.int i7)])) _
  refine XS.iconst X0.here hx rfl (hb hby at_89) ?_
  show Steps p.tables e below (T0.setTop (mkF m 90 #[s0, s1, s2, s3, s4, s5, .val (.int i6), .val (.int i7), s8] [(.int (3 : Int32)), (.int i7)])) _
  refine XS.icmpNo X0.here hx rfl (hb hby at_90) rfl (teq hc90).2 ?_
  show Steps p.tables e below (T0.setTop (mkF m 93 #[s0, s1, s2, s3, s4, s5, .val (.int i6), .val (.int i7), s8] [])) _
  refine XS.iload X0.here hx rfl (hb hby at_93) rfl ?_
  show Steps p.tables e below (T0.setTop (mkF m 95 #[s0, s1, s2, s3, s4, s5, .val (.int i6), .val (.int i7), s8] [(.int i6)])) _
  refine XS.bipush X0.here hx rfl (hb hby at_95) ?_
  show Steps p.tables e below (T0.setTop (mkF m 97 #[s0, s1, s2, s3, s4, s5, .val (.int i6), .val (.int i7), s8] [(.int (10 : Int32)), (.int i6)])) _
  refine XS.icmpYes X0.here hx rfl (pc0 := 97) (pc' := 104) rfl (hb hby at_97) rfl (feq hc97).2 (by decide) (by decide) ?_
  show Steps p.tables e below (T0.setTop (mkF m 104 #[s0, s1, s2, s3, s4, s5, .val (.int i6), .val (.int i7), s8] [])) _
  refine XS.iconst X0.here hx rfl (hb hby at_104) ?_
  show Steps p.tables e below (T0.setTop (mkF m 105 #[s0, s1, s2, s3, s4, s5, .val (.int i6), .val (.int i7), s8] [(.int (0 : Int32))])) _
  refine XS.istore X0.here hx rfl (hb hby at_105) rfl (l' := #[s0, s1, s2, s3, s4, s5, .val (.int i6), .val (.int i7), .val (.int (0 : Int32))]) (os0_105_own_c_fft hs8) ?_
  show Steps p.tables e below (T0.setTop (mkF m 107 #[s0, s1, s2, s3, s4, s5, .val (.int i6), .val (.int i7), .val (.int (0 : Int32))] [])) _
  refine XS.goto X0.here hx rfl (pc0 := 107) (pc' := 122) rfl (hb hby at_107) (by decide) (by decide) ?_
  exact kt
theorem os0_105_own_c_fff {s0 : Slot} {s1 : Slot} {s2 : Slot} {s3 : Slot} {s4 : Slot} {s5 : Slot} {z6 : Value} {z7 : Value} {s8 : Slot} {v : Int32} (h : One s8) : storeLocals #[s0, s1, s2, s3, s4, s5, .val z6, .val z7, s8] 8 (.int v) = some #[s0, s1, s2, s3, s4, s5, .val z6, .val z7, .val (.int v)] := by
  rcases h with rfl | ⟨w, rfl, hw⟩
  · rfl
  · cases w <;> first | rfl | (simp [Value.category] at hw)
set_option maxRecDepth 65536 in
set_option maxHeartbeats 40000000 in
theorem own_c_fff {p : Program} {l : Launch} {e : Env} {R : Room} {s : State} {m : MethodId} {args : Array Value} {below : List Frame} {meth : Method} {c : Code} {T0 : State} {locs : List Loc} {cells slots : Nat} {Z : State} {a0 : Array Value} {h0 : Heap} (s0 : Slot) (s1 : Slot) (s2 : Slot) (s3 : Slot) (s4 : Slot) (s5 : Slot) (i6 : Int32) (i7 : Int32) (s8 : Slot)
    (X0 : Stand p l e R s m args below meth c T0 locs cells slots) (hx : p.tables.exec = Jvm.exec) (hZ : Z.Warmed39 s.vm) (hw : ∀ d ∈ tables_1, d.before a0 Z = true) (hby : c.code = code) (hml : c.maxLocals = 9) (hown : s.vm.findClass "com/example/quillwire/quillwire/codec/PacketTypeAllowsPinLaw" = some m.cls) (e0 : T0.heap = h0) (hs8 : One s8) (hc84 : ¬ (i6 = (2 : Int32))) (hc90 : i7 = (3 : Int32)) (hc97 : i6 = (10 : Int32)) :
    ∀ target, Steps p.tables e below (T0.setTop (mkF m 122 #[s0, s1, s2, s3, s4, s5, .val (.int i6), .val (.int i7), .val (.int (1 : Int32))] [])) target → Steps p.tables e below (T0.setTop (mkF m 81 #[s0, s1, s2, s3, s4, s5, .val (.int i6), .val (.int i7), s8] [])) target := by

  intro target kt
  show Steps p.tables e below (T0.setTop (mkF m 81 #[s0, s1, s2, s3, s4, s5, .val (.int i6), .val (.int i7), s8] [])) _
  refine XS.iload X0.here hx rfl (hb hby at_81) rfl ?_
  show Steps p.tables e below (T0.setTop (mkF m 83 #[s0, s1, s2, s3, s4, s5, .val (.int i6), .val (.int i7), s8] [(.int i6)])) _
  refine XS.iconst X0.here hx rfl (hb hby at_83) ?_
  show Steps p.tables e below (T0.setTop (mkF m 84 #[s0, s1, s2, s3, s4, s5, .val (.int i6), .val (.int i7), s8] [(.int (2 : Int32)), (.int i6)])) _
  refine XS.icmpNo X0.here hx rfl (hb hby at_84) rfl (feq hc84).1 ?_
  show Steps p.tables e below (T0.setTop (mkF m 87 #[s0, s1, s2, s3, s4, s5, .val (.int i6), .val (.int i7), s8] [])) _
  refine XS.iload X0.here hx rfl (hb hby at_87) rfl ?_
  show Steps p.tables e below (T0.setTop (mkF m 89 #[s0, s1, s2, s3, s4, s5, .val (.int i6), .val (.int i7), s8] [(.int i7)])) _
  refine XS.iconst X0.here hx rfl (hb hby at_89) ?_
  show Steps p.tables e below (T0.setTop (mkF m 90 #[s0, s1, s2, s3, s4, s5, .val (.int i6), .val (.int i7), s8] [(.int (3 : Int32)), (.int i7)])) _
  refine XS.icmpNo X0.here hx rfl (hb hby at_90) rfl (teq hc90).2 ?_
  show Steps p.tables e below (T0.setTop (mkF m 93 #[s0, s1, s2, s3, s4, s5, .val (.int i6), .val (.int i7), s8] [])) _
  refine XS.iload X0.here hx rfl (hb hby at_93) rfl ?_
  show Steps p.tables e below (T0.setTop (mkF m 95 #[s0, s1, s2, s3, s4, s5, .val (.int i6), .val (.int i7), s8] [(.int i6)])) _
  refine XS.bipush X0.here hx rfl (hb hby at_95) ?_
  show Steps p.tables e below (T0.setTop (mkF m 97 #[s0, s1, s2, s3, s4, s5, .val (.int i6), .val (.int i7), s8] [(.int (10 : Int32)), (.int i6)])) _
  refine XS.icmpNo X0.here hx rfl (hb hby at_97) rfl (teq hc97).2 ?_
  show Steps p.tables e below (T0.setTop (mkF m 100 #[s0, s1, s2, s3, s4, s5, .val (.int i6), .val (.int i7), s8] [])) _
  refine XS.iconst X0.here hx rfl (hb hby at_100) ?_
  show Steps p.tables e below (T0.setTop (mkF m 101 #[s0, s1, s2, s3, s4, s5, .val (.int i6), .val (.int i7), s8] [(.int (1 : Int32))])) _
  refine XS.goto X0.here hx rfl (pc0 := 101) (pc' := 105) rfl (hb hby at_101) (by decide) (by decide) ?_
  show Steps p.tables e below (T0.setTop (mkF m 105 #[s0, s1, s2, s3, s4, s5, .val (.int i6), .val (.int i7), s8] [(.int (1 : Int32))])) _
  refine XS.istore X0.here hx rfl (hb hby at_105) rfl (l' := #[s0, s1, s2, s3, s4, s5, .val (.int i6), .val (.int i7), .val (.int (1 : Int32))]) (os0_105_own_c_fff hs8) ?_
  show Steps p.tables e below (T0.setTop (mkF m 107 #[s0, s1, s2, s3, s4, s5, .val (.int i6), .val (.int i7), .val (.int (1 : Int32))] [])) _
  refine XS.goto X0.here hx rfl (pc0 := 107) (pc' := 122) rfl (hb hby at_107) (by decide) (by decide) ?_
  exact kt
theorem os0_120_own_b_tfftf {s0 : Slot} {s1 : Slot} {s2 : Slot} {s3 : Slot} {z4 : Value} {s5 : Slot} {z6 : Value} {s7 : Slot} {s8 : Slot} {v : Int32} (h : One s8) : storeLocals #[s0, s1, s2, s3, .val z4, s5, .val z6, s7, s8] 8 (.int v) = some #[s0, s1, s2, s3, .val z4, s5, .val z6, s7, .val (.int v)] := by
  rcases h with rfl | ⟨w, rfl, hw⟩
  · rfl
  · cases w <;> first | rfl | (simp [Value.category] at hw)
set_option maxRecDepth 65536 in
set_option maxHeartbeats 40000000 in
theorem own_b_tfftf {p : Program} {l : Launch} {e : Env} {R : Room} {s : State} {m : MethodId} {args : Array Value} {below : List Frame} {meth : Method} {c : Code} {T0 : State} {locs : List Loc} {cells slots : Nat} {Z : State} {a0 : Array Value} {h0 : Heap} (s0 : Slot) (s1 : Slot) (s2 : Slot) (s3 : Slot) (i4 : Int32) (s5 : Slot) (i6 : Int32) (s7 : Slot) (s8 : Slot)
    (X0 : Stand p l e R s m args below meth c T0 locs cells slots) (hx : p.tables.exec = Jvm.exec) (hZ : Z.Warmed39 s.vm) (hw : ∀ d ∈ tables_1, d.before a0 Z = true) (hby : c.code = code) (hml : c.maxLocals = 9) (hown : s.vm.findClass "com/example/quillwire/quillwire/codec/PacketTypeAllowsPinLaw" = some m.cls) (e0 : T0.heap = h0) (hs8 : One s8) (hc52 : ¬ (i4 = (2 : Int32))) (hc64 : ¬ (i4 = (5 : Int32))) (hc71 : ¬ (i4 = (7 : Int32))) (hc78 : ¬ (i4 = (9 : Int32))) (hc112 : i6 = (0 : Int32)) :
    ∀ target, Steps p.tables e below (T0.setTop (mkF m 122 #[s0, s1, s2, s3, .val (.int i4), s5, .val (.int i6), s7, .val (.int (1 : Int32))] [])) target → Steps p.tables e below (T0.setTop (mkF m 49 #[s0, s1, s2, s3, .val (.int i4), s5, .val (.int i6), s7, s8] [])) target := by

  intro target kt
  show Steps p.tables e below (T0.setTop (mkF m 49 #[s0, s1, s2, s3, .val (.int i4), s5, .val (.int i6), s7, s8] [])) _
  refine XS.iload X0.here hx rfl (hb hby at_49) rfl ?_
  show Steps p.tables e below (T0.setTop (mkF m 51 #[s0, s1, s2, s3, .val (.int i4), s5, .val (.int i6), s7, s8] [(.int i4)])) _
  refine XS.iconst X0.here hx rfl (hb hby at_51) ?_
  show Steps p.tables e below (T0.setTop (mkF m 52 #[s0, s1, s2, s3, .val (.int i4), s5, .val (.int i6), s7, s8] [(.int (2 : Int32)), (.int i4)])) _
  refine XS.icmpYes X0.here hx rfl (pc0 := 52) (pc' := 61) rfl (hb hby at_52) rfl (feq hc52).2 (by decide) (by decide) ?_
  show Steps p.tables e below (T0.setTop (mkF m 61 #[s0, s1, s2, s3, .val (.int i4), s5, .val (.int i6), s7, s8] [])) _
  refine XS.iload X0.here hx rfl (hb hby at_61) rfl ?_
  show Steps p.tables e below (T0.setTop (mkF m 63 #[s0, s1, s2, s3, .val (.int i4), s5, .val (.int i6), s7, s8] [(.int i4)])) _
  refine XS.iconst X0.here hx rfl (hb hby at_63) ?_
  show Steps p.tables e below (T0.setTop (mkF m 64 #[s0, s1, s2, s3, .val (.int i4), s5, .val (.int i6), s7, s8] [(.int (5 : Int32)), (.int i4)])) _
  refine XS.icmpNo X0.here hx rfl (hb hby at_64) rfl (feq hc64).1 ?_
  show Steps p.tables e below (T0.setTop (mkF m 67 #[s0, s1, s2, s3, .val (.int i4), s5, .val (.int i6), s7, s8] [])) _
  refine XS.iload X0.here hx rfl (hb hby at_67) rfl ?_
  show Steps p.tables e below (T0.setTop (mkF m 69 #[s0, s1, s2, s3, .val (.int i4), s5, .val (.int i6), s7, s8] [(.int i4)])) _
  refine XS.bipush X0.here hx rfl (hb hby at_69) ?_
  show Steps p.tables e below (T0.setTop (mkF m 71 #[s0, s1, s2, s3, .val (.int i4), s5, .val (.int i6), s7, s8] [(.int (7 : Int32)), (.int i4)])) _
  refine XS.icmpNo X0.here hx rfl (hb hby at_71) rfl (feq hc71).1 ?_
  show Steps p.tables e below (T0.setTop (mkF m 74 #[s0, s1, s2, s3, .val (.int i4), s5, .val (.int i6), s7, s8] [])) _
  refine XS.iload X0.here hx rfl (hb hby at_74) rfl ?_
  show Steps p.tables e below (T0.setTop (mkF m 76 #[s0, s1, s2, s3, .val (.int i4), s5, .val (.int i6), s7, s8] [(.int i4)])) _
  refine XS.bipush X0.here hx rfl (hb hby at_76) ?_
  show Steps p.tables e below (T0.setTop (mkF m 78 #[s0, s1, s2, s3, .val (.int i4), s5, .val (.int i6), s7, s8] [(.int (9 : Int32)), (.int i4)])) _
  refine XS.icmpYes X0.here hx rfl (pc0 := 78) (pc' := 110) rfl (hb hby at_78) rfl (feq hc78).2 (by decide) (by decide) ?_
  show Steps p.tables e below (T0.setTop (mkF m 110 #[s0, s1, s2, s3, .val (.int i4), s5, .val (.int i6), s7, s8] [])) _
  refine XS.iload X0.here hx rfl (hb hby at_110) rfl ?_
  show Steps p.tables e below (T0.setTop (mkF m 112 #[s0, s1, s2, s3, .val (.int i4), s5, .val (.int i6), s7, s8] [(.int i6)])) _
  refine XS.ifNo X0.here hx rfl (hb hby at_112) rfl ((if0 _ _).trans (teq hc112).2) ?_
  show Steps p.tables e below (T0.setTop (mkF m 115 #[s0, s1, s2, s3, .val (.int i4), s5, .val (.int i6), s7, s8] [])) _
  refine XS.iconst X0.here hx rfl (hb hby at_115) ?_
  show Steps p.tables e below (T0.setTop (mkF m 116 #[s0, s1, s2, s3, .val (.int i4), s5, .val (.int i6), s7, s8] [(.int (1 : Int32))])) _
  refine XS.goto X0.here hx rfl (pc0 := 116) (pc' := 120) rfl (hb hby at_116) (by decide) (by decide) ?_
  show Steps p.tables e below (T0.setTop (mkF m 120 #[s0, s1, s2, s3, .val (.int i4), s5, .val (.int i6), s7, s8] [(.int (1 : Int32))])) _
  refine XS.istore X0.here hx rfl (hb hby at_120) rfl (l' := #[s0, s1, s2, s3, .val (.int i4), s5, .val (.int i6), s7, .val (.int (1 : Int32))]) (os0_120_own_b_tfftf hs8) ?_
  exact kt
theorem os0_120_own_b_tfftt {s0 : Slot} {s1 : Slot} {s2 : Slot} {s3 : Slot} {z4 : Value} {s5 : Slot} {z6 : Value} {s7 : Slot} {s8 : Slot} {v : Int32} (h : One s8) : storeLocals #[s0, s1, s2, s3, .val z4, s5, .val z6, s7, s8] 8 (.int v) = some #[s0, s1, s2, s3, .val z4, s5, .val z6, s7, .val (.int v)] := by
  rcases h with rfl | ⟨w, rfl, hw⟩
  · rfl
  · cases w <;> first | rfl | (simp [Value.category] at hw)
set_option maxRecDepth 65536 in
set_option maxHeartbeats 40000000 in
theorem own_b_tfftt {p : Program} {l : Launch} {e : Env} {R : Room} {s : State} {m : MethodId} {args : Array Value} {below : List Frame} {meth : Method} {c : Code} {T0 : State} {locs : List Loc} {cells slots : Nat} {Z : State} {a0 : Array Value} {h0 : Heap} (s0 : Slot) (s1 : Slot) (s2 : Slot) (s3 : Slot) (i4 : Int32) (s5 : Slot) (i6 : Int32) (s7 : Slot) (s8 : Slot)
    (X0 : Stand p l e R s m args below meth c T0 locs cells slots) (hx : p.tables.exec = Jvm.exec) (hZ : Z.Warmed39 s.vm) (hw : ∀ d ∈ tables_1, d.before a0 Z = true) (hby : c.code = code) (hml : c.maxLocals = 9) (hown : s.vm.findClass "com/example/quillwire/quillwire/codec/PacketTypeAllowsPinLaw" = some m.cls) (e0 : T0.heap = h0) (hs8 : One s8) (hc52 : ¬ (i4 = (2 : Int32))) (hc64 : ¬ (i4 = (5 : Int32))) (hc71 : ¬ (i4 = (7 : Int32))) (hc78 : ¬ (i4 = (9 : Int32))) (hc112 : ¬ (i6 = (0 : Int32))) :
    ∀ target, Steps p.tables e below (T0.setTop (mkF m 122 #[s0, s1, s2, s3, .val (.int i4), s5, .val (.int i6), s7, .val (.int (0 : Int32))] [])) target → Steps p.tables e below (T0.setTop (mkF m 49 #[s0, s1, s2, s3, .val (.int i4), s5, .val (.int i6), s7, s8] [])) target := by

  intro target kt
  show Steps p.tables e below (T0.setTop (mkF m 49 #[s0, s1, s2, s3, .val (.int i4), s5, .val (.int i6), s7, s8] [])) _
  refine XS.iload X0.here hx rfl (hb hby at_49) rfl ?_
  show Steps p.tables e below (T0.setTop (mkF m 51 #[s0, s1, s2, s3, .val (.int i4), s5, .val (.int i6), s7, s8] [(.int i4)])) _
  refine XS.iconst X0.here hx rfl (hb hby at_51) ?_
  show Steps p.tables e below (T0.setTop (mkF m 52 #[s0, s1, s2, s3, .val (.int i4), s5, .val (.int i6), s7, s8] [(.int (2 : Int32)), (.int i4)])) _
  refine XS.icmpYes X0.here hx rfl (pc0 := 52) (pc' := 61) rfl (hb hby at_52) rfl (feq hc52).2 (by decide) (by decide) ?_
  show Steps p.tables e below (T0.setTop (mkF m 61 #[s0, s1, s2, s3, .val (.int i4), s5, .val (.int i6), s7, s8] [])) _
  refine XS.iload X0.here hx rfl (hb hby at_61) rfl ?_
  show Steps p.tables e below (T0.setTop (mkF m 63 #[s0, s1, s2, s3, .val (.int i4), s5, .val (.int i6), s7, s8] [(.int i4)])) _
  refine XS.iconst X0.here hx rfl (hb hby at_63) ?_
  show Steps p.tables e below (T0.setTop (mkF m 64 #[s0, s1, s2, s3, .val (.int i4), s5, .val (.int i6), s7, s8] [(.int (5 : Int32)), (.int i4)])) _
  refine XS.icmpNo X0.here hx rfl (hb hby at_64) rfl (feq hc64).1 ?_
  show Steps p.tables e below (T0.setTop (mkF m 67 #[s0, s1, s2, s3, .val (.int i4), s5, .val (.int i6), s7, s8] [])) _
  refine XS.iload X0.here hx rfl (hb hby at_67) rfl ?_
  show Steps p.tables e below (T0.setTop (mkF m 69 #[s0, s1, s2, s3, .val (.int i4), s5, .val (.int i6), s7, s8] [(.int i4)])) _
  refine XS.bipush X0.here hx rfl (hb hby at_69) ?_
  show Steps p.tables e below (T0.setTop (mkF m 71 #[s0, s1, s2, s3, .val (.int i4), s5, .val (.int i6), s7, s8] [(.int (7 : Int32)), (.int i4)])) _
  refine XS.icmpNo X0.here hx rfl (hb hby at_71) rfl (feq hc71).1 ?_
  show Steps p.tables e below (T0.setTop (mkF m 74 #[s0, s1, s2, s3, .val (.int i4), s5, .val (.int i6), s7, s8] [])) _
  refine XS.iload X0.here hx rfl (hb hby at_74) rfl ?_
  show Steps p.tables e below (T0.setTop (mkF m 76 #[s0, s1, s2, s3, .val (.int i4), s5, .val (.int i6), s7, s8] [(.int i4)])) _
  refine XS.bipush X0.here hx rfl (hb hby at_76) ?_
  show Steps p.tables e below (T0.setTop (mkF m 78 #[s0, s1, s2, s3, .val (.int i4), s5, .val (.int i6), s7, s8] [(.int (9 : Int32)), (.int i4)])) _
  refine XS.icmpYes X0.here hx rfl (pc0 := 78) (pc' := 110) rfl (hb hby at_78) rfl (feq hc78).2 (by decide) (by decide) ?_
  show Steps p.tables e below (T0.setTop (mkF m 110 #[s0, s1, s2, s3, .val (.int i4), s5, .val (.int i6), s7, s8] [])) _
  refine XS.iload X0.here hx rfl (hb hby at_110) rfl ?_
  show Steps p.tables e below (T0.setTop (mkF m 112 #[s0, s1, s2, s3, .val (.int i4), s5, .val (.int i6), s7, s8] [(.int i6)])) _
  refine XS.ifYes X0.here hx rfl (pc0 := 112) (pc' := 119) rfl (hb hby at_112) rfl ((if0 _ _).trans (feq hc112).2) (by decide) (by decide) ?_
  show Steps p.tables e below (T0.setTop (mkF m 119 #[s0, s1, s2, s3, .val (.int i4), s5, .val (.int i6), s7, s8] [])) _
  refine XS.iconst X0.here hx rfl (hb hby at_119) ?_
  show Steps p.tables e below (T0.setTop (mkF m 120 #[s0, s1, s2, s3, .val (.int i4), s5, .val (.int i6), s7, s8] [(.int (0 : Int32))])) _
  refine XS.istore X0.here hx rfl (hb hby at_120) rfl (l' := #[s0, s1, s2, s3, .val (.int i4), s5, .val (.int i6), s7, .val (.int (0 : Int32))]) (os0_120_own_b_tfftt hs8) ?_
  exact kt
set_option maxRecDepth 65536 in
theorem own_midB {p : Program} {l : Launch} {e : Env} {R : Room} {s : State} {m : MethodId} {args : Array Value} {below : List Frame} {meth : Method} {c : Code} {T0 : State} {locs : List Loc} {cells slots : Nat} {Z : State} {a0 : Array Value} {h0 : Heap} (t f0 l0 md i : Int32) (y : Addr) (fl lv : Int32) (X0 : Stand p l e R s m args below meth c T0 locs cells slots) (hx : p.tables.exec = Jvm.exec) (hZ : Z.Warmed39 s.vm) (hw : ∀ d ∈ tables_1, d.before a0 Z = true) (hby : c.code = code) (hml : c.maxLocals = 9) (hown : s.vm.findClass "com/example/quillwire/quillwire/codec/PacketTypeAllowsPinLaw" = some m.cls) (e0 : T0.heap = h0) : ∀ target, Steps p.tables e below (T0.setTop (mkF m 122 #[.val (.int t), .val (.int f0), .val (.int l0), .val (.int md), .val (.int i), .val (.ref y), .val (.int fl), .val (.int lv), .val (.int (own_ex i fl lv))] [])) target → Steps p.tables e below (T0.setTop (mkF m 49 #[.val (.int t), .val (.int f0), .val (.int l0), .val (.int md), .val (.int i), .val (.ref y), .val (.int fl), .val (.int lv), .unset] [])) target := by
  intro target k
  by_cases q2 : i = (2 : Int32)
  · have ee : own_ex i fl lv = 1 := by simp [own_ex, q2]
    rw [ee] at k
    exact own_b_f _ _ _ _ _ _ _ _ _ X0 hx hZ hw hby hml hown e0 One.u q2 _ k
  by_cases q : i = (5 : Int32) ∨ i = (7 : Int32) ∨ i = (9 : Int32)
  · have to81 : Steps p.tables e below (T0.setTop (mkF m 81 #[.val (.int t), .val (.int f0), .val (.int l0), .val (.int md), .val (.int i), .val (.ref y), .val (.int fl), .val (.int lv), .unset] [])) target → Steps p.tables e below (T0.setTop (mkF m 49 #[.val (.int t), .val (.int f0), .val (.int l0), .val (.int md), .val (.int i), .val (.ref y), .val (.int fl), .val (.int lv), .unset] [])) target := fun k' => by
      by_cases q5 : i = (5 : Int32)
      · exact own_b_tt _ _ _ _ _ _ _ _ _ X0 hx hZ hw hby hml hown e0 q2 q5 _ k'
      by_cases q7 : i = (7 : Int32)
      · exact own_b_tft _ _ _ _ _ _ _ _ _ X0 hx hZ hw hby hml hown e0 q2 q5 q7 _ k'
      have q9 : i = (9 : Int32) := (q.resolve_left q5).resolve_left q7
      exact own_b_tfff _ _ _ _ _ _ _ _ _ X0 hx hZ hw hby hml hown e0 q2 q5 q7 q9 _ k'
    refine to81 ?_
    by_cases r2 : fl = (2 : Int32)
    · have ee : own_ex i fl lv = 1 := by unfold own_ex; rw [if_neg q2, if_pos q, if_pos r2]
      rw [ee] at k
      exact own_c_t _ _ _ _ _ _ _ _ _ X0 hx hZ hw hby hml hown e0 One.u r2 _ k
    by_cases r3 : lv = (3 : Int32)
    · by_cases r10 : fl = (10 : Int32)
      · have ee : own_ex i fl lv = 1 := by unfold own_ex; rw [if_neg q2, if_pos q, if_neg r2, if_pos r3, if_pos r10]
        rw [ee] at k
        exact own_c_fff _ _ _ _ _ _ _ _ _ X0 hx hZ hw hby hml hown e0 One.u r2 r3 r10 _ k
      · have ee : own_ex i fl lv = 0 := by unfold own_ex; rw [if_neg q2, if_pos q, if_neg r2, if_pos r3, if_neg r10]
        rw [ee] at k
        exact own_c_fft _ _ _ _ _ _ _ _ _ X0 hx hZ hw hby hml hown e0 One.u r2 r3 r10 _ k
    · have ee : own_ex i fl lv = 0 := by unfold own_ex; rw [if_neg q2, if_pos q, if_neg r2, if_neg r3]
      rw [ee] at k
      exact own_c_ft _ _ _ _ _ _ _ _ _ X0 hx hZ hw hby hml hown e0 One.u r2 r3 _ k
  · have q5 : ¬ (i = (5 : Int32)) := fun z => q (Or.inl z)
    have q7 : ¬ (i = (7 : Int32)) := fun z => q (Or.inr (Or.inl z))
    have q9 : ¬ (i = (9 : Int32)) := fun z => q (Or.inr (Or.inr z))
    by_cases r0 : fl = (0 : Int32)
    · have ee : own_ex i fl lv = 1 := by unfold own_ex; rw [if_neg q2, if_neg q, if_pos r0]
      rw [ee] at k
      exact own_b_tfftf _ _ _ _ _ _ _ _ _ X0 hx hZ hw hby hml hown e0 One.u q2 q5 q7 q9 r0 _ k
    · have ee : own_ex i fl lv = 0 := by unfold own_ex; rw [if_neg q2, if_neg q, if_neg r0]
      rw [ee] at k
      exact own_b_tfftt _ _ _ _ _ _ _ _ _ X0 hx hZ hw hby hml hown e0 One.u q2 q5 q7 q9 r0 _ k
set_option maxRecDepth 65536 in
theorem own_mid {p : Program} {l : Launch} {e : Env} {R : Room} {s : State} {m : MethodId} {args : Array Value} {below : List Frame} {meth : Method} {c : Code} {T0 : State} {locs : List Loc} {cells slots : Nat} {Z : State} {a0 : Array Value} {h0 : Heap} (t f0 l0 md i : Int32) (y : Addr) (X0 : Stand p l e R s m args below meth c T0 locs cells slots) (hx : p.tables.exec = Jvm.exec) (hZ : Z.Warmed39 s.vm) (hw : ∀ d ∈ tables_1, d.before a0 Z = true) (hby : c.code = code) (hml : c.maxLocals = 9) (hown : s.vm.findClass "com/example/quillwire/quillwire/codec/PacketTypeAllowsPinLaw" = some m.cls) (e0 : T0.heap = h0) : ∀ target, Steps p.tables e below (T0.setTop (mkF m 122 #[.val (.int t), .val (.int f0), .val (.int l0), .val (.int md), .val (.int i), .val (.ref y), .val (.int (own_fl f0 md)), .val (.int (own_lv l0 md)), .val (.int (own_ex i (own_fl f0 md) (own_lv l0 md)))] [])) target → Steps p.tables e below (T0.setTop (mkF m 16 #[.val (.int t), .val (.int f0), .val (.int l0), .val (.int md), .val (.int i), .val (.ref y), .unset, .unset, .unset] [])) target := by
  intro target k
  replace k := own_midB t f0 l0 md i y (own_fl f0 md) (own_lv l0 md) X0 hx hZ hw hby hml hown e0 target k
  by_cases c1 : (md &&& (1 : Int32)) = (0 : Int32)
  · have e1 : own_fl f0 md = f0 := if_pos c1
    rw [e1] at k
    by_cases c2 : (md &&& (2 : Int32)) = (0 : Int32)
    · have e2 : own_lv l0 md = l0 := if_pos c2
      rw [e2] at k
      exact own_a_tt _ _ _ _ _ _ _ _ _ X0 hx hZ hw hby hml hown e0 One.u One.u c1 c2 _ k
    · have e2 : own_lv l0 md = ((3 : Int32) + (l0 &&& (1 : Int32))) := if_neg c2
      rw [e2] at k
      exact own_a_tf _ _ _ _ _ _ _ _ _ X0 hx hZ hw hby hml hown e0 One.u One.u c1 c2 _ k
  · have e1 : own_fl f0 md = (f0 &&& (15 : Int32)) := if_neg c1
    rw [e1] at k
    by_cases c2 : (md &&& (2 : Int32)) = (0 : Int32)
    · have e2 : own_lv l0 md = l0 := if_pos c2
      rw [e2] at k
      exact own_a_ft _ _ _ _ _ _ _ _ _ X0 hx hZ hw hby hml hown e0 One.u One.u c1 c2 _ k
    · have e2 : own_lv l0 md = ((3 : Int32) + (l0 &&& (1 : Int32))) := if_neg c2
      rw [e2] at k
      exact own_a_ff _ _ _ _ _ _ _ _ _ X0 hx hZ hw hby hml hown e0 One.u One.u c1 c2 _ k
theorem pn_0 : plainName "com/example/quillwire/quillwire/codec/PacketTypeAllowsPinLaw" = true := by first | (simp [plainName, overriddenIn]; done) | decide +kernel
theorem pd_0_0 : parseMethodDescriptor "(I)Lcom/example/quillwire/quillwire/codec/PacketType;" = some ⟨[.int], some (.object "com/example/quillwire/quillwire/codec/PacketType")⟩ := by decide +kernel
theorem pd_0_1 : parseMethodDescriptor "(II)Z" = some ⟨[.int, .int], some .boolean⟩ := by decide +kernel
theorem ef_0 (m : MethodId) (x0 : Int32) (x1 : Int32) (x2 : Int32) (x3 : Int32) : entryFrame m #[(.int x0), (.int x1), (.int x2), (.int x3)] maxLocals = mkF m 0 #[.val (.int x0), .val (.int x1), .val (.int x2), .val (.int x3), .unset, .unset, .unset, .unset, .unset] [] := by first | (simp [entryFrame, mkF, argsToLocals, Value.category, maxLocals]; done) | rfl
theorem own_allow (l : Launch) (Z : State) (a0 : Array Value) (hw : ∀ d ∈ tables_1, d.before a0 Z = true) (a1 : Addr) (p2 p3 fg : Int32) (h0 : Heap) (n0 : Nat) (Z0 : n0 ≤ h0.size) (F : Fld Z h0 a1 "com/example/quillwire/quillwire/codec/PacketType" "flags" "I" (.int fg)) : MetFree l (⟨"com/example/quillwire/quillwire/codec/PacketType", "allows", "(II)Z"⟩ : MethodName) (head1 (Jvm.Cond.code (⟨"com/example/quillwire/quillwire/codec/PacketType", "allows", "(II)Z"⟩ : MethodName) prog_52_method_7_code 3 (some .boolean) :: []) ({ frames := 0, cells := 0, slots := 0, locals := 0 } : Room)) (fun a U => a = #[(.ref a1), (.int p2), (.int p3)] ∧ Z.Warmed39 U.vm ∧ U.heap = h0) (fun _ _ _ _ _ => True) (fun _ U o U' => ∃ v L, o = .returned v ∧ QV (some (.int (own_al fg p2 p3))) h0 n0 v U'.heap L ∧ FrameEnd U o U' L ({ frames := 0, cells := 0, slots := 0, locals := 0 } : Room).cells ({ frames := 0, cells := 0, slots := 0, locals := 0 } : Room).slots) := by
  unfold own_al
  by_cases c1 : fg = (-1 : Int32)
  · rw [if_pos c1]
    exact rm2_t l Z a0 hw [] a1 p2 p3 fg h0 n0 Z0 F c1
  rw [if_neg c1]
  by_cases c2 : p2 = fg
  · rw [if_pos c2]
    exact rm2_ft l Z a0 hw [] a1 p2 p3 fg h0 n0 Z0 F c1 c2
  rw [if_neg c2]
  by_cases c3 : p3 = (3 : Int32)
  · rw [if_pos c3]
    by_cases c4 : fg = (2 : Int32)
    · rw [if_pos c4]
      by_cases c5 : p2 = (10 : Int32)
      · rw [if_pos c5]
        exact rm2_fffff l Z a0 hw [] a1 p2 p3 fg h0 n0 Z0 F c1 c2 c3 c4 c5
      · rw [if_neg c5]
        exact rm2_fffft l Z a0 hw [] a1 p2 p3 fg h0 n0 Z0 F c1 c2 c3 c4 c5
    · rw [if_neg c4]
      exact rm2_ffft l Z a0 hw [] a1 p2 p3 fg h0 n0 Z0 F c1 c2 c3 c4
  · rw [if_neg c3]
    exact rm2_fft l Z a0 hw [] a1 p2 p3 fg h0 n0 Z0 F c1 c2 c3
def Q0 (Z : State) (p1 : Int32) (p2 : Int32) (p3 : Int32) (p4 : Int32) (h0 : Heap) (n0 : Nat) (v : Option Value) (h : Heap) (L : List Loc) : Prop := v = some (.int (1 : Int32)) ∧ Fr n0 L
set_option maxRecDepth 65536 in
set_option maxHeartbeats 40000000 in
theorem rm0 (l : Launch) (Z : State) (a0 : Array Value) (hw : ∀ d ∈ tables_1, d.before a0 Z = true) (ws : List Jvm.Cond) (p1 : Int32) (p2 : Int32) (p3 : Int32) (p4 : Int32) (y : Addr) (h0 : Heap) (n0 : Nat) (Z0 : n0 ≤ h0.size) (E_y : Exa Z h0 y "com/example/quillwire/quillwire/codec/PacketType") (pickC : MetFree l (⟨"com/example/quillwire/quillwire/codec/PacketTypeAllowsPinLaw", "pick", "(I)Lcom/example/quillwire/quillwire/codec/PacketType;"⟩ : MethodName) (head1 (Jvm.Cond.code (⟨"com/example/quillwire/quillwire/codec/PacketTypeAllowsPinLaw", "pick", "(I)Lcom/example/quillwire/quillwire/codec/PacketType;"⟩ : MethodName) method_2_code 1 (some (.object "com/example/quillwire/quillwire/codec/PacketType")) :: []) ({ frames := 0, cells := 0, slots := 0, locals := 0 } : Room)) (fun a U => a = #[(.int ((p1 &&& (2147483647 : Int32)) % (14 : Int32)))] ∧ Z.Warmed39 U.vm ∧ U.heap = h0) (fun _ _ _ _ _ => True) (fun _ U o U' => ∃ v L, o = .returned v ∧ QV (some (.ref y)) h0 n0 v U'.heap L ∧ FrameEnd U o U' L ({ frames := 0, cells := 0, slots := 0, locals := 0 } : Room).cells ({ frames := 0, cells := 0, slots := 0, locals := 0 } : Room).slots)) (allowC : MetFree l (⟨"com/example/quillwire/quillwire/codec/PacketType", "allows", "(II)Z"⟩ : MethodName) (head1 (Jvm.Cond.code (⟨"com/example/quillwire/quillwire/codec/PacketType", "allows", "(II)Z"⟩ : MethodName) prog_52_method_7_code 3 (some .boolean) :: []) ({ frames := 0, cells := 0, slots := 0, locals := 0 } : Room)) (fun a U => a = #[(.ref y), (.int (own_fl p2 p4)), (.int (own_lv p3 p4))] ∧ Z.Warmed39 U.vm ∧ U.heap = h0) (fun _ _ _ _ _ => True) (fun _ U o U' => ∃ v L, o = .returned v ∧ QV (some (.int (own_ex ((p1 &&& (2147483647 : Int32)) % (14 : Int32)) (own_fl p2 p4) (own_lv p3 p4)))) h0 n0 v U'.heap L ∧ FrameEnd U o U' L ({ frames := 0, cells := 0, slots := 0, locals := 0 } : Room).cells ({ frames := 0, cells := 0, slots := 0, locals := 0 } : Room).slots)) :
    MetFree l x (head1 (Jvm.Cond.code x code maxLocals ret :: ws) room_1) (fun a U => a = #[(.int p1), (.int p2), (.int p3), (.int p4)] ∧ Z.Warmed39 U.vm ∧ U.heap = h0) (fun _ _ _ _ _ => True) (fun _ U o U' => ∃ v L, o = .returned v ∧ Q0 Z p1 p2 p3 p4 h0 n0 v U'.heap L ∧ FrameEnd U o U' L room_1.cells room_1.slots) := by
  refine MetFree.of_bodySF (plainFor_of_name pn_0) hisR ?_
  intro p e s m args below meth c s₁ Bd hml0 hP hK
  obtain ⟨rfl, hZ, hh⟩ := hP
  have hx := Bd.exec
  have hby := Bd.bytes
  have hml : c.maxLocals = 9 := hml0
  have hown : s.vm.findClass "com/example/quillwire/quillwire/codec/PacketTypeAllowsPinLaw" = some m.cls := findClass_of_methodNamed Bd.named
  have hnm := (name_of_methodNamed Bd.named Bd.method).1
  have X0 : Stand p l e room_1 s m #[(.int p1), (.int p2), (.int p3), (.int p4)] below meth c s₁ [] 0 0 := Stand.of_body Bd
  have e0 : s₁.heap = h0 := by rw [← hh, Bd.state]; rfl
  have N0 := Fr.nil n0
  have pre0 : ∀ t, Steps p.tables e below (s₁.setTop (mkF m 0 #[.val (.int p1), .val (.int p2), .val (.int p3), .val (.int p4), .unset, .unset, .unset, .unset, .unset] [])) t → Steps p.tables e below (s₁.setTop (entryFrame m #[(.int p1), (.int p2), (.int p3), (.int p4)] maxLocals)) t := fun t k => castTop (ef_0 m p1 p2 p3 p4) k
  obtain ⟨_, _, ⟨T5, L5, k5, n5⟩, -, X5, ⟨Lc5, hQ5, l5, y5, z5⟩, st5⟩ := Jvm.LawKit.callS X0 hx (y := (⟨"com/example/quillwire/quillwire/codec/PacketTypeAllowsPinLaw", "pick", "(I)Lcom/example/quillwire/quillwire/codec/PacketType;"⟩ : MethodName)) hown (mvT hZ (hw _ (List.mem_of_getElem? (i := 1) rfl))) (mvT hZ (hw _ (List.mem_of_getElem? (i := 2) rfl))) (mvT hZ (hw _ (List.mem_of_getElem? (i := 3) rfl))) (mvT hZ (hw _ (List.mem_of_getElem? (i := 4) rfl))) (by decide) (backOf (W := 0) (pickC) hZ (hw _ (List.mem_of_getElem? (i := 4) rfl)) (hw _ (List.mem_of_getElem? (i := 3) rfl)) (by decide) (by decide)) (g := (mkF m 11 #[.val (.int p1), .val (.int p2), .val (.int p3), .val (.int p4), .val (.int ((p1 &&& (2147483647 : Int32)) % (14 : Int32))), .unset, .unset, .unset, .unset] [(.int ((p1 &&& (2147483647 : Int32)) % (14 : Int32)))])) rfl (by rw [hml]; rfl) (argsL := [(.int ((p1 &&& (2147483647 : Int32)) % (14 : Int32)))]) (rest := []) (lenOf pd_0_0 rfl) rfl (by show 2 * 0 + _ ≤ _; exact Nat.le_of_eq rfl) (hb hby at_11) (fun _ _ => ⟨rfl, e0, (by decide : 0 + 0 ≤ _), (by decide : 0 + 0 ≤ _)⟩)
  dsimp only [Pt.U, Pt.locs, Pt.cells, Pt.slots] at X5 l5 y5 z5 st5 hQ5
  subst l5 y5 z5
  obtain ⟨rfl, N5q, hh5⟩ := hQ5
  have N5 := Fr.app N0 N5q
  obtain ⟨cq6, kq6, q6a, q6b, q6c⟩ := isOf hZ hh5 E_y
  obtain ⟨_, _, ⟨T6, L6, k6, n6⟩, -, X6, ⟨Lc6, hQ6, l6, y6, z6⟩, st6⟩ := X5.virtualBack hx (y := (⟨"com/example/quillwire/quillwire/codec/PacketType", "allows", "(II)Z"⟩ : MethodName)) (z := (⟨"com/example/quillwire/quillwire/codec/PacketType", "allows", "(II)Z"⟩ : MethodName)) hown (mvT hZ (hw _ (List.mem_of_getElem? (i := 8) rfl))) (mvT hZ (hw _ (List.mem_of_getElem? (i := 9) rfl))) (notFace_of_selects (args := #[]) (mvT hZ (hw _ (List.mem_of_getElem? (i := 11) rfl)))) (mvT hZ (hw _ (List.mem_of_getElem? (i := 11) rfl))) (mvT hZ (hw _ (List.mem_of_getElem? (i := 10) rfl))) (by decide) (backOf (W := 0) (allowC) hZ (hw _ (List.mem_of_getElem? (i := 12) rfl)) (hw _ (List.mem_of_getElem? (i := 6) rfl)) (by decide) (by decide)) q6a q6c (g := (mkF m 128 #[.val (.int p1), .val (.int p2), .val (.int p3), .val (.int p4), .val (.int ((p1 &&& (2147483647 : Int32)) % (14 : Int32))), .val (.ref y), .val (.int (own_fl p2 p4)), .val (.int (own_lv p3 p4)), .val (.int (own_ex ((p1 &&& (2147483647 : Int32)) % (14 : Int32)) (own_fl p2 p4) (own_lv p3 p4)))] [(.int (own_lv p3 p4)), (.int (own_fl p2 p4)), (.ref y)])) rfl (by rw [hml]; rfl) (Steps.refl _) (argsL := [(.int (own_fl p2 p4)), (.int (own_lv p3 p4))]) (rest := []) (lenOf pd_0_1 rfl) rfl (by show 2 * 0 + _ ≤ _; exact Nat.le_of_eq rfl) (hb hby at_128) (fun _ _ => ⟨rfl, hh5, (by decide : 0 + 0 ≤ _), (by decide : 0 + 0 ≤ _)⟩)
  dsimp only [Pt.U, Pt.locs, Pt.cells, Pt.slots] at X6 l6 y6 z6 st6 hQ6
  subst l6 y6 z6
  obtain ⟨rfl, N6q, hh6⟩ := hQ6
  have N6 := Fr.app N5 N6q
  obtain ⟨fs, hr, hrun, hended, hW, hsame⟩ := X6.leave (v := some (.int (1 : Int32))) (fun h => by rw [Bd.returns] at h; cases h)
  refine ⟨_, _, pre0 _ ?_, hrun, hended, _, _, rfl, ?_, ⟨_, rfl⟩, hW, hsame.mono (by decide) (by decide)⟩
  · show Steps p.tables e below (s₁.setTop (mkF m 0 #[.val (.int p1), .val (.int p2), .val (.int p3), .val (.int p4), .unset, .unset, .unset, .unset, .unset] [])) _
    refine XS.iloadN X0.here hx rfl (hb hby at_0) rfl ?_
    show Steps p.tables e below (s₁.setTop (mkF m 1 #[.val (.int p1), .val (.int p2), .val (.int p3), .val (.int p4), .unset, .unset, .unset, .unset, .unset] [(.int p1)])) _
    refine X0.ldcInt hx hown (mvT hZ (hw _ (List.mem_of_getElem? (i := 0) rfl))) (g := (mkF m 1 #[.val (.int p1), .val (.int p2), .val (.int p3), .val (.int p4), .unset, .unset, .unset, .unset, .unset] [(.int p1)])) rfl (hb hby at_1) _ ?_
    show Steps p.tables e below (s₁.setTop (mkF m 3 #[.val (.int p1), .val (.int p2), .val (.int p3), .val (.int p4), .unset, .unset, .unset, .unset, .unset] [(.int (2147483647 : Int32)), (.int p1)])) _
    refine XS.iand X0.here hx rfl (hb hby at_3) rfl ?_
    show Steps p.tables e below (s₁.setTop (mkF m 4 #[.val (.int p1), .val (.int p2), .val (.int p3), .val (.int p4), .unset, .unset, .unset, .unset, .unset] [(.int (p1 &&& (2147483647 : Int32)))])) _
    refine XS.bipush X0.here hx rfl (hb hby at_4) ?_
    show Steps p.tables e below (s₁.setTop (mkF m 6 #[.val (.int p1), .val (.int p2), .val (.int p3), .val (.int p4), .unset, .unset, .unset, .unset, .unset] [(.int (14 : Int32)), (.int (p1 &&& (2147483647 : Int32)))])) _
    refine Jvm.RoadKit.iremM (g := (mkF m 6 #[.val (.int p1), .val (.int p2), .val (.int p3), .val (.int p4), .unset, .unset, .unset, .unset, .unset] [(.int (14 : Int32)), (.int (p1 &&& (2147483647 : Int32)))])) X0 hx rfl (hb hby at_6) rfl (by decide) ?_
    show Steps p.tables e below (s₁.setTop (mkF m 7 #[.val (.int p1), .val (.int p2), .val (.int p3), .val (.int p4), .unset, .unset, .unset, .unset, .unset] [(.int ((p1 &&& (2147483647 : Int32)) % (14 : Int32)))])) _
    refine XS.istore X0.here hx rfl (hb hby at_7) rfl (l' := #[.val (.int p1), .val (.int p2), .val (.int p3), .val (.int p4), .val (.int ((p1 &&& (2147483647 : Int32)) % (14 : Int32))), .unset, .unset, .unset, .unset]) rfl ?_
    show Steps p.tables e below (s₁.setTop (mkF m 9 #[.val (.int p1), .val (.int p2), .val (.int p3), .val (.int p4), .val (.int ((p1 &&& (2147483647 : Int32)) % (14 : Int32))), .unset, .unset, .unset, .unset] [])) _
    refine XS.iload X0.here hx rfl (hb hby at_9) rfl ?_
    show Steps p.tables e below (s₁.setTop (mkF m 11 #[.val (.int p1), .val (.int p2), .val (.int p3), .val (.int p4), .val (.int ((p1 &&& (2147483647 : Int32)) % (14 : Int32))), .unset, .unset, .unset, .unset] [(.int ((p1 &&& (2147483647 : Int32)) % (14 : Int32)))])) _
    refine st5 _ ?_
    show Steps p.tables e below (T5.setTop (mkF m 14 #[.val (.int p1), .val (.int p2), .val (.int p3), .val (.int p4), .val (.int ((p1 &&& (2147483647 : Int32)) % (14 : Int32))), .unset, .unset, .unset, .unset] [(.ref y)])) _
    refine XS.astore X5.here hx rfl (hb hby at_14) rfl rfl (l' := #[.val (.int p1), .val (.int p2), .val (.int p3), .val (.int p4), .val (.int ((p1 &&& (2147483647 : Int32)) % (14 : Int32))), .val (.ref y), .unset, .unset, .unset]) rfl ?_
    show Steps p.tables e below (T5.setTop (mkF m 16 #[.val (.int p1), .val (.int p2), .val (.int p3), .val (.int p4), .val (.int ((p1 &&& (2147483647 : Int32)) % (14 : Int32))), .val (.ref y), .unset, .unset, .unset] [])) _
    refine own_mid p1 p2 p3 p4 ((p1 &&& (2147483647 : Int32)) % (14 : Int32)) y X5 hx hZ hw hby hml hown hh5 _ ?_
    show Steps p.tables e below (T5.setTop (mkF m 122 #[.val (.int p1), .val (.int p2), .val (.int p3), .val (.int p4), .val (.int ((p1 &&& (2147483647 : Int32)) % (14 : Int32))), .val (.ref y), .val (.int (own_fl p2 p4)), .val (.int (own_lv p3 p4)), .val (.int (own_ex ((p1 &&& (2147483647 : Int32)) % (14 : Int32)) (own_fl p2 p4) (own_lv p3 p4)))] [])) _
    refine XS.aload X5.here hx rfl (hb hby at_122) rfl rfl ?_
    show Steps p.tables e below (T5.setTop (mkF m 124 #[.val (.int p1), .val (.int p2), .val (.int p3), .val (.int p4), .val (.int ((p1 &&& (2147483647 : Int32)) % (14 : Int32))), .val (.ref y), .val (.int (own_fl p2 p4)), .val (.int (own_lv p3 p4)), .val (.int (own_ex ((p1 &&& (2147483647 : Int32)) % (14 : Int32)) (own_fl p2 p4) (own_lv p3 p4)))] [(.ref y)])) _
    refine XS.iload X5.here hx rfl (hb hby at_124) rfl ?_
    show Steps p.tables e below (T5.setTop (mkF m 126 #[.val (.int p1), .val (.int p2), .val (.int p3), .val (.int p4), .val (.int ((p1 &&& (2147483647 : Int32)) % (14 : Int32))), .val (.ref y), .val (.int (own_fl p2 p4)), .val (.int (own_lv p3 p4)), .val (.int (own_ex ((p1 &&& (2147483647 : Int32)) % (14 : Int32)) (own_fl p2 p4) (own_lv p3 p4)))] [(.int (own_fl p2 p4)), (.ref y)])) _
    refine XS.iload X5.here hx rfl (hb hby at_126) rfl ?_
    show Steps p.tables e below (T5.setTop (mkF m 128 #[.val (.int p1), .val (.int p2), .val (.int p3), .val (.int p4), .val (.int ((p1 &&& (2147483647 : Int32)) % (14 : Int32))), .val (.ref y), .val (.int (own_fl p2 p4)), .val (.int (own_lv p3 p4)), .val (.int (own_ex ((p1 &&& (2147483647 : Int32)) % (14 : Int32)) (own_fl p2 p4) (own_lv p3 p4)))] [(.int (own_lv p3 p4)), (.int (own_fl p2 p4)), (.ref y)])) _
    refine st6.trans ?_
    show Steps p.tables e below (T6.setTop (mkF m 131 #[.val (.int p1), .val (.int p2), .val (.int p3), .val (.int p4), .val (.int ((p1 &&& (2147483647 : Int32)) % (14 : Int32))), .val (.ref y), .val (.int (own_fl p2 p4)), .val (.int (own_lv p3 p4)), .val (.int (own_ex ((p1 &&& (2147483647 : Int32)) % (14 : Int32)) (own_fl p2 p4) (own_lv p3 p4)))] [(.int (own_ex ((p1 &&& (2147483647 : Int32)) % (14 : Int32)) (own_fl p2 p4) (own_lv p3 p4)))])) _
    refine XS.iload X6.here hx rfl (hb hby at_131) rfl ?_
    show Steps p.tables e below (T6.setTop (mkF m 133 #[.val (.int p1), .val (.int p2), .val (.int p3), .val (.int p4), .val (.int ((p1 &&& (2147483647 : Int32)) % (14 : Int32))), .val (.ref y), .val (.int (own_fl p2 p4)), .val (.int (own_lv p3 p4)), .val (.int (own_ex ((p1 &&& (2147483647 : Int32)) % (14 : Int32)) (own_fl p2 p4) (own_lv p3 p4)))] [(.int (own_ex ((p1 &&& (2147483647 : Int32)) % (14 : Int32)) (own_fl p2 p4) (own_lv p3 p4))), (.int (own_ex ((p1 &&& (2147483647 : Int32)) % (14 : Int32)) (own_fl p2 p4) (own_lv p3 p4)))])) _
    refine XS.icmpNo X6.here hx rfl (hb hby at_133) rfl (teq (rfl : (own_ex ((p1 &&& (2147483647 : Int32)) % (14 : Int32)) (own_fl p2 p4) (own_lv p3 p4)) = (own_ex ((p1 &&& (2147483647 : Int32)) % (14 : Int32)) (own_fl p2 p4) (own_lv p3 p4)))).2 ?_
    show Steps p.tables e below (T6.setTop (mkF m 136 #[.val (.int p1), .val (.int p2), .val (.int p3), .val (.int p4), .val (.int ((p1 &&& (2147483647 : Int32)) % (14 : Int32))), .val (.ref y), .val (.int (own_fl p2 p4)), .val (.int (own_lv p3 p4)), .val (.int (own_ex ((p1 &&& (2147483647 : Int32)) % (14 : Int32)) (own_fl p2 p4) (own_lv p3 p4)))] [])) _
    refine XS.iconst X6.here hx rfl (hb hby at_136) ?_
    show Steps p.tables e below (T6.setTop (mkF m 137 #[.val (.int p1), .val (.int p2), .val (.int p3), .val (.int p4), .val (.int ((p1 &&& (2147483647 : Int32)) % (14 : Int32))), .val (.ref y), .val (.int (own_fl p2 p4)), .val (.int (own_lv p3 p4)), .val (.int (own_ex ((p1 &&& (2147483647 : Int32)) % (14 : Int32)) (own_fl p2 p4) (own_lv p3 p4)))] [(.int (1 : Int32))])) _
    refine XS.goto X6.here hx rfl (pc0 := 137) (pc' := 141) rfl (hb hby at_137) (by decide) (by decide) ?_
    show Steps p.tables e below (T6.setTop (mkF m 141 #[.val (.int p1), .val (.int p2), .val (.int p3), .val (.int p4), .val (.int ((p1 &&& (2147483647 : Int32)) % (14 : Int32))), .val (.ref y), .val (.int (own_fl p2 p4)), .val (.int (own_lv p3 p4)), .val (.int (own_ex ((p1 &&& (2147483647 : Int32)) % (14 : Int32)) (own_fl p2 p4) (own_lv p3 p4)))] [(.int (1 : Int32))])) _
    exact retN X6 hx (t := .boolean) Bd.returns (by simp) (hb hby at_141) hr
  · show Q0 Z p1 p2 p3 p4 h0 n0 _ T6.heap _
    exact ⟨rfl, N6⟩
set_option maxRecDepth 65536 in
set_option maxHeartbeats 40000000 in
theorem comes_1 {Post : Tables → Env → Array Value → State → Outcome → State → Prop} (hpost : ∀ tb e args s v u, (limb_1_1.after args s (.returned v) u = true ∧ limb_1_2.after args s (.returned v) u = true ∧ True) → FrameEnd s (.returned v) u (Jvm.fieldLocs frame_1_writes args s ++ Jvm.arrayLocs frame_1_arrays args s ++ Jvm.staticLocs frame_1_statics s) 0 0 → Post tb e args s (.returned v) u) :
    ArmFor flags0 classFile x code maxLocals ret World_1 tables_1 room_1 Calls_1 rest_1 Pre_1 Post := by
  intro l hfl _ _ p e ha hc hk s m args below hf hA hF happ hP
  obtain ⟨hcalls, hrest, hpre⟩ := hP
  obtain ⟨-, -, -, hnamed, -, -, -, hat⟩ := (Spec.applies_iff hf).mp happ
  obtain ⟨hg, hn⟩ := and_e (Cond.before_iff.mp (show (Jvm.Cond.and given_1 narrow_1).before args s = true from hpre))
  obtain ⟨g7, g8⟩ := and_e hg
  obtain ⟨g9, g10⟩ := and_e g8
  obtain ⟨g11, g12⟩ := and_e g10
  obtain ⟨g13, g14⟩ := and_e g12
  obtain ⟨w0, w1, w2, w3, rfl⟩ : ∃ w0 w1 w2 w3 : Value, args = #[w0, w1, w2, w3] := by
    have hs : args.size = 4 := by simpa [Cond.value, given_1] using g7
    obtain ⟨L⟩ := args
    match L, hs with
    | [w0, w1, w2, w3], _ => exact ⟨w0, w1, w2, w3, rfl⟩
  have hw := fun d (hd : d ∈ tables_1) => atoms_spec (ws := Jvm.Cond.code x code maxLocals ret :: tables_1) hat d (List.mem_cons_of_mem _ hd)
  have hfit : Fit s := fun {y c} hc i hi => by
    obtain ⟨ha, rfl⟩ := Array.getElem?_eq_some_iff.mp hc
    have q := List.all_eq_true.mp ((Array.all_eq_true_iff_forall_mem.mp hF) _ (Array.getElem_mem ha)) i (List.mem_range.mpr hi)
    simpa [Array.getElem?_eq_getElem hi] using q
  obtain ⟨i0, ei0⟩ := is_v g9
  obtain rfl : w0 = (.int i0) := Option.some.inj ei0
  obtain ⟨i1, ei1⟩ := is_v g11
  obtain rfl : w1 = (.int i1) := Option.some.inj ei1
  obtain ⟨i2, ei2⟩ := is_v g13
  obtain rfl : w2 = (.int i2) := Option.some.inj ei2
  obtain ⟨i3, ei3⟩ := is_v g14
  obtain rfl : w3 = (.int i3) := Option.some.inj ei3
  obtain ⟨pn0, hn⟩ := and_e hn
  obtain ⟨pn1, hn⟩ := and_e hn
  obtain ⟨pn2, hn⟩ := and_e hn
  obtain ⟨pn3, hn⟩ := and_e hn
  obtain ⟨pn4, hn⟩ := and_e hn
  obtain ⟨pn5, hn⟩ := and_e hn
  obtain ⟨pn6, hn⟩ := and_e hn
  obtain ⟨pn7, hn⟩ := and_e hn
  obtain ⟨pn8, hn⟩ := and_e hn
  obtain ⟨pn9, hn⟩ := and_e hn
  obtain ⟨pn10, hn⟩ := and_e hn
  obtain ⟨pn11, hn⟩ := and_e hn
  obtain ⟨pn12, hn⟩ := and_e hn
  obtain ⟨pn13, hn⟩ := and_e hn
  obtain ⟨pn14, hn⟩ := and_e hn
  obtain ⟨pn15, hn⟩ := and_e hn
  obtain ⟨pn16, hn⟩ := and_e hn
  obtain ⟨pn17, hn⟩ := and_e hn
  obtain ⟨pn18, hn⟩ := and_e hn
  obtain ⟨pn19, hn⟩ := and_e hn
  obtain ⟨pn20, hn⟩ := and_e hn
  obtain ⟨pn21, hn⟩ := and_e hn
  obtain ⟨pn22, hn⟩ := and_e hn
  obtain ⟨pn23, hn⟩ := and_e hn
  obtain ⟨pn24, hn⟩ := and_e hn
  obtain ⟨pn25, hn⟩ := and_e hn
  obtain ⟨pn26, hn⟩ := and_e hn
  have pn27 := hn
  obtain ⟨a_CONNECT, v_CONNECT, S_CONNECT, E_CONNECT⟩ := own_pin pn0 (hw _ (List.mem_of_getElem? (i := 6) rfl)) (hw _ (List.mem_of_getElem? (i := 7) rfl))
  obtain ⟨a_PINGRESP, v_PINGRESP, S_PINGRESP, E_PINGRESP⟩ := own_pin pn2 (hw _ (List.mem_of_getElem? (i := 6) rfl)) (hw _ (List.mem_of_getElem? (i := 16) rfl))
  obtain ⟨a_UNSUBSCRIBE, v_UNSUBSCRIBE, S_UNSUBSCRIBE, E_UNSUBSCRIBE⟩ := own_pin pn4 (hw _ (List.mem_of_getElem? (i := 6) rfl)) (hw _ (List.mem_of_getElem? (i := 18) rfl))
  obtain ⟨a_PUBLISH, v_PUBLISH, S_PUBLISH, E_PUBLISH⟩ := own_pin pn6 (hw _ (List.mem_of_getElem? (i := 6) rfl)) (hw _ (List.mem_of_getElem? (i := 20) rfl))
  obtain ⟨a_CONNACK, v_CONNACK, S_CONNACK, E_CONNACK⟩ := own_pin pn8 (hw _ (List.mem_of_getElem? (i := 6) rfl)) (hw _ (List.mem_of_getElem? (i := 22) rfl))
  obtain ⟨a_PUBACK, v_PUBACK, S_PUBACK, E_PUBACK⟩ := own_pin pn10 (hw _ (List.mem_of_getElem? (i := 6) rfl)) (hw _ (List.mem_of_getElem? (i := 24) rfl))
  obtain ⟨a_SUBSCRIBE, v_SUBSCRIBE, S_SUBSCRIBE, E_SUBSCRIBE⟩ := own_pin pn12 (hw _ (List.mem_of_getElem? (i := 6) rfl)) (hw _ (List.mem_of_getElem? (i := 26) rfl))
  obtain ⟨a_SUBACK, v_SUBACK, S_SUBACK, E_SUBACK⟩ := own_pin pn14 (hw _ (List.mem_of_getElem? (i := 6) rfl)) (hw _ (List.mem_of_getElem? (i := 28) rfl))
  obtain ⟨a_PINGREQ, v_PINGREQ, S_PINGREQ, E_PINGREQ⟩ := own_pin pn16 (hw _ (List.mem_of_getElem? (i := 6) rfl)) (hw _ (List.mem_of_getElem? (i := 30) rfl))
  obtain ⟨a_UNSUBACK, v_UNSUBACK, S_UNSUBACK, E_UNSUBACK⟩ := own_pin pn18 (hw _ (List.mem_of_getElem? (i := 6) rfl)) (hw _ (List.mem_of_getElem? (i := 32) rfl))
  obtain ⟨a_DISCONNECT, v_DISCONNECT, S_DISCONNECT, E_DISCONNECT⟩ := own_pin pn20 (hw _ (List.mem_of_getElem? (i := 6) rfl)) (hw _ (List.mem_of_getElem? (i := 34) rfl))
  obtain ⟨a_PUBREC, v_PUBREC, S_PUBREC, E_PUBREC⟩ := own_pin pn22 (hw _ (List.mem_of_getElem? (i := 6) rfl)) (hw _ (List.mem_of_getElem? (i := 36) rfl))
  obtain ⟨a_PUBREL, v_PUBREL, S_PUBREL, E_PUBREL⟩ := own_pin pn24 (hw _ (List.mem_of_getElem? (i := 6) rfl)) (hw _ (List.mem_of_getElem? (i := 38) rfl))
  obtain ⟨a_PUBCOMP, v_PUBCOMP, S_PUBCOMP, E_PUBCOMP⟩ := own_pin pn26 (hw _ (List.mem_of_getElem? (i := 6) rfl)) (hw _ (List.mem_of_getElem? (i := 40) rfl))
  have f_CONNECT := own_fld v_CONNECT pn1
  have f_PINGRESP := own_fld v_PINGRESP pn3
  have f_UNSUBSCRIBE := own_fld v_UNSUBSCRIBE pn5
  have f_PUBLISH := own_fld v_PUBLISH pn7
  have f_CONNACK := own_fld v_CONNACK pn9
  have f_PUBACK := own_fld v_PUBACK pn11
  have f_SUBSCRIBE := own_fld v_SUBSCRIBE pn13
  have f_SUBACK := own_fld v_SUBACK pn15
  have f_PINGREQ := own_fld v_PINGREQ pn17
  have f_UNSUBACK := own_fld v_UNSUBACK pn19
  have f_DISCONNECT := own_fld v_DISCONNECT pn21
  have f_PUBREC := own_fld v_PUBREC pn23
  have f_PUBREL := own_fld v_PUBREL pn25
  have f_PUBCOMP := own_fld v_PUBCOMP pn27
  have hj := own_idx i0
  have Zn : s.heap.size ≤ s.heap.size := Nat.le_refl _
  generalize hjj : ((i0 &&& (2147483647 : Int32)) % (14 : Int32)) = j at hj
  obtain ⟨y, fg, E_y, F_y, pickC, agree⟩ : ∃ (y : Addr) (fg : Int32), Exa s s.heap y "com/example/quillwire/quillwire/codec/PacketType" ∧ Fld s s.heap y "com/example/quillwire/quillwire/codec/PacketType" "flags" "I" (.int fg) ∧ MetFree l (⟨"com/example/quillwire/quillwire/codec/PacketTypeAllowsPinLaw", "pick", "(I)Lcom/example/quillwire/quillwire/codec/PacketType;"⟩ : MethodName) (head1 (Jvm.Cond.code (⟨"com/example/quillwire/quillwire/codec/PacketTypeAllowsPinLaw", "pick", "(I)Lcom/example/quillwire/quillwire/codec/PacketType;"⟩ : MethodName) method_2_code 1 (some (.object "com/example/quillwire/quillwire/codec/PacketType")) :: []) ({ frames := 0, cells := 0, slots := 0, locals := 0 } : Room)) (fun a U => a = #[(.int j)] ∧ s.Warmed39 U.vm ∧ U.heap = s.heap) (fun _ _ _ _ _ => True) (fun _ U o U' => ∃ v L, o = .returned v ∧ QV (some (.ref y)) s.heap s.heap.size v U'.heap L ∧ FrameEnd U o U' L ({ frames := 0, cells := 0, slots := 0, locals := 0 } : Room).cells ({ frames := 0, cells := 0, slots := 0, locals := 0 } : Room).slots) ∧ ∀ fl lv, own_al fg fl lv = own_ex j fl lv := by
    by_cases q0 : j = (0 : Int32)
    · exact ⟨a_CONNECT, 0, E_CONNECT, Fld.start f_CONNECT, rm1_0 l s _ hw [] j a_CONNECT s.heap s.heap.size Zn S_CONNECT  q0, own_agree0 (by rw [q0]; decide) (by rw [q0]; decide)⟩
    by_cases q1 : j = (1 : Int32)
    · exact ⟨a_CONNACK, 0, E_CONNACK, Fld.start f_CONNACK, rm1_1 l s _ hw [] j a_CONNACK s.heap s.heap.size Zn S_CONNACK q0 q1, own_agree0 (by rw [q1]; decide) (by rw [q1]; decide)⟩
    by_cases q2 : j = (2 : Int32)
    · exact ⟨a_PUBLISH, -1, E_PUBLISH, Fld.start f_PUBLISH, rm1_2 l s _ hw [] j a_PUBLISH s.heap s.heap.size Zn S_PUBLISH q0 q1 q2, fun fl lv => by rw [q2]; exact own_agree2 fl lv⟩
    by_cases q3 : j = (3 : Int32)
    · exact ⟨a_PUBACK, 0, E_PUBACK, Fld.start f_PUBACK, rm1_3 l s _ hw [] j a_PUBACK s.heap s.heap.size Zn S_PUBACK q0 q1 q2 q3, own_agree0 (by rw [q3]; decide) (by rw [q3]; decide)⟩
    by_cases q4 : j = (4 : Int32)
    · exact ⟨a_PUBREC, 0, E_PUBREC, Fld.start f_PUBREC, rm1_4 l s _ hw [] j a_PUBREC s.heap s.heap.size Zn S_PUBREC q0 q1 q2 q3 q4, own_agree0 (by rw [q4]; decide) (by rw [q4]; decide)⟩
    by_cases q5 : j = (5 : Int32)
    · exact ⟨a_PUBREL, 2, E_PUBREL, Fld.start f_PUBREL, rm1_5 l s _ hw [] j a_PUBREL s.heap s.heap.size Zn S_PUBREL q0 q1 q2 q3 q4 q5, own_agree5 q2 (Or.inl q5)⟩
    by_cases q6 : j = (6 : Int32)
    · exact ⟨a_PUBCOMP, 0, E_PUBCOMP, Fld.start f_PUBCOMP, rm1_6 l s _ hw [] j a_PUBCOMP s.heap s.heap.size Zn S_PUBCOMP q0 q1 q2 q3 q4 q5 q6, own_agree0 (by rw [q6]; decide) (by rw [q6]; decide)⟩
    by_cases q7 : j = (7 : Int32)
    · exact ⟨a_SUBSCRIBE, 2, E_SUBSCRIBE, Fld.start f_SUBSCRIBE, rm1_7 l s _ hw [] j a_SUBSCRIBE s.heap s.heap.size Zn S_SUBSCRIBE q0 q1 q2 q3 q4 q5 q6 q7, own_agree5 q2 (Or.inr (Or.inl q7))⟩
    by_cases q8 : j = (8 : Int32)
    · exact ⟨a_SUBACK, 0, E_SUBACK, Fld.start f_SUBACK, rm1_8 l s _ hw [] j a_SUBACK s.heap s.heap.size Zn S_SUBACK q0 q1 q2 q3 q4 q5 q6 q7 q8, own_agree0 (by rw [q8]; decide) (by rw [q8]; decide)⟩
    by_cases q9 : j = (9 : Int32)
    · exact ⟨a_UNSUBSCRIBE, 2, E_UNSUBSCRIBE, Fld.start f_UNSUBSCRIBE, rm1_9 l s _ hw [] j a_UNSUBSCRIBE s.heap s.heap.size Zn S_UNSUBSCRIBE q0 q1 q2 q3 q4 q5 q6 q7 q8 q9, own_agree5 q2 (Or.inr (Or.inr q9))⟩
    by_cases q10 : j = (10 : Int32)
    · exact ⟨a_UNSUBACK, 0, E_UNSUBACK, Fld.start f_UNSUBACK, rm1_10 l s _ hw [] j a_UNSUBACK s.heap s.heap.size Zn S_UNSUBACK q0 q1 q2 q3 q4 q5 q6 q7 q8 q9 q10, own_agree0 (by rw [q10]; decide) (by rw [q10]; decide)⟩
    by_cases q11 : j = (11 : Int32)
    · exact ⟨a_PINGREQ, 0, E_PINGREQ, Fld.start f_PINGREQ, rm1_11 l s _ hw [] j a_PINGREQ s.heap s.heap.size Zn S_PINGREQ q0 q1 q2 q3 q4 q5 q6 q7 q8 q9 q10 q11, own_agree0 (by rw [q11]; decide) (by rw [q11]; decide)⟩
    by_cases q12 : j = (12 : Int32)
    · exact ⟨a_PINGRESP, 0, E_PINGRESP, Fld.start f_PINGRESP, rm1_12 l s _ hw [] j a_PINGRESP s.heap s.heap.size Zn S_PINGRESP q0 q1 q2 q3 q4 q5 q6 q7 q8 q9 q10 q11 q12, own_agree0 (by rw [q12]; decide) (by rw [q12]; decide)⟩
    have q13 : j = (13 : Int32) := by
      have e13 : (13 : Int32).toInt = 13 := by decide
      have e0 : ((0 : Int32)).toInt = 0 := by decide
      have e1 : ((1 : Int32)).toInt = 1 := by decide
      have e2 : ((2 : Int32)).toInt = 2 := by decide
      have e3 : ((3 : Int32)).toInt = 3 := by decide
      have e4 : ((4 : Int32)).toInt = 4 := by decide
      have e5 : ((5 : Int32)).toInt = 5 := by decide
      have e6 : ((6 : Int32)).toInt = 6 := by decide
      have e7 : ((7 : Int32)).toInt = 7 := by decide
      have e8 : ((8 : Int32)).toInt = 8 := by decide
      have e9 : ((9 : Int32)).toInt = 9 := by decide
      have e10 : ((10 : Int32)).toInt = 10 := by decide
      have e11 : ((11 : Int32)).toInt = 11 := by decide
      have e12 : ((12 : Int32)).toInt = 12 := by decide
      rw [← Int32.toInt_inj] at q0 q1 q2 q3 q4 q5 q6 q7 q8 q9 q10 q11 q12 ⊢
      rw [e0] at q0
      rw [e1] at q1
      rw [e2] at q2
      rw [e3] at q3
      rw [e4] at q4
      rw [e5] at q5
      rw [e6] at q6
      rw [e7] at q7
      rw [e8] at q8
      rw [e9] at q9
      rw [e10] at q10
      rw [e11] at q11
      rw [e12] at q12
      rw [e13]
      omega
    exact ⟨a_DISCONNECT, 0, E_DISCONNECT, Fld.start f_DISCONNECT, rm1_13 l s _ hw [] j a_DISCONNECT s.heap s.heap.size Zn S_DISCONNECT q0 q1 q2 q3 q4 q5 q6 q7 q8 q9 q10 q11 q12, own_agree0 (by rw [q13]; decide) (by rw [q13]; decide)⟩
  subst hjj
  have allowC := own_allow l s _ hw y (own_fl i1 i3) (own_lv i2 i3) fg s.heap s.heap.size Zn F_y
  rw [agree] at allowC
  obtain ⟨n, o, h1, h2, h3, _, L, rfl, ⟨rfl, N⟩, hq⟩ := rm0 l s _ hw tables_1 i0 i1 i2 i3 y s.heap s.heap.size (Nat.le_refl _) E_y pickC allowC p e ha hc hk s m _ below hf ((Spec.applies_iff_loose hf).mp happ).1 ⟨rfl, State.Warmed39.refl s, rfl⟩ trivial
  refine ⟨n, _, h1, h2, h3, hpost _ _ _ _ _ _ ⟨Cond.after_iff.mpr rfl, Cond.after_iff.mpr (eq_i res_at (Term.int_eval (1)) rfl), trivial⟩ ⟨hq.1, hq.2.1, (hq.2.2.sift fun y hy => Or.inr (N y hy)).mono (by decide) (by decide)⟩⟩
theorem main_1_1 : Claimed_1_1 := comes_1 fun _ _ _ _ _ _ h hF => ⟨h.1, hF⟩
theorem main_1_2 : Claimed_1_2 := comes_1 fun _ _ _ _ _ _ h hF => ⟨h.2.1, hF⟩
end Jvm.Pilot.@@N@@
namespace Jvm.Pilot.@@N@@
open Jvm Jvm.ClassFile Sem Op Lib Jvm.Free Jvm.Stand Jvm.Pilot.@@N@@.Jvm.D
/-! MADE BY PROGRAM (witnessworld.py) out of the Statement's table words and the real class files: 12 classes; the members and pool entries that the words name. The judged class is class 1, her method 2. -/
namespace start1
open Jvm.ClassFile
def u (s : String) : CpInfo := .utf8 (stringToUtf16 s)
/-- a pool by its gaps: so many unusable entries, then the entry; so many at the end -/
def gap : Nat → List CpInfo → List CpInfo
  | 0, r => r
  | n + 1, r => .unusable :: gap n r
def poolList (es : List (Nat × CpInfo)) (last : Nat) : List CpInfo := es.foldr (fun e r => gap e.1 (e.2 :: r)) (gap last [])
def pool (es : List (Nat × CpInfo)) (last : Nat) : Array CpInfo := ⟨poolList es last⟩
def fileOf (pool : Array CpInfo) (this : Nat) (attrs : Array Attribute := #[]) (ms : Array MethodInfo := #[]) (fl : Nat := 33) (sup : Nat := 0) (ifs : Array Nat := #[]) (fds : Array FieldInfo := #[]) : ClassFile where
  minorVersion := 0
  majorVersion := 65
  constantPool := pool
  accessFlags := fl
  thisClass := this
  superClass := sup
  interfaces := ifs
  fields := fds
  methods := ms
  attributes := attrs
def plain (name : String) (sup : Option ClassId) : Class where
  name := name
  kind := .ordinary
  loader := none
  accessFlags := 33
  super := sup
  interfaces := #[]
  cf := none
  fields := #[]
  methods := #[]
  instanceTypes := #[]
  staticTypes := #[]
  resolved := #[]
  callSites := []
  init := .initialized
  statics := none
  mirror := none

def pool0 : Array CpInfo := pool [(5, u "<init>"), (0, u "()V"), (1, .class_ 10), (1, u "java/lang/Object")] 113

def k0m0 : Method := { name := "<init>", desc := "()V", sig := { parameters := [], returnType := none }, accessFlags := 1, code := none }
/-- java/lang/Object -/
def k0 : Class := { plain "java/lang/Object" none with
  accessFlags := 33
  interfaces := #[]
  cf := some (fileOf pool0 8 #[] #[{ accessFlags := 1, nameIndex := 5, descriptorIndex := 6, attributes := #[] }] 33 0 #[] #[])
  fields := #[]
  methods := #[k0m0]
  instanceTypes := #[]
  staticTypes := #[]
  resolved := Array.replicate 124 none
  statics := none }

def pool1 : Array CpInfo := pool [(2, .class_ 4), (1, u "java/lang/Object"), (0, u "<init>"), (0, u "()V"), (0, .fieldref 8 9), (0, .class_ 10), (0, .nameAndType 11 12), (0, u "com/example/quillwire/quillwire/codec/PacketType"), (0, u "CONNECT"), (0, u "Lcom/example/quillwire/quillwire/codec/PacketType;"), (0, .fieldref 8 14), (0, .nameAndType 15 12), (0, u "CONNACK"), (0, .fieldref 8 17), (0, .nameAndType 18 12), (0, u "PUBLISH"), (0, .fieldref 8 20), (0, .nameAndType 21 12), (0, u "PUBACK"), (0, .fieldref 8 23), (0, .nameAndType 24 12), (0, u "PUBREC"), (0, .fieldref 8 26), (0, .nameAndType 27 12), (0, u "PUBREL"), (0, .fieldref 8 29), (0, .nameAndType 30 12), (0, u "PUBCOMP"), (0, .fieldref 8 32), (0, .nameAndType 33 12), (0, u "SUBSCRIBE"), (0, .fieldref 8 35), (0, .nameAndType 36 12), (0, u "SUBACK"), (0, .fieldref 8 38), (0, .nameAndType 39 12), (0, u "UNSUBSCRIBE"), (0, .fieldref 8 41), (0, .nameAndType 42 12), (0, u "UNSUBACK"), (0, .fieldref 8 44), (0, .nameAndType 45 12), (0, u "PINGREQ"), (0, .fieldref 8 47), (0, .nameAndType 48 12), (0, u "PINGRESP"), (0, .fieldref 8 50), (0, .nameAndType 51 12), (0, u "DISCONNECT"), (0, .integer 2147483647), (0, .methodref 54 55), (0, .class_ 56), (0, .nameAndType 57 58), (0, u "com/example/quillwire/quillwire/codec/PacketTypeAllowsPinLaw"), (0, u "pick"), (0, u "(I)Lcom/example/quillwire/quillwire/codec/PacketType;"), (0, .methodref 8 60), (0, .nameAndType 61 62), (0, u "allows"), (0, u "(II)Z"), (3, u "law"), (0, u "(IIII)Z")] 2

def k1m0 : Method := { name := "<init>", desc := "()V", sig := { parameters := [], returnType := none }, accessFlags := 2, code := none }
def k1c1 : Code := { maxStack := 2, maxLocals := 1, code := method_2_code, exceptionTable := #[], attributes := #[] }
def k1m1 : Method := { name := "pick", desc := "(I)Lcom/example/quillwire/quillwire/codec/PacketType;", sig := { parameters := [.int], returnType := some (.object "com/example/quillwire/quillwire/codec/PacketType") }, accessFlags := 10, code := some k1c1 }
def k1c2 : Code := { maxStack := 3, maxLocals := 9, code := code, exceptionTable := #[], attributes := #[] }
def k1m2 : Method := { name := "law", desc := "(IIII)Z", sig := { parameters := [.int, .int, .int, .int], returnType := some .boolean }, accessFlags := 9, code := some k1c2 }
/-- com/example/quillwire/quillwire/codec/PacketTypeAllowsPinLaw -/
def k1 : Class := { plain "com/example/quillwire/quillwire/codec/PacketTypeAllowsPinLaw" (some 0) with
  accessFlags := 49
  interfaces := #[]
  cf := some (fileOf pool1 54 #[] #[{ accessFlags := 2, nameIndex := 5, descriptorIndex := 6, attributes := #[] }, { accessFlags := 10, nameIndex := 57, descriptorIndex := 58, attributes := #[] }, { accessFlags := 9, nameIndex := 66, descriptorIndex := 67, attributes := #[] }] 49 2 #[] #[])
  fields := #[]
  methods := #[k1m0, k1m1, k1m2]
  instanceTypes := #[]
  staticTypes := #[]
  resolved := Array.replicate 70 none
  statics := none }

def pool2 : Array CpInfo := pool [(1, .class_ 2), (0, u "java/lang/constant/Constable"), (0, .class_ 4), (0, u "java/lang/Object")] 6

/-- java/lang/constant/Constable -/
def k2 : Class := { plain "java/lang/constant/Constable" (some 0) with
  accessFlags := 1537
  interfaces := #[]
  cf := some (fileOf pool2 1 #[] #[] 1537 3 #[] #[])
  fields := #[]
  methods := #[]
  instanceTypes := #[]
  staticTypes := #[]
  resolved := Array.replicate 11 none
  statics := none }

def pool3 : Array CpInfo := pool [(1, .class_ 2), (0, u "java/lang/Comparable"), (0, .class_ 4), (0, u "java/lang/Object")] 7

/-- java/lang/Comparable -/
def k3 : Class := { plain "java/lang/Comparable" (some 0) with
  accessFlags := 1537
  interfaces := #[]
  cf := some (fileOf pool3 1 #[] #[] 1537 3 #[] #[])
  fields := #[]
  methods := #[]
  instanceTypes := #[]
  staticTypes := #[]
  resolved := Array.replicate 12 none
  statics := none }

def pool4 : Array CpInfo := pool [(1, .class_ 2), (0, u "java/io/Serializable"), (0, .class_ 4), (0, u "java/lang/Object")] 2

/-- java/io/Serializable -/
def k4 : Class := { plain "java/io/Serializable" (some 0) with
  accessFlags := 1537
  interfaces := #[]
  cf := some (fileOf pool4 1 #[] #[] 1537 3 #[] #[])
  fields := #[]
  methods := #[]
  instanceTypes := #[]
  staticTypes := #[]
  resolved := Array.replicate 7 none
  statics := none }

def pool5 : Array CpInfo := pool [(2, .class_ 4), (1, u "java/lang/Enum"), (0, u "name"), (0, u "Ljava/lang/String;"), (2, u "ordinal"), (0, u "I"), (1, .class_ 14), (1, u "java/lang/Object"), (4, u "hash"), (86, .class_ 108), (1, u "java/lang/Enum$EnumDesc"), (2, .class_ 112), (0, u "java/lang/constant/Constable"), (0, .class_ 114), (0, u "java/lang/Comparable"), (0, .class_ 116), (0, u "java/io/Serializable")] 87

/-- java/lang/Enum -/
def k5 : Class := { plain "java/lang/Enum" (some 0) with
  accessFlags := 1057
  interfaces := #[2, 3, 4]
  cf := some (fileOf pool5 2 #[.nestMembers #[106]] #[] 1057 12 #[111, 113, 115] #[{ accessFlags := 18, nameIndex := 5, descriptorIndex := 6, attributes := #[] }, { accessFlags := 18, nameIndex := 9, descriptorIndex := 10, attributes := #[] }, { accessFlags := 2, nameIndex := 19, descriptorIndex := 10, attributes := #[] }])
  fields := #[{ name := "name", type := (.object "java/lang/String"), accessFlags := 18, slot := 0, constantValue := 0 }, { name := "ordinal", type := .int, accessFlags := 18, slot := 1, constantValue := 0 }, { name := "hash", type := .int, accessFlags := 2, slot := 2, constantValue := 0 }]
  methods := #[]
  instanceTypes := #[(.object "java/lang/String"), .int, .int]
  staticTypes := #[]
  resolved := Array.replicate 204 none
  statics := none }

def pool6 : Array CpInfo := pool [(1, .class_ 2), (0, u "com/example/quillwire/quillwire/codec/PacketType"), (2, u "CONNECT"), (0, u "Lcom/example/quillwire/quillwire/codec/PacketType;"), (2, u "CONNACK"), (2, u "PUBLISH"), (2, u "PUBACK"), (2, u "PUBREC"), (2, u "PUBREL"), (2, u "PUBCOMP"), (2, u "SUBSCRIBE"), (2, u "SUBACK"), (2, u "UNSUBSCRIBE"), (2, u "UNSUBACK"), (2, u "PINGREQ"), (2, u "PINGRESP"), (2, u "DISCONNECT"), (2, u "$VALUES"), (0, u "[Lcom/example/quillwire/quillwire/codec/PacketType;"), (6, .class_ 58), (1, u "java/lang/Enum"), (11, u "code"), (0, u "I"), (0, .fieldref 1 73), (0, .nameAndType 74 71), (0, u "flags"), (18, u "BY_CODE"), (36, u "NOT_FIXED"), (2, u "QOS_1"), (1, u "DUP"), (10, u "allows"), (0, u "(II)Z")] 25

def k6c0 : Code := { maxStack := 2, maxLocals := 3, code := prog_52_method_7_code, exceptionTable := #[], attributes := #[] }
def k6m0 : Method := { name := "allows", desc := "(II)Z", sig := { parameters := [.int, .int], returnType := some .boolean }, accessFlags := 0, code := some k6c0 }
/-- com/example/quillwire/quillwire/codec/PacketType -/
def k6 : Class := { plain "com/example/quillwire/quillwire/codec/PacketType" (some 5) with
  accessFlags := 16433
  interfaces := #[]
  cf := some (fileOf pool6 1 #[] #[{ accessFlags := 0, nameIndex := 146, descriptorIndex := 147, attributes := #[] }] 16433 56 #[] #[{ accessFlags := 16409, nameIndex := 5, descriptorIndex := 6, attributes := #[] }, { accessFlags := 16409, nameIndex := 9, descriptorIndex := 6, attributes := #[] }, { accessFlags := 16409, nameIndex := 12, descriptorIndex := 6, attributes := #[] }, { accessFlags := 16409, nameIndex := 15, descriptorIndex := 6, attributes := #[] }, { accessFlags := 16409, nameIndex := 18, descriptorIndex := 6, attributes := #[] }, { accessFlags := 16409, nameIndex := 21, descriptorIndex := 6, attributes := #[] }, { accessFlags := 16409, nameIndex := 24, descriptorIndex := 6, attributes := #[] }, { accessFlags := 16409, nameIndex := 27, descriptorIndex := 6, attributes := #[] }, { accessFlags := 16409, nameIndex := 30, descriptorIndex := 6, attributes := #[] }, { accessFlags := 16409, nameIndex := 33, descriptorIndex := 6, attributes := #[] }, { accessFlags := 16409, nameIndex := 36, descriptorIndex := 6, attributes := #[] }, { accessFlags := 16409, nameIndex := 39, descriptorIndex := 6, attributes := #[] }, { accessFlags := 16409, nameIndex := 42, descriptorIndex := 6, attributes := #[] }, { accessFlags := 16409, nameIndex := 45, descriptorIndex := 6, attributes := #[] }, { accessFlags := 26, nameIndex := 130, descriptorIndex := 71, attributes := #[] }, { accessFlags := 26, nameIndex := 133, descriptorIndex := 71, attributes := #[] }, { accessFlags := 24, nameIndex := 135, descriptorIndex := 71, attributes := #[] }, { accessFlags := 26, nameIndex := 93, descriptorIndex := 49, attributes := #[] }, { accessFlags := 18, nameIndex := 70, descriptorIndex := 71, attributes := #[] }, { accessFlags := 18, nameIndex := 74, descriptorIndex := 71, attributes := #[] }, { accessFlags := 4122, nameIndex := 48, descriptorIndex := 49, attributes := #[] }])
  fields := #[{ name := "CONNECT", type := (.object "com/example/quillwire/quillwire/codec/PacketType"), accessFlags := 16409, slot := 0, constantValue := 0 }, { name := "CONNACK", type := (.object "com/example/quillwire/quillwire/codec/PacketType"), accessFlags := 16409, slot := 1, constantValue := 0 }, { name := "PUBLISH", type := (.object "com/example/quillwire/quillwire/codec/PacketType"), accessFlags := 16409, slot := 2, constantValue := 0 }, { name := "PUBACK", type := (.object "com/example/quillwire/quillwire/codec/PacketType"), accessFlags := 16409, slot := 3, constantValue := 0 }, { name := "PUBREC", type := (.object "com/example/quillwire/quillwire/codec/PacketType"), accessFlags := 16409, slot := 4, constantValue := 0 }, { name := "PUBREL", type := (.object "com/example/quillwire/quillwire/codec/PacketType"), accessFlags := 16409, slot := 5, constantValue := 0 }, { name := "PUBCOMP", type := (.object "com/example/quillwire/quillwire/codec/PacketType"), accessFlags := 16409, slot := 6, constantValue := 0 }, { name := "SUBSCRIBE", type := (.object "com/example/quillwire/quillwire/codec/PacketType"), accessFlags := 16409, slot := 7, constantValue := 0 }, { name := "SUBACK", type := (.object "com/example/quillwire/quillwire/codec/PacketType"), accessFlags := 16409, slot := 8, constantValue := 0 }, { name := "UNSUBSCRIBE", type := (.object "com/example/quillwire/quillwire/codec/PacketType"), accessFlags := 16409, slot := 9, constantValue := 0 }, { name := "UNSUBACK", type := (.object "com/example/quillwire/quillwire/codec/PacketType"), accessFlags := 16409, slot := 10, constantValue := 0 }, { name := "PINGREQ", type := (.object "com/example/quillwire/quillwire/codec/PacketType"), accessFlags := 16409, slot := 11, constantValue := 0 }, { name := "PINGRESP", type := (.object "com/example/quillwire/quillwire/codec/PacketType"), accessFlags := 16409, slot := 12, constantValue := 0 }, { name := "DISCONNECT", type := (.object "com/example/quillwire/quillwire/codec/PacketType"), accessFlags := 16409, slot := 13, constantValue := 0 }, { name := "NOT_FIXED", type := .int, accessFlags := 26, slot := 14, constantValue := 0 }, { name := "QOS_1", type := .int, accessFlags := 26, slot := 15, constantValue := 0 }, { name := "DUP", type := .int, accessFlags := 24, slot := 16, constantValue := 0 }, { name := "BY_CODE", type := (.array (.object "com/example/quillwire/quillwire/codec/PacketType")), accessFlags := 26, slot := 17, constantValue := 0 }, { name := "code", type := .int, accessFlags := 18, slot := 3, constantValue := 0 }, { name := "flags", type := .int, accessFlags := 18, slot := 4, constantValue := 0 }, { name := "$VALUES", type := (.array (.object "com/example/quillwire/quillwire/codec/PacketType")), accessFlags := 4122, slot := 18, constantValue := 0 }]
  methods := #[k6m0]
  instanceTypes := #[(.object "java/lang/String"), .int, .int, .int, .int]
  staticTypes := #[(.object "com/example/quillwire/quillwire/codec/PacketType"), (.object "com/example/quillwire/quillwire/codec/PacketType"), (.object "com/example/quillwire/quillwire/codec/PacketType"), (.object "com/example/quillwire/quillwire/codec/PacketType"), (.object "com/example/quillwire/quillwire/codec/PacketType"), (.object "com/example/quillwire/quillwire/codec/PacketType"), (.object "com/example/quillwire/quillwire/codec/PacketType"), (.object "com/example/quillwire/quillwire/codec/PacketType"), (.object "com/example/quillwire/quillwire/codec/PacketType"), (.object "com/example/quillwire/quillwire/codec/PacketType"), (.object "com/example/quillwire/quillwire/codec/PacketType"), (.object "com/example/quillwire/quillwire/codec/PacketType"), (.object "com/example/quillwire/quillwire/codec/PacketType"), (.object "com/example/quillwire/quillwire/codec/PacketType"), .int, .int, .int, (.array (.object "com/example/quillwire/quillwire/codec/PacketType")), (.array (.object "com/example/quillwire/quillwire/codec/PacketType"))]
  resolved := Array.replicate 173 none
  statics := some 0 }

def pool7 : Array CpInfo := pool [(1, u "java/lang/Cloneable"), (0, .class_ 1), (0, u "java/lang/Object"), (0, .class_ 3)] 3

/-- java/lang/Cloneable -/
def k7 : Class := { plain "java/lang/Cloneable" (some 0) with
  accessFlags := 1537
  interfaces := #[]
  cf := some (fileOf pool7 2 #[] #[] 1537 4 #[] #[])
  fields := #[]
  methods := #[]
  instanceTypes := #[]
  staticTypes := #[]
  resolved := Array.replicate 8 none
  statics := none }

/-- the primitive byte -/
def k8 : Class := { plain "byte" none with kind := .primitive 'B', accessFlags := 0x411 }
/-- [B -/
def k9 : Class := { plain "[B" (some 0) with kind := .array 8 .byte, interfaces := #[7, 4], accessFlags := 1041 }

/-- the primitive int -/
def k10 : Class := { plain "int" none with kind := .primitive 'I', accessFlags := 0x411 }
/-- [I -/
def k11 : Class := { plain "[I" (some 0) with kind := .array 10 .int, interfaces := #[7, 4], accessFlags := 1041 }

def heap : Heap := #[{ cls := 6, slots := #[.ref 1, .ref 5, .ref 4, .ref 6, .ref 12, .ref 13, .ref 14, .ref 7, .ref 8, .ref 3, .ref 10, .ref 9, .ref 2, .ref 11, .int 0, .int 0, .int 0, .null, .null], vm := .statics 6 },
  { cls := 6, slots := #[.null, .int 0, .int 0, .int 0, .int 0], vm := .none },
  { cls := 6, slots := #[.null, .int 0, .int 0, .int 0, .int 0], vm := .none },
  { cls := 6, slots := #[.null, .int 0, .int 0, .int 0, .int 2], vm := .none },
  { cls := 6, slots := #[.null, .int 0, .int 0, .int 0, .int (-1)], vm := .none },
  { cls := 6, slots := #[.null, .int 0, .int 0, .int 0, .int 0], vm := .none },
  { cls := 6, slots := #[.null, .int 0, .int 0, .int 0, .int 0], vm := .none },
  { cls := 6, slots := #[.null, .int 0, .int 0, .int 0, .int 2], vm := .none },
  { cls := 6, slots := #[.null, .int 0, .int 0, .int 0, .int 0], vm := .none },
  { cls := 6, slots := #[.null, .int 0, .int 0, .int 0, .int 0], vm := .none },
  { cls := 6, slots := #[.null, .int 0, .int 0, .int 0, .int 0], vm := .none },
  { cls := 6, slots := #[.null, .int 0, .int 0, .int 0, .int 0], vm := .none },
  { cls := 6, slots := #[.null, .int 0, .int 0, .int 0, .int 0], vm := .none },
  { cls := 6, slots := #[.null, .int 0, .int 0, .int 0, .int 2], vm := .none },
  { cls := 6, slots := #[.null, .int 0, .int 0, .int 0, .int 0], vm := .none }]
def classes : Array Class := #[k0, k1, k2, k3, k4, k5, k6, k7, k8, k9, k10, k11]
def interned : List (Array UInt16 × Addr) := []
def slotsUsed : Nat := 89
def theMethod : MethodId := ⟨1, 2⟩
def args0 : Array Value := #[.int 5, .int 3, .int 3, .int 1]
def aboutOver (below : List Frame) : State where
  vm := { classes := classes, interned := interned.toArray }
  heap := heap
  slotsUsed := slotsUsed
  threads := #[{ frames := .invoking theMethod args0 :: below }]
def below0 : List Frame := [.native { method := ⟨0, 0⟩, args := #[] }]
def about1 : State := aboutOver below0
def p0 : Program := .bare "" "" ""
def e0 : Env := launch0.env 0 0 0
theorem w_frames : about1.frames = Frame.invoking theMethod args0 :: below0 := rfl
set_option maxRecDepth 65536 in
theorem w_args : argsFit about1.vm theMethod args0 = true := by decide +kernel
set_option maxRecDepth 65536 in
theorem w_heap : heapFits about1 = true := by decide +kernel
set_option maxRecDepth 65536 in
theorem w_runnable : about1.curStatus? = some .runnable := by decide +kernel
set_option maxRecDepth 65536 in
theorem w_alone : about1.alone = true := by decide +kernel
set_option maxRecDepth 65536 in
theorem w_named : about1.methodNamed? x = some theMethod := by decide +kernel
set_option maxRecDepth 65536 in
theorem w_hears : about1.hears theMethod below0 = true := by decide +kernel
set_option maxRecDepth 65536 in
theorem w_ripe : about1.ripe theMethod args0 below0 = true := by decide +kernel
theorem w_running : about1.status = .running := rfl
set_option maxRecDepth 65536 in
theorem w_room : about1.hasRoom e0.platform room_1 = true :=
  launch0.hasRoom_least _ room_1 (by decide +kernel) (by decide +kernel) (by decide +kernel) (by decide +kernel) (by decide +kernel) (by decide +kernel)
theorem allAtoms_all (ts : List Jvm.Cond) (a : Array Jvm.Value) (st : Jvm.State) : (allAtoms ts).before a st = ts.all (fun c => c.before a st) := by
  induction ts with
  | nil => rfl
  | cons c t ih =>
    show (Jvm.Cond.and c (allAtoms t)).before a st = _
    rw [Jvm.Cond.before_and, ih, List.all_cons]
def words1 : List Jvm.Cond := Jvm.Cond.code x code maxLocals ret :: tables_1
/-- a 'code' word, met by the world's own term for the bytes: nothing is compared byte by byte -/
theorem code_word {y : MethodName} {bytes : ByteArray} {mx : Nat} {rt : Option FieldType} {a : Array Value} {s : State} {m : MethodId} {meth : Method} {c : Code} (h1 : s.methodNamed? y = some m) (h2 : s.vm.method? m = some meth) (h3 : meth.code = some c) (h4 : c.code = bytes)
    (h5 : (c.maxLocals == mx && c.exceptionTable.isEmpty && decide (c.maxStack ≤ mostOperands) && decide (meth.sig.returnType = rt) && !meth.locks && decide (parseMethodDescriptor y.desc = some meth.sig)) = true) : (Jvm.Cond.code y bytes mx rt).before a s = true := by
  simp only [Bool.and_eq_true, beq_iff_eq, Bool.not_eq_true', decide_eq_true_eq] at h5
  obtain ⟨⟨⟨⟨⟨g1, g2⟩, g3⟩, g4⟩, g5⟩, g6⟩ := h5
  simp [Cond.before, Cond.holds, Cond.value, h1, h2, h3, h4, g1, g2, g3, g4, g5, g6]
def isCode : Jvm.Cond → Bool
  | .code _ _ _ _ => true
  | _ => false
theorem all_split {L : List Jvm.Cond} {P : Jvm.Cond → Bool} (h1 : L.all (fun c => isCode c || P c) = true) (h2 : ∀ c ∈ L.filter isCode, P c = true) : L.all P = true := by
  refine List.all_eq_true.mpr fun c hc => ?_
  have h := List.all_eq_true.mp h1 c hc
  rcases Bool.eq_false_or_eq_true (isCode c) with hi | hi
  · exact h2 c (List.mem_filter.mpr ⟨hc, hi⟩)
  · simpa [hi] using h
set_option maxRecDepth 65536 in
theorem w_c0 : (Jvm.Cond.code x code maxLocals ret).before args0 about1 = true := code_word (m := ⟨1, 2⟩) (meth := k1m2) (c := k1c2) (by decide +kernel) rfl rfl rfl (by decide +kernel)
set_option maxRecDepth 65536 in
theorem w_c1 : (Jvm.Cond.code ({ cls := "com/example/quillwire/quillwire/codec/PacketTypeAllowsPinLaw", name := "pick", desc := "(I)Lcom/example/quillwire/quillwire/codec/PacketType;" } : Jvm.MethodName) method_2_code (1 : Nat) (Option.some (Jvm.ClassFile.FieldType.object "com/example/quillwire/quillwire/codec/PacketType"))).before args0 about1 = true := code_word (m := ⟨1, 1⟩) (meth := k1m1) (c := k1c1) (by decide +kernel) rfl rfl rfl (by decide +kernel)
set_option maxRecDepth 65536 in
theorem w_c2 : (Jvm.Cond.code ({ cls := "com/example/quillwire/quillwire/codec/PacketType", name := "allows", desc := "(II)Z" } : Jvm.MethodName) prog_52_method_7_code (3 : Nat) (Option.some Jvm.ClassFile.FieldType.boolean)).before args0 about1 = true := code_word (m := ⟨6, 0⟩) (meth := k6m0) (c := k6c0) (by decide +kernel) rfl rfl rfl (by decide +kernel)
def codes1 : List Jvm.Cond := [Jvm.Cond.code x code maxLocals ret, Jvm.Cond.code ({ cls := "com/example/quillwire/quillwire/codec/PacketTypeAllowsPinLaw", name := "pick", desc := "(I)Lcom/example/quillwire/quillwire/codec/PacketType;" } : Jvm.MethodName) method_2_code (1 : Nat) (Option.some (Jvm.ClassFile.FieldType.object "com/example/quillwire/quillwire/codec/PacketType")), Jvm.Cond.code ({ cls := "com/example/quillwire/quillwire/codec/PacketType", name := "allows", desc := "(II)Z" } : Jvm.MethodName) prog_52_method_7_code (3 : Nat) (Option.some Jvm.ClassFile.FieldType.boolean)]
set_option maxRecDepth 65536 in
theorem codes_eq : words1.filter isCode = codes1 := rfl
theorem w_codes : ∀ c ∈ words1.filter isCode, c.before args0 about1 = true := by
  rw [codes_eq]
  intro c hc
  simp only [codes1, List.mem_cons, List.not_mem_nil, or_false] at hc
  rcases hc with rfl | rfl | rfl
  · exact w_c0
  · exact w_c1
  · exact w_c2
set_option maxRecDepth 65536 in
theorem w_t1 : (words1.take 24).all (fun c => isCode c || c.before args0 about1) = true := by decide +kernel
set_option maxRecDepth 65536 in
theorem w_t2 : (words1.drop 24).all (fun c => isCode c || c.before args0 about1) = true := by decide +kernel
theorem w_tables : (allAtoms (Jvm.Cond.code x code maxLocals ret :: tables_1)).before args0 about1 = true := by
  rw [allAtoms_all]
  show words1.all (fun c => c.before args0 about1) = true
  refine all_split ?_ w_codes
  rw [← List.take_append_drop 24 words1, List.all_append, w_t1, w_t2]
  rfl
set_option maxRecDepth 65536 in
theorem w_case : (Jvm.Cond.and given_1 narrow_1).before args0 about1 = true := by decide +kernel
theorem w_applies : (headSpec (Jvm.Cond.code x code maxLocals ret :: tables_1) room_1).applies x e0.platform about1 = true :=
  (Spec.applies_iff w_frames).mpr ⟨w_running, w_runnable, w_alone, w_named, w_hears, w_ripe, w_room, w_tables⟩
theorem atStart : AtStart classFile x code maxLocals ret World_1 tables_1 room_1 Calls_1 rest_1 Pre_1 launch0 p0 e0 about1 theMethod args0 below0 :=
  ⟨lists_1, trivial, launch0.admits_env _ _ _, launch0.least_env, fairChoices_fair.cas, fairChoices_fair.clock, w_frames, w_args, w_heap, w_applies, trivial, trivial, w_case⟩
end start1
theorem witness_1 : WitnessClaimed_1 := ⟨start1.p0, start1.e0, start1.about1, start1.theMethod, start1.args0, start1.below0, start1.atStart⟩
end Jvm.Pilot.@@N@@
