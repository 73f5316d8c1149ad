import JvmDerived
import JvmDerived.Pilot.@@N@@Statement
import JvmDerived.Pilot.@@N@@Code
set_option linter.unusedVariables false
set_option linter.unusedSimpArgs false
@@BLOCK:NumsL.lean.txt@@
namespace Jvm.RoadKit
open Sem ClassFile Op Lib Jvm.Stand Jvm.Free Jvm.LawKit
section New
variable {p : Program} {l : Launch} {e : Env} {R : Room} {s : State} {m : MethodId} {args : Array Value} {below : List Frame} {meth : Method} {c : Code} {T : State} {locs : List Loc} {cells slots : Nat}
theorem retI (X : Stand p l e R s m args below meth c T locs cells slots) (hx : p.tables.exec = Jvm.exec) {pc : Nat} {Ls : Array Slot} {z : Int32} {rest : List Value} (hret : meth.sig.returnType = some .int) (hd : decode c.code pc = .ok (.ireturn, 1)) {fs : List Frame}
    (hl : ∀ (f : JFrame) (acts : List Action), f.method = m → f.locked = none → f.entered = [] → (doReturn e (T.setTop f) acts (some (.int z))).1 = T.setFrames fs) : Steps p.tables e below (T.setTop (mkF m pc Ls (.int z :: rest))) (T.setFrames fs) := by
  have hm' : T.vm.method? m = some meth := X.method'
  have hn : narrow .int (.int z) = .int z := rfl
  show Steps p.tables e below (T.setTop { method := m, pc := pc, locals := Ls, stack := _ :: rest, locked := none }) _
  jvm_step X.here [X.here.top, hx, hd, hm', hret, hn]
  first | (intro acts; rw [hl _ acts rfl rfl rfl]) | rw [hl _ _ rfl rfl rfl]
  exact Steps.refl _
end New
end Jvm.RoadKit
namespace Jvm.Pilot.@@N@@
open Jvm Jvm.ClassFile Sem Op Lib Jvm.Free Jvm.Stand Jvm.LawKit Jvm.RoadKit Bundle Jvm.Pilot.@@N@@.Jvm.D

def GB (Z : State) (h : Heap) (g : Addr) (kp sz od : Int32) (fg km : Int64) (iv : Value) : Prop := Exa Z h g "com/example/throttl/throttl/Grants" ∧ Fld Z h g "com/example/throttl/throttl/Grants" "keep" "I" (.int kp) ∧ Fld Z h g "com/example/throttl/throttl/Grants" "size" "I" (.int sz) ∧ Fld Z h g "com/example/throttl/throttl/Grants" "oldest" "I" (.int od) ∧ Fld Z h g "com/example/throttl/throttl/Grants" "forgotten" "J" (.long fg) ∧ Fld Z h g "com/example/throttl/throttl/Grants" "keptForMillis" "J" (.long km) ∧ Fld Z h g "com/example/throttl/throttl/Grants" "instants" "[J" iv
theorem own_w_keep {Z : State} {a0 : Array Value} {h h' : Heap} {g : Addr} {kp sz od : Int32} {fg km : Int64} {iv : Value} (hw : ∀ d ∈ tables_1, d.before a0 Z = true) {v : Int32} (W : Wr h h' g (Jvm.RoadKit.slotOf Z "com/example/throttl/throttl/Grants" "keep" "I") (.int v)) (B : GB Z h g kp sz od fg km iv) : GB Z h' g v sz od fg km iv :=
  ⟨B.1.wr W, B.2.1.same W, B.2.2.1.other W (Or.inr (slot_ne (Or.inl (hw _ (List.mem_of_getElem? (i := 38) rfl))) (Or.inl (hw _ (List.mem_of_getElem? (i := 22) rfl))) (by decide) (t := .int) (t' := .int) (by decide) (by decide))), B.2.2.2.1.other W (Or.inr (slot_ne (Or.inl (hw _ (List.mem_of_getElem? (i := 50) rfl))) (Or.inl (hw _ (List.mem_of_getElem? (i := 22) rfl))) (by decide) (t := .int) (t' := .int) (by decide) (by decide))), B.2.2.2.2.1.other W (Or.inr (slot_ne (Or.inl (hw _ (List.mem_of_getElem? (i := 62) rfl))) (Or.inl (hw _ (List.mem_of_getElem? (i := 22) rfl))) (by decide) (t := .long) (t' := .int) (by decide) (by decide))), B.2.2.2.2.2.1.other W (Or.inr (slot_ne (Or.inl (hw _ (List.mem_of_getElem? (i := 28) rfl))) (Or.inl (hw _ (List.mem_of_getElem? (i := 22) rfl))) (by decide) (t := .long) (t' := .int) (by decide) (by decide))), B.2.2.2.2.2.2.other W (Or.inr (slot_ne (Or.inl (hw _ (List.mem_of_getElem? (i := 12) rfl))) (Or.inl (hw _ (List.mem_of_getElem? (i := 22) rfl))) (by decide) (t := (.array .long)) (t' := .int) (by decide) (by decide)))⟩
theorem own_w_size {Z : State} {a0 : Array Value} {h h' : Heap} {g : Addr} {kp sz od : Int32} {fg km : Int64} {iv : Value} (hw : ∀ d ∈ tables_1, d.before a0 Z = true) {v : Int32} (W : Wr h h' g (Jvm.RoadKit.slotOf Z "com/example/throttl/throttl/Grants" "size" "I") (.int v)) (B : GB Z h g kp sz od fg km iv) : GB Z h' g kp v od fg km iv :=
  ⟨B.1.wr W, B.2.1.other W (Or.inr (slot_ne (Or.inl (hw _ (List.mem_of_getElem? (i := 22) rfl))) (Or.inl (hw _ (List.mem_of_getElem? (i := 38) rfl))) (by decide) (t := .int) (t' := .int) (by decide) (by decide))), B.2.2.1.same W, B.2.2.2.1.other W (Or.inr (slot_ne (Or.inl (hw _ (List.mem_of_getElem? (i := 50) rfl))) (Or.inl (hw _ (List.mem_of_getElem? (i := 38) rfl))) (by decide) (t := .int) (t' := .int) (by decide) (by decide))), B.2.2.2.2.1.other W (Or.inr (slot_ne (Or.inl (hw _ (List.mem_of_getElem? (i := 62) rfl))) (Or.inl (hw _ (List.mem_of_getElem? (i := 38) rfl))) (by decide) (t := .long) (t' := .int) (by decide) (by decide))), B.2.2.2.2.2.1.other W (Or.inr (slot_ne (Or.inl (hw _ (List.mem_of_getElem? (i := 28) rfl))) (Or.inl (hw _ (List.mem_of_getElem? (i := 38) rfl))) (by decide) (t := .long) (t' := .int) (by decide) (by decide))), B.2.2.2.2.2.2.other W (Or.inr (slot_ne (Or.inl (hw _ (List.mem_of_getElem? (i := 12) rfl))) (Or.inl (hw _ (List.mem_of_getElem? (i := 38) rfl))) (by decide) (t := (.array .long)) (t' := .int) (by decide) (by decide)))⟩
theorem own_w_oldest {Z : State} {a0 : Array Value} {h h' : Heap} {g : Addr} {kp sz od : Int32} {fg km : Int64} {iv : Value} (hw : ∀ d ∈ tables_1, d.before a0 Z = true) {v : Int32} (W : Wr h h' g (Jvm.RoadKit.slotOf Z "com/example/throttl/throttl/Grants" "oldest" "I") (.int v)) (B : GB Z h g kp sz od fg km iv) : GB Z h' g kp sz v fg km iv :=
  ⟨B.1.wr W, B.2.1.other W (Or.inr (slot_ne (Or.inl (hw _ (List.mem_of_getElem? (i := 22) rfl))) (Or.inl (hw _ (List.mem_of_getElem? (i := 50) rfl))) (by decide) (t := .int) (t' := .int) (by decide) (by decide))), B.2.2.1.other W (Or.inr (slot_ne (Or.inl (hw _ (List.mem_of_getElem? (i := 38) rfl))) (Or.inl (hw _ (List.mem_of_getElem? (i := 50) rfl))) (by decide) (t := .int) (t' := .int) (by decide) (by decide))), B.2.2.2.1.same W, B.2.2.2.2.1.other W (Or.inr (slot_ne (Or.inl (hw _ (List.mem_of_getElem? (i := 62) rfl))) (Or.inl (hw _ (List.mem_of_getElem? (i := 50) rfl))) (by decide) (t := .long) (t' := .int) (by decide) (by decide))), B.2.2.2.2.2.1.other W (Or.inr (slot_ne (Or.inl (hw _ (List.mem_of_getElem? (i := 28) rfl))) (Or.inl (hw _ (List.mem_of_getElem? (i := 50) rfl))) (by decide) (t := .long) (t' := .int) (by decide) (by decide))), B.2.2.2.2.2.2.other W (Or.inr (slot_ne (Or.inl (hw _ (List.mem_of_getElem? (i := 12) rfl))) (Or.inl (hw _ (List.mem_of_getElem? (i := 50) rfl))) (by decide) (t := (.array .long)) (t' := .int) (by decide) (by decide)))⟩
theorem own_w_forgotten {Z : State} {a0 : Array Value} {h h' : Heap} {g : Addr} {kp sz od : Int32} {fg km : Int64} {iv : Value} (hw : ∀ d ∈ tables_1, d.before a0 Z = true) {v : Int64} (W : Wr h h' g (Jvm.RoadKit.slotOf Z "com/example/throttl/throttl/Grants" "forgotten" "J") (.long v)) (B : GB Z h g kp sz od fg km iv) : GB Z h' g kp sz od v km iv :=
  ⟨B.1.wr W, B.2.1.other W (Or.inr (slot_ne (Or.inl (hw _ (List.mem_of_getElem? (i := 22) rfl))) (Or.inl (hw _ (List.mem_of_getElem? (i := 62) rfl))) (by decide) (t := .int) (t' := .long) (by decide) (by decide))), B.2.2.1.other W (Or.inr (slot_ne (Or.inl (hw _ (List.mem_of_getElem? (i := 38) rfl))) (Or.inl (hw _ (List.mem_of_getElem? (i := 62) rfl))) (by decide) (t := .int) (t' := .long) (by decide) (by decide))), B.2.2.2.1.other W (Or.inr (slot_ne (Or.inl (hw _ (List.mem_of_getElem? (i := 50) rfl))) (Or.inl (hw _ (List.mem_of_getElem? (i := 62) rfl))) (by decide) (t := .int) (t' := .long) (by decide) (by decide))), B.2.2.2.2.1.same W, B.2.2.2.2.2.1.other W (Or.inr (slot_ne (Or.inl (hw _ (List.mem_of_getElem? (i := 28) rfl))) (Or.inl (hw _ (List.mem_of_getElem? (i := 62) rfl))) (by decide) (t := .long) (t' := .long) (by decide) (by decide))), B.2.2.2.2.2.2.other W (Or.inr (slot_ne (Or.inl (hw _ (List.mem_of_getElem? (i := 12) rfl))) (Or.inl (hw _ (List.mem_of_getElem? (i := 62) rfl))) (by decide) (t := (.array .long)) (t' := .long) (by decide) (by decide)))⟩
theorem own_w_keptForMillis {Z : State} {a0 : Array Value} {h h' : Heap} {g : Addr} {kp sz od : Int32} {fg km : Int64} {iv : Value} (hw : ∀ d ∈ tables_1, d.before a0 Z = true) {v : Int64} (W : Wr h h' g (Jvm.RoadKit.slotOf Z "com/example/throttl/throttl/Grants" "keptForMillis" "J") (.long v)) (B : GB Z h g kp sz od fg km iv) : GB Z h' g kp sz od fg v iv :=
  ⟨B.1.wr W, B.2.1.other W (Or.inr (slot_ne (Or.inl (hw _ (List.mem_of_getElem? (i := 22) rfl))) (Or.inl (hw _ (List.mem_of_getElem? (i := 28) rfl))) (by decide) (t := .int) (t' := .long) (by decide) (by decide))), B.2.2.1.other W (Or.inr (slot_ne (Or.inl (hw _ (List.mem_of_getElem? (i := 38) rfl))) (Or.inl (hw _ (List.mem_of_getElem? (i := 28) rfl))) (by decide) (t := .int) (t' := .long) (by decide) (by decide))), B.2.2.2.1.other W (Or.inr (slot_ne (Or.inl (hw _ (List.mem_of_getElem? (i := 50) rfl))) (Or.inl (hw _ (List.mem_of_getElem? (i := 28) rfl))) (by decide) (t := .int) (t' := .long) (by decide) (by decide))), B.2.2.2.2.1.other W (Or.inr (slot_ne (Or.inl (hw _ (List.mem_of_getElem? (i := 62) rfl))) (Or.inl (hw _ (List.mem_of_getElem? (i := 28) rfl))) (by decide) (t := .long) (t' := .long) (by decide) (by decide))), B.2.2.2.2.2.1.same W, B.2.2.2.2.2.2.other W (Or.inr (slot_ne (Or.inl (hw _ (List.mem_of_getElem? (i := 12) rfl))) (Or.inl (hw _ (List.mem_of_getElem? (i := 28) rfl))) (by decide) (t := (.array .long)) (t' := .long) (by decide) (by decide)))⟩
theorem own_w_instants {Z : State} {a0 : Array Value} {h h' : Heap} {g : Addr} {kp sz od : Int32} {fg km : Int64} {iv : Value} (hw : ∀ d ∈ tables_1, d.before a0 Z = true) {v : Value} (W : Wr h h' g (Jvm.RoadKit.slotOf Z "com/example/throttl/throttl/Grants" "instants" "[J") v) (B : GB Z h g kp sz od fg km iv) : GB Z h' g kp sz od fg km v :=
  ⟨B.1.wr W, B.2.1.other W (Or.inr (slot_ne (Or.inl (hw _ (List.mem_of_getElem? (i := 22) rfl))) (Or.inl (hw _ (List.mem_of_getElem? (i := 12) rfl))) (by decide) (t := .int) (t' := (.array .long)) (by decide) (by decide))), B.2.2.1.other W (Or.inr (slot_ne (Or.inl (hw _ (List.mem_of_getElem? (i := 38) rfl))) (Or.inl (hw _ (List.mem_of_getElem? (i := 12) rfl))) (by decide) (t := .int) (t' := (.array .long)) (by decide) (by decide))), B.2.2.2.1.other W (Or.inr (slot_ne (Or.inl (hw _ (List.mem_of_getElem? (i := 50) rfl))) (Or.inl (hw _ (List.mem_of_getElem? (i := 12) rfl))) (by decide) (t := .int) (t' := (.array .long)) (by decide) (by decide))), B.2.2.2.2.1.other W (Or.inr (slot_ne (Or.inl (hw _ (List.mem_of_getElem? (i := 62) rfl))) (Or.inl (hw _ (List.mem_of_getElem? (i := 12) rfl))) (by decide) (t := .long) (t' := (.array .long)) (by decide) (by decide))), B.2.2.2.2.2.1.other W (Or.inr (slot_ne (Or.inl (hw _ (List.mem_of_getElem? (i := 28) rfl))) (Or.inl (hw _ (List.mem_of_getElem? (i := 12) rfl))) (by decide) (t := .long) (t' := (.array .long)) (by decide) (by decide))), B.2.2.2.2.2.2.same W⟩
theorem own_w_due {Z : State} {a0 : Array Value} {h h' : Heap} {g : Addr} {kp sz od : Int32} {fg km : Int64} {iv : Value} (hw : ∀ d ∈ tables_1, d.before a0 Z = true) {v : Int64} (W : Wr h h' g (Jvm.RoadKit.slotOf Z "com/example/throttl/throttl/Grants" "due" "J") (.long v)) (B : GB Z h g kp sz od fg km iv) : GB Z h' g kp sz od fg km iv :=
  ⟨B.1.wr W, B.2.1.other W (Or.inr (slot_ne (Or.inl (hw _ (List.mem_of_getElem? (i := 22) rfl))) (Or.inl (hw _ (List.mem_of_getElem? (i := 15) rfl))) (by decide) (t := .int) (t' := .long) (by decide) (by decide))), B.2.2.1.other W (Or.inr (slot_ne (Or.inl (hw _ (List.mem_of_getElem? (i := 38) rfl))) (Or.inl (hw _ (List.mem_of_getElem? (i := 15) rfl))) (by decide) (t := .int) (t' := .long) (by decide) (by decide))), B.2.2.2.1.other W (Or.inr (slot_ne (Or.inl (hw _ (List.mem_of_getElem? (i := 50) rfl))) (Or.inl (hw _ (List.mem_of_getElem? (i := 15) rfl))) (by decide) (t := .int) (t' := .long) (by decide) (by decide))), B.2.2.2.2.1.other W (Or.inr (slot_ne (Or.inl (hw _ (List.mem_of_getElem? (i := 62) rfl))) (Or.inl (hw _ (List.mem_of_getElem? (i := 15) rfl))) (by decide) (t := .long) (t' := .long) (by decide) (by decide))), B.2.2.2.2.2.1.other W (Or.inr (slot_ne (Or.inl (hw _ (List.mem_of_getElem? (i := 28) rfl))) (Or.inl (hw _ (List.mem_of_getElem? (i := 15) rfl))) (by decide) (t := .long) (t' := .long) (by decide) (by decide))), B.2.2.2.2.2.2.other W (Or.inr (slot_ne (Or.inl (hw _ (List.mem_of_getElem? (i := 12) rfl))) (Or.inl (hw _ (List.mem_of_getElem? (i := 15) rfl))) (by decide) (t := (.array .long)) (t' := .long) (by decide) (by decide)))⟩
theorem own_w_arr {Z : State} {h h' : Heap} {g : Addr} {kp sz od : Int32} {fg km : Int64} {iv : Value} {b : Addr} {sl : Nat} {v : Value} (W : Wr h h' b sl v) (q : g ≠ b) (B : GB Z h g kp sz od fg km iv) : GB Z h' g kp sz od fg km iv :=
  ⟨B.1.wr W, B.2.1.other W (Or.inl q), B.2.2.1.other W (Or.inl q), B.2.2.2.1.other W (Or.inl q), B.2.2.2.2.1.other W (Or.inl q), B.2.2.2.2.2.1.other W (Or.inl q), B.2.2.2.2.2.2.other W (Or.inl q)⟩
theorem own_w_ext {Z : State} {h h' : Heap} {g : Addr} {kp sz od : Int32} {fg km : Int64} {iv : Value} (E : Ext h h') (B : GB Z h g kp sz od fg km iv) : GB Z h' g kp sz od fg km iv :=
  ⟨B.1.ext E, B.2.1.ext E, B.2.2.1.ext E, B.2.2.2.1.ext E, B.2.2.2.2.1.ext E, B.2.2.2.2.2.1.ext E, B.2.2.2.2.2.2.ext E⟩
def QV (r : Option Value) (P : Heap → Prop) (n0 : Nat) (v : Option Value) (h : Heap) (L : List Loc) : Prop := v = r ∧ Fr n0 L ∧ P h
theorem own_self {s : State} {args : Array Value} {y : MethodName} {k : Nat} (hi : (Cond.instantiable y.cls k).before args s = true) (hpriv : s.PrivateAt y) (hinst : (Cond.instanceMethod y).before args s = true) (hy : y.cls ≠ "java/lang/invoke/MethodHandle" ∧ y.cls ≠ "java/lang/invoke/VarHandle") : (Cond.selects y.cls y y).before args s = true := by
  obtain ⟨c, k, h1, h2, -, h4, -⟩ := Cond.instantiable_spec hi
  exact Jvm.Stand.selects_self_of_private h1 h2 ((Bool.or_eq_false_iff.mp h4).1) hpriv hinst hy
theorem own_lc (x : Int64) : ¬ (lcmpW x x < (0 : Int32)) := by
  have q : lcmpW x x = 0 := by simp [lcmpW]
  rw [q]
  decide
theorem d4_0 : decode jdk_29_method_65_code 0 = .ok (.iload_n 0, 1) := by decide +kernel
theorem d4_1 : decode jdk_29_method_65_code 1 = .ok (.iload_n 1, 1) := by decide +kernel
theorem d4_2 : decode jdk_29_method_65_code 2 = .ok (.if_icmp .lt 7, 3) := by decide +kernel
theorem d4_9 : decode jdk_29_method_65_code 9 = .ok (.iload_n 1, 1) := by decide +kernel
theorem d4_10 : decode jdk_29_method_65_code 10 = .ok (.ireturn, 1) := by decide +kernel
theorem ef_4 (m : MethodId) (x0 : Int32) (x1 : Int32) : entryFrame m #[(.int x0), (.int x1)] 2 = mkF m 0 #[.val (.int x0), .val (.int x1)] [] := by first | (simp [entryFrame, mkF, argsToLocals, Value.category]; done) | rfl
set_option maxRecDepth 65536 in
set_option maxHeartbeats 40000000 in
theorem rm4_t (l : Launch) (Z : State) (a0 : Array Value) (hw : ∀ d ∈ tables_1, d.before a0 Z = true) (ws : List Jvm.Cond) (p1 : Int32) (p2 : Int32) (h0 : Heap) (n0 : Nat) (Z0 : n0 ≤ h0.size) (hc2 : p1 < p2) :
    MetFree l (⟨"java/lang/Math", "max", "(II)I"⟩ : MethodName) (head1 (Jvm.Cond.code (⟨"java/lang/Math", "max", "(II)I"⟩ : MethodName) jdk_29_method_65_code 2 (some .int) :: ws) ({ frames := 0, cells := 0, slots := 0, locals := 0 } : Room)) (fun a U => a = #[(.int p1), (.int p2)] ∧ Z.Warmed39 U.vm ∧ U.heap = h0) (fun _ _ _ _ _ => True) (fun _ U o U' => ∃ v L, o = .returned v ∧ QV (some (.int p2)) (fun h => h = h0) n0 v U'.heap L ∧ FrameEnd U o U' L ({ frames := 0, cells := 0, slots := 0, locals := 0 } : Room).cells ({ frames := 0, cells := 0, slots := 0, locals := 0 } : Room).slots) := by
  refine MetFree.of_bodySF (Jvm.Free.JP.mathPlain rfl (by decide +kernel)) hisR ?_
  intro p e s m args below meth c s₁ Bd hml0 hP hK
  obtain ⟨rfl, hZ, hh⟩ := hP
  have hx := Bd.exec
  have hby := Bd.bytes
  have hml : c.maxLocals = 2 := hml0
  have hown : s.vm.findClass "java/lang/Math" = some m.cls := findClass_of_methodNamed Bd.named
  have hnm := (name_of_methodNamed Bd.named Bd.method).1
  have X0 : Stand p l e ({ frames := 0, cells := 0, slots := 0, locals := 0 } : Room) s m #[(.int p1), (.int p2)] below meth c s₁ [] 0 0 := Stand.of_body Bd
  have e0 : s₁.heap = h0 := by rw [← hh, Bd.state]; rfl
  have N0 := Fr.nil n0
  have pre0 : ∀ t, Steps p.tables e below (s₁.setTop (mkF m 0 #[.val (.int p1), .val (.int p2)] [])) t → Steps p.tables e below (s₁.setTop (entryFrame m #[(.int p1), (.int p2)] 2)) t := fun t k => castTop (ef_4 m p1 p2) k

  obtain ⟨fs, hr, hrun, hended, hW, hsame⟩ := X0.leave (v := some (.int p2)) (fun h => by rw [Bd.returns] at h; cases h)
  refine ⟨_, _, pre0 _ ?_, hrun, hended, _, _, rfl, ?_, ⟨_, rfl⟩, hW, hsame.mono (by decide) (by decide)⟩
  · show Steps p.tables e below (s₁.setTop (mkF m 0 #[.val (.int p1), .val (.int p2)] [])) _
    refine XS.iloadN X0.here hx rfl (hb hby d4_0) rfl ?_
    show Steps p.tables e below (s₁.setTop (mkF m 1 #[.val (.int p1), .val (.int p2)] [(.int p1)])) _
    refine XS.iloadN X0.here hx rfl (hb hby d4_1) rfl ?_
    show Steps p.tables e below (s₁.setTop (mkF m 2 #[.val (.int p1), .val (.int p2)] [(.int p2), (.int p1)])) _
    refine XS.icmpYes X0.here hx rfl (pc0 := 2) (pc' := 9) rfl (hb hby d4_2) rfl (tlt hc2).1 (by decide) (by decide) ?_
    show Steps p.tables e below (s₁.setTop (mkF m 9 #[.val (.int p1), .val (.int p2)] [])) _
    refine XS.iloadN X0.here hx rfl (hb hby d4_9) rfl ?_
    show Steps p.tables e below (s₁.setTop (mkF m 10 #[.val (.int p1), .val (.int p2)] [(.int p2)])) _
    exact retI X0 hx Bd.returns (hb hby d4_10) hr
  · show QV _ _ n0 _ s₁.heap _
    rw [e0]
    exact ⟨rfl, N0, rfl⟩
theorem d5_0 : decode jdk_29_method_66_code 0 = .ok (.lload_n 0, 1) := by decide +kernel
theorem d5_1 : decode jdk_29_method_66_code 1 = .ok (.lload_n 2, 1) := by decide +kernel
theorem d5_2 : decode jdk_29_method_66_code 2 = .ok (.lcmp, 1) := by decide +kernel
theorem d5_3 : decode jdk_29_method_66_code 3 = .ok (.ifCond .lt 7, 3) := by decide +kernel
theorem d5_10 : decode jdk_29_method_66_code 10 = .ok (.lload_n 2, 1) := by decide +kernel
theorem d5_11 : decode jdk_29_method_66_code 11 = .ok (.lreturn, 1) := by decide +kernel
theorem ef_5 (m : MethodId) (x0 : Int64) (x1 : Int64) : entryFrame m #[(.long x0), (.long x1)] 4 = mkF m 0 #[.val (.long x0), .second, .val (.long x1), .second] [] := by first | (simp [entryFrame, mkF, argsToLocals, Value.category]; done) | rfl
set_option maxRecDepth 65536 in
set_option maxHeartbeats 40000000 in
theorem rm5_t (l : Launch) (Z : State) (a0 : Array Value) (hw : ∀ d ∈ tables_1, d.before a0 Z = true) (ws : List Jvm.Cond) (q1 : Int64) (q2 : Int64) (h0 : Heap) (n0 : Nat) (Z0 : n0 ≤ h0.size) (hc3 : (lcmpW q1 q2) < (0 : Int32)) :
    MetFree l (⟨"java/lang/Math", "max", "(JJ)J"⟩ : MethodName) (head1 (Jvm.Cond.code (⟨"java/lang/Math", "max", "(JJ)J"⟩ : MethodName) jdk_29_method_66_code 4 (some .long) :: ws) ({ frames := 0, cells := 0, slots := 0, locals := 0 } : Room)) (fun a U => a = #[(.long q1), (.long q2)] ∧ Z.Warmed39 U.vm ∧ U.heap = h0) (fun _ _ _ _ _ => True) (fun _ U o U' => ∃ v L, o = .returned v ∧ QV (some (.long q2)) (fun h => h = h0) n0 v U'.heap L ∧ FrameEnd U o U' L ({ frames := 0, cells := 0, slots := 0, locals := 0 } : Room).cells ({ frames := 0, cells := 0, slots := 0, locals := 0 } : Room).slots) := by
  refine MetFree.of_bodySF (Jvm.Free.JP.mathPlain rfl (by decide +kernel)) hisR ?_
  intro p e s m args below meth c s₁ Bd hml0 hP hK
  obtain ⟨rfl, hZ, hh⟩ := hP
  have hx := Bd.exec
  have hby := Bd.bytes
  have hml : c.maxLocals = 4 := hml0
  have hown : s.vm.findClass "java/lang/Math" = some m.cls := findClass_of_methodNamed Bd.named
  have hnm := (name_of_methodNamed Bd.named Bd.method).1
  have X0 : Stand p l e ({ frames := 0, cells := 0, slots := 0, locals := 0 } : Room) s m #[(.long q1), (.long q2)] below meth c s₁ [] 0 0 := Stand.of_body Bd
  have e0 : s₁.heap = h0 := by rw [← hh, Bd.state]; rfl
  have N0 := Fr.nil n0
  have pre0 : ∀ t, Steps p.tables e below (s₁.setTop (mkF m 0 #[.val (.long q1), .second, .val (.long q2), .second] [])) t → Steps p.tables e below (s₁.setTop (entryFrame m #[(.long q1), (.long q2)] 4)) t := fun t k => castTop (ef_5 m q1 q2) k

  obtain ⟨fs, hr, hrun, hended, hW, hsame⟩ := X0.leave (v := some (.long q2)) (fun h => by rw [Bd.returns] at h; cases h)
  refine ⟨_, _, pre0 _ ?_, hrun, hended, _, _, rfl, ?_, ⟨_, rfl⟩, hW, hsame.mono (by decide) (by decide)⟩
  · show Steps p.tables e below (s₁.setTop (mkF m 0 #[.val (.long q1), .second, .val (.long q2), .second] [])) _
    refine XS.lloadN X0.here hx rfl (hb hby d5_0) rfl ?_
    show Steps p.tables e below (s₁.setTop (mkF m 1 #[.val (.long q1), .second, .val (.long q2), .second] [(.long q1)])) _
    refine XS.lloadN X0.here hx rfl (hb hby d5_1) rfl ?_
    show Steps p.tables e below (s₁.setTop (mkF m 2 #[.val (.long q1), .second, .val (.long q2), .second] [(.long q2), (.long q1)])) _
    refine XS.lcmp X0.here hx rfl (hb hby d5_2) rfl ?_
    show Steps p.tables e below (s₁.setTop (mkF m 3 #[.val (.long q1), .second, .val (.long q2), .second] [(.int (lcmpW q1 q2))])) _
    refine XS.ifYes X0.here hx rfl (pc0 := 3) (pc' := 10) rfl (hb hby d5_3) rfl ((if0 _ _).trans (tlt hc3).1) (by decide) (by decide) ?_
    show Steps p.tables e below (s₁.setTop (mkF m 10 #[.val (.long q1), .second, .val (.long q2), .second] [])) _
    refine XS.lloadN X0.here hx rfl (hb hby d5_10) rfl ?_
    show Steps p.tables e below (s₁.setTop (mkF m 11 #[.val (.long q1), .second, .val (.long q2), .second] [(.long q2)])) _
    jvm_step X0.here [X0.here.top, hx, (hb hby d5_11), X0.method', Bd.returns, narrow]
    first | (intro acts; rw [hr _ acts rfl rfl rfl]) | rw [hr _ _ rfl rfl rfl]
    exact Steps.refl _
  · show QV _ _ n0 _ s₁.heap _
    rw [e0]
    exact ⟨rfl, N0, rfl⟩
theorem d5_6 : decode jdk_29_method_66_code 6 = .ok (.lload_n 0, 1) := by decide +kernel
theorem d5_7 : decode jdk_29_method_66_code 7 = .ok (.goto 4, 3) := by decide +kernel
set_option maxRecDepth 65536 in
set_option maxHeartbeats 40000000 in
theorem rm5_f (l : Launch) (Z : State) (a0 : Array Value) (hw : ∀ d ∈ tables_1, d.before a0 Z = true) (ws : List Jvm.Cond) (q1 : Int64) (q2 : Int64) (h0 : Heap) (n0 : Nat) (Z0 : n0 ≤ h0.size) (hc3 : ¬ ((lcmpW q1 q2) < (0 : Int32))) :
    MetFree l (⟨"java/lang/Math", "max", "(JJ)J"⟩ : MethodName) (head1 (Jvm.Cond.code (⟨"java/lang/Math", "max", "(JJ)J"⟩ : MethodName) jdk_29_method_66_code 4 (some .long) :: ws) ({ frames := 0, cells := 0, slots := 0, locals := 0 } : Room)) (fun a U => a = #[(.long q1), (.long q2)] ∧ Z.Warmed39 U.vm ∧ U.heap = h0) (fun _ _ _ _ _ => True) (fun _ U o U' => ∃ v L, o = .returned v ∧ QV (some (.long q1)) (fun h => h = h0) n0 v U'.heap L ∧ FrameEnd U o U' L ({ frames := 0, cells := 0, slots := 0, locals := 0 } : Room).cells ({ frames := 0, cells := 0, slots := 0, locals := 0 } : Room).slots) := by
  refine MetFree.of_bodySF (Jvm.Free.JP.mathPlain rfl (by decide +kernel)) hisR ?_
  intro p e s m args below meth c s₁ Bd hml0 hP hK
  obtain ⟨rfl, hZ, hh⟩ := hP
  have hx := Bd.exec
  have hby := Bd.bytes
  have hml : c.maxLocals = 4 := hml0
  have hown : s.vm.findClass "java/lang/Math" = some m.cls := findClass_of_methodNamed Bd.named
  have hnm := (name_of_methodNamed Bd.named Bd.method).1
  have X0 : Stand p l e ({ frames := 0, cells := 0, slots := 0, locals := 0 } : Room) s m #[(.long q1), (.long q2)] below meth c s₁ [] 0 0 := Stand.of_body Bd
  have e0 : s₁.heap = h0 := by rw [← hh, Bd.state]; rfl
  have N0 := Fr.nil n0
  have pre0 : ∀ t, Steps p.tables e below (s₁.setTop (mkF m 0 #[.val (.long q1), .second, .val (.long q2), .second] [])) t → Steps p.tables e below (s₁.setTop (entryFrame m #[(.long q1), (.long q2)] 4)) t := fun t k => castTop (ef_5 m q1 q2) k

  obtain ⟨fs, hr, hrun, hended, hW, hsame⟩ := X0.leave (v := some (.long q1)) (fun h => by rw [Bd.returns] at h; cases h)
  refine ⟨_, _, pre0 _ ?_, hrun, hended, _, _, rfl, ?_, ⟨_, rfl⟩, hW, hsame.mono (by decide) (by decide)⟩
  · show Steps p.tables e below (s₁.setTop (mkF m 0 #[.val (.long q1), .second, .val (.long q2), .second] [])) _
    refine XS.lloadN X0.here hx rfl (hb hby d5_0) rfl ?_
    show Steps p.tables e below (s₁.setTop (mkF m 1 #[.val (.long q1), .second, .val (.long q2), .second] [(.long q1)])) _
    refine XS.lloadN X0.here hx rfl (hb hby d5_1) rfl ?_
    show Steps p.tables e below (s₁.setTop (mkF m 2 #[.val (.long q1), .second, .val (.long q2), .second] [(.long q2), (.long q1)])) _
    refine XS.lcmp X0.here hx rfl (hb hby d5_2) rfl ?_
    show Steps p.tables e below (s₁.setTop (mkF m 3 #[.val (.long q1), .second, .val (.long q2), .second] [(.int (lcmpW q1 q2))])) _
    refine XS.ifNo X0.here hx rfl (hb hby d5_3) rfl ((if0 _ _).trans (flt hc3).1) ?_
    show Steps p.tables e below (s₁.setTop (mkF m 6 #[.val (.long q1), .second, .val (.long q2), .second] [])) _
    refine XS.lloadN X0.here hx rfl (hb hby d5_6) rfl ?_
    show Steps p.tables e below (s₁.setTop (mkF m 7 #[.val (.long q1), .second, .val (.long q2), .second] [(.long q1)])) _
    refine XS.goto X0.here hx rfl (pc0 := 7) (pc' := 11) rfl (hb hby d5_7) (by decide) (by decide) ?_
    show Steps p.tables e below (s₁.setTop (mkF m 11 #[.val (.long q1), .second, .val (.long q2), .second] [(.long q1)])) _
    jvm_step X0.here [X0.here.top, hx, (hb hby d5_11), X0.method', Bd.returns, narrow]
    first | (intro acts; rw [hr _ acts rfl rfl rfl]) | rw [hr _ _ rfl rfl rfl]
    exact Steps.refl _
  · show QV _ _ n0 _ s₁.heap _
    rw [e0]
    exact ⟨rfl, N0, rfl⟩
theorem d8_0 : decode jdk_29_method_70_code 0 = .ok (.lload_n 0, 1) := by decide +kernel
theorem d8_1 : decode jdk_29_method_70_code 1 = .ok (.lload_n 2, 1) := by decide +kernel
theorem d8_2 : decode jdk_29_method_70_code 2 = .ok (.lcmp, 1) := by decide +kernel
theorem d8_3 : decode jdk_29_method_70_code 3 = .ok (.ifCond .gt 7, 3) := by decide +kernel
theorem d8_6 : decode jdk_29_method_70_code 6 = .ok (.lload_n 0, 1) := by decide +kernel
theorem d8_7 : decode jdk_29_method_70_code 7 = .ok (.goto 4, 3) := by decide +kernel
theorem d8_11 : decode jdk_29_method_70_code 11 = .ok (.lreturn, 1) := by decide +kernel
theorem ef_8 (m : MethodId) (x0 : Int64) (x1 : Int64) : entryFrame m #[(.long x0), (.long x1)] 4 = mkF m 0 #[.val (.long x0), .second, .val (.long x1), .second] [] := by first | (simp [entryFrame, mkF, argsToLocals, Value.category]; done) | rfl
set_option maxRecDepth 65536 in
set_option maxHeartbeats 40000000 in
theorem rm8_f (l : Launch) (Z : State) (a0 : Array Value) (hw : ∀ d ∈ tables_1, d.before a0 Z = true) (ws : List Jvm.Cond) (q1 : Int64) (q2 : Int64) (h0 : Heap) (n0 : Nat) (Z0 : n0 ≤ h0.size) (hc3 : ¬ ((0 : Int32) < (lcmpW q1 q2))) :
    MetFree l (⟨"java/lang/Math", "min", "(JJ)J"⟩ : MethodName) (head1 (Jvm.Cond.code (⟨"java/lang/Math", "min", "(JJ)J"⟩ : MethodName) jdk_29_method_70_code 4 (some .long) :: ws) ({ frames := 0, cells := 0, slots := 0, locals := 0 } : Room)) (fun a U => a = #[(.long q1), (.long q2)] ∧ Z.Warmed39 U.vm ∧ U.heap = h0) (fun _ _ _ _ _ => True) (fun _ U o U' => ∃ v L, o = .returned v ∧ QV (some (.long q1)) (fun h => h = h0) n0 v U'.heap L ∧ FrameEnd U o U' L ({ frames := 0, cells := 0, slots := 0, locals := 0 } : Room).cells ({ frames := 0, cells := 0, slots := 0, locals := 0 } : Room).slots) := by
  refine MetFree.of_bodySF (Jvm.Free.JP.mathPlain rfl (by decide +kernel)) hisR ?_
  intro p e s m args below meth c s₁ Bd hml0 hP hK
  obtain ⟨rfl, hZ, hh⟩ := hP
  have hx := Bd.exec
  have hby := Bd.bytes
  have hml : c.maxLocals = 4 := hml0
  have hown : s.vm.findClass "java/lang/Math" = some m.cls := findClass_of_methodNamed Bd.named
  have hnm := (name_of_methodNamed Bd.named Bd.method).1
  have X0 : Stand p l e ({ frames := 0, cells := 0, slots := 0, locals := 0 } : Room) s m #[(.long q1), (.long q2)] below meth c s₁ [] 0 0 := Stand.of_body Bd
  have e0 : s₁.heap = h0 := by rw [← hh, Bd.state]; rfl
  have N0 := Fr.nil n0
  have pre0 : ∀ t, Steps p.tables e below (s₁.setTop (mkF m 0 #[.val (.long q1), .second, .val (.long q2), .second] [])) t → Steps p.tables e below (s₁.setTop (entryFrame m #[(.long q1), (.long q2)] 4)) t := fun t k => castTop (ef_8 m q1 q2) k

  obtain ⟨fs, hr, hrun, hended, hW, hsame⟩ := X0.leave (v := some (.long q1)) (fun h => by rw [Bd.returns] at h; cases h)
  refine ⟨_, _, pre0 _ ?_, hrun, hended, _, _, rfl, ?_, ⟨_, rfl⟩, hW, hsame.mono (by decide) (by decide)⟩
  · show Steps p.tables e below (s₁.setTop (mkF m 0 #[.val (.long q1), .second, .val (.long q2), .second] [])) _
    refine XS.lloadN X0.here hx rfl (hb hby d8_0) rfl ?_
    show Steps p.tables e below (s₁.setTop (mkF m 1 #[.val (.long q1), .second, .val (.long q2), .second] [(.long q1)])) _
    refine XS.lloadN X0.here hx rfl (hb hby d8_1) rfl ?_
    show Steps p.tables e below (s₁.setTop (mkF m 2 #[.val (.long q1), .second, .val (.long q2), .second] [(.long q2), (.long q1)])) _
    refine XS.lcmp X0.here hx rfl (hb hby d8_2) rfl ?_
    show Steps p.tables e below (s₁.setTop (mkF m 3 #[.val (.long q1), .second, .val (.long q2), .second] [(.int (lcmpW q1 q2))])) _
    refine XS.ifNo X0.here hx rfl (hb hby d8_3) rfl ((if0 _ _).trans (flt hc3).2.2.1) ?_
    show Steps p.tables e below (s₁.setTop (mkF m 6 #[.val (.long q1), .second, .val (.long q2), .second] [])) _
    refine XS.lloadN X0.here hx rfl (hb hby d8_6) rfl ?_
    show Steps p.tables e below (s₁.setTop (mkF m 7 #[.val (.long q1), .second, .val (.long q2), .second] [(.long q1)])) _
    refine XS.goto X0.here hx rfl (pc0 := 7) (pc' := 11) rfl (hb hby d8_7) (by decide) (by decide) ?_
    show Steps p.tables e below (s₁.setTop (mkF m 11 #[.val (.long q1), .second, .val (.long q2), .second] [(.long q1)])) _
    jvm_step X0.here [X0.here.top, hx, (hb hby d8_11), X0.method', Bd.returns, narrow]
    first | (intro acts; rw [hr _ acts rfl rfl rfl]) | rw [hr _ _ rfl rfl rfl]
    exact Steps.refl _
  · show QV _ _ n0 _ s₁.heap _
    rw [e0]
    exact ⟨rfl, N0, rfl⟩
theorem d11_0 : decode jdk_29_method_69_code 0 = .ok (.iload_n 0, 1) := by decide +kernel
theorem d11_1 : decode jdk_29_method_69_code 1 = .ok (.iload_n 1, 1) := by decide +kernel
theorem d11_2 : decode jdk_29_method_69_code 2 = .ok (.if_icmp .gt 7, 3) := by decide +kernel
theorem d11_5 : decode jdk_29_method_69_code 5 = .ok (.iload_n 0, 1) := by decide +kernel
theorem d11_6 : decode jdk_29_method_69_code 6 = .ok (.goto 4, 3) := by decide +kernel
theorem d11_10 : decode jdk_29_method_69_code 10 = .ok (.ireturn, 1) := by decide +kernel
theorem ef_11 (m : MethodId) (x0 : Int32) (x1 : Int32) : entryFrame m #[(.int x0), (.int x1)] 2 = mkF m 0 #[.val (.int x0), .val (.int x1)] [] := by first | (simp [entryFrame, mkF, argsToLocals, Value.category]; done) | rfl
set_option maxRecDepth 65536 in
set_option maxHeartbeats 40000000 in
theorem rm11_f (l : Launch) (Z : State) (a0 : Array Value) (hw : ∀ d ∈ tables_1, d.before a0 Z = true) (ws : List Jvm.Cond) (p1 : Int32) (p2 : Int32) (h0 : Heap) (n0 : Nat) (Z0 : n0 ≤ h0.size) (hc2 : ¬ (p2 < p1)) :
    MetFree l (⟨"java/lang/Math", "min", "(II)I"⟩ : MethodName) (head1 (Jvm.Cond.code (⟨"java/lang/Math", "min", "(II)I"⟩ : MethodName) jdk_29_method_69_code 2 (some .int) :: ws) ({ frames := 0, cells := 0, slots := 0, locals := 0 } : Room)) (fun a U => a = #[(.int p1), (.int p2)] ∧ Z.Warmed39 U.vm ∧ U.heap = h0) (fun _ _ _ _ _ => True) (fun _ U o U' => ∃ v L, o = .returned v ∧ QV (some (.int p1)) (fun h => h = h0) n0 v U'.heap L ∧ FrameEnd U o U' L ({ frames := 0, cells := 0, slots := 0, locals := 0 } : Room).cells ({ frames := 0, cells := 0, slots := 0, locals := 0 } : Room).slots) := by
  refine MetFree.of_bodySF (Jvm.Free.JP.mathPlain rfl (by decide +kernel)) hisR ?_
  intro p e s m args below meth c s₁ Bd hml0 hP hK
  obtain ⟨rfl, hZ, hh⟩ := hP
  have hx := Bd.exec
  have hby := Bd.bytes
  have hml : c.maxLocals = 2 := hml0
  have hown : s.vm.findClass "java/lang/Math" = some m.cls := findClass_of_methodNamed Bd.named
  have hnm := (name_of_methodNamed Bd.named Bd.method).1
  have X0 : Stand p l e ({ frames := 0, cells := 0, slots := 0, locals := 0 } : Room) s m #[(.int p1), (.int p2)] below meth c s₁ [] 0 0 := Stand.of_body Bd
  have e0 : s₁.heap = h0 := by rw [← hh, Bd.state]; rfl
  have N0 := Fr.nil n0
  have pre0 : ∀ t, Steps p.tables e below (s₁.setTop (mkF m 0 #[.val (.int p1), .val (.int p2)] [])) t → Steps p.tables e below (s₁.setTop (entryFrame m #[(.int p1), (.int p2)] 2)) t := fun t k => castTop (ef_11 m p1 p2) k

  obtain ⟨fs, hr, hrun, hended, hW, hsame⟩ := X0.leave (v := some (.int p1)) (fun h => by rw [Bd.returns] at h; cases h)
  refine ⟨_, _, pre0 _ ?_, hrun, hended, _, _, rfl, ?_, ⟨_, rfl⟩, hW, hsame.mono (by decide) (by decide)⟩
  · show Steps p.tables e below (s₁.setTop (mkF m 0 #[.val (.int p1), .val (.int p2)] [])) _
    refine XS.iloadN X0.here hx rfl (hb hby d11_0) rfl ?_
    show Steps p.tables e below (s₁.setTop (mkF m 1 #[.val (.int p1), .val (.int p2)] [(.int p1)])) _
    refine XS.iloadN X0.here hx rfl (hb hby d11_1) rfl ?_
    show Steps p.tables e below (s₁.setTop (mkF m 2 #[.val (.int p1), .val (.int p2)] [(.int p2), (.int p1)])) _
    refine XS.icmpNo X0.here hx rfl (hb hby d11_2) rfl (flt hc2).2.2.1 ?_
    show Steps p.tables e below (s₁.setTop (mkF m 5 #[.val (.int p1), .val (.int p2)] [])) _
    refine XS.iloadN X0.here hx rfl (hb hby d11_5) rfl ?_
    show Steps p.tables e below (s₁.setTop (mkF m 6 #[.val (.int p1), .val (.int p2)] [(.int p1)])) _
    refine XS.goto X0.here hx rfl (pc0 := 6) (pc' := 10) rfl (hb hby d11_6) (by decide) (by decide) ?_
    show Steps p.tables e below (s₁.setTop (mkF m 10 #[.val (.int p1), .val (.int p2)] [(.int p1)])) _
    exact retI X0 hx Bd.returns (hb hby d11_10) hr
  · show QV _ _ n0 _ s₁.heap _
    rw [e0]
    exact ⟨rfl, N0, rfl⟩
theorem d10_0 : decode prog_3_method_5_code 0 = .ok (.iload_n 1, 1) := by decide +kernel
theorem d10_1 : decode prog_3_method_5_code 1 = .ok (.i2l, 1) := by decide +kernel
theorem d10_2 : decode prog_3_method_5_code 2 = .ok (.aload_n 0, 1) := by decide +kernel
theorem d10_3 : decode prog_3_method_5_code 3 = .ok (.getfield 24, 3) := by decide +kernel
theorem d10_6 : decode prog_3_method_5_code 6 = .ok (.i2l, 1) := by decide +kernel
theorem d10_7 : decode prog_3_method_5_code 7 = .ok (.aload_n 0, 1) := by decide +kernel
theorem d10_8 : decode prog_3_method_5_code 8 = .ok (.getfield 56, 3) := by decide +kernel
theorem d10_11 : decode prog_3_method_5_code 11 = .ok (.ladd, 1) := by decide +kernel
theorem d10_12 : decode prog_3_method_5_code 12 = .ok (.lcmp, 1) := by decide +kernel
theorem d10_13 : decode prog_3_method_5_code 13 = .ok (.ifCond .gt 7, 3) := by decide +kernel
theorem d10_16 : decode prog_3_method_5_code 16 = .ok (.iconst 1, 1) := by decide +kernel
theorem d10_17 : decode prog_3_method_5_code 17 = .ok (.goto 4, 3) := by decide +kernel
theorem d10_21 : decode prog_3_method_5_code 21 = .ok (.ireturn, 1) := by decide +kernel
theorem pn_10 : plainName "com/example/throttl/throttl/Grants" = true := by first | (simp [plainName, overriddenIn]; done) | decide +kernel
theorem ef_10 (m : MethodId) (x0 : Addr) (x1 : Int32) : entryFrame m #[(.ref x0), (.int x1)] 2 = mkF m 0 #[.val (.ref x0), .val (.int x1)] [] := by first | (simp [entryFrame, mkF, argsToLocals, Value.category]; done) | rfl
set_option maxRecDepth 65536 in
set_option maxHeartbeats 40000000 in
theorem rm10_f (l : Launch) (Z : State) (a0 : Array Value) (hw : ∀ d ∈ tables_1, d.before a0 Z = true) (ws : List Jvm.Cond) (a1 : Addr) (p2 : Int32) (kp : Int32) (sz : Int32) (od : Int32) (fg : Int64) (km : Int64) (iv : Value) (h0 : Heap) (n0 : Nat) (Z0 : n0 ≤ h0.size) (B0 : GB Z h0 a1 kp sz od fg km iv) (hc13 : ¬ ((0 : Int32) < (lcmpW (p2.toInt64) ((sz.toInt64) + fg)))) :
    MetFree l (⟨"com/example/throttl/throttl/Grants", "hasNthMostRecent", "(I)Z"⟩ : MethodName) (head1 (Jvm.Cond.code (⟨"com/example/throttl/throttl/Grants", "hasNthMostRecent", "(I)Z"⟩ : MethodName) prog_3_method_5_code 2 (some .boolean) :: ws) ({ frames := 0, cells := 0, slots := 0, locals := 0 } : Room)) (fun a U => a = #[(.ref a1), (.int p2)] ∧ Z.Warmed39 U.vm ∧ U.heap = h0) (fun _ _ _ _ _ => True) (fun _ U o U' => ∃ v L, o = .returned v ∧ QV (some (.int (1 : Int32))) (fun h => h = h0) n0 v U'.heap L ∧ FrameEnd U o U' L ({ frames := 0, cells := 0, slots := 0, locals := 0 } : Room).cells ({ frames := 0, cells := 0, slots := 0, locals := 0 } : Room).slots) := by
  refine MetFree.of_bodySF (plainFor_of_name pn_10) hisR ?_
  intro p e s m args below meth c s₁ Bd hml0 hP hK
  obtain ⟨rfl, hZ, hh⟩ := hP
  have hx := Bd.exec
  have hby := Bd.bytes
  have hml : c.maxLocals = 2 := hml0
  have hown : s.vm.findClass "com/example/throttl/throttl/Grants" = some m.cls := findClass_of_methodNamed Bd.named
  have hnm := (name_of_methodNamed Bd.named Bd.method).1
  have X0 : Stand p l e ({ frames := 0, cells := 0, slots := 0, locals := 0 } : Room) s m #[(.ref a1), (.int p2)] below meth c s₁ [] 0 0 := Stand.of_body Bd
  have e0 : s₁.heap = h0 := by rw [← hh, Bd.state]; rfl
  have N0 := Fr.nil n0
  have pre0 : ∀ t, Steps p.tables e below (s₁.setTop (mkF m 0 #[.val (.ref a1), .val (.int p2)] [])) t → Steps p.tables e below (s₁.setTop (entryFrame m #[(.ref a1), (.int p2)] 2)) t := fun t k => castTop (ef_10 m a1 p2) k
  obtain ⟨T4, X4, e4, st4⟩ := getF X0 hx hZ hown (host := "") (Or.inl (hw _ (List.mem_of_getElem? (i := 37) rfl))) Via.refl e0 B0.2.2.1 (g := (mkF m 3 #[.val (.ref a1), .val (.int p2)] [(.ref a1), (.long (p2.toInt64))])) rfl rfl (hb hby d10_3)
  obtain ⟨T6, X6, e6, st6⟩ := getF X4 hx hZ hown (host := "") (Or.inl (hw _ (List.mem_of_getElem? (i := 61) rfl))) Via.refl e4 B0.2.2.2.2.1 (g := (mkF m 8 #[.val (.ref a1), .val (.int p2)] [(.ref a1), (.long (sz.toInt64)), (.long (p2.toInt64))])) rfl rfl (hb hby d10_8)
  obtain ⟨fs, hr, hrun, hended, hW, hsame⟩ := X6.leave (v := some (.int (1 : Int32))) (fun h => by rw [Bd.returns] at h; cases h)
  refine ⟨_, _, pre0 _ ?_, hrun, hended, _, _, rfl, ?_, ⟨_, rfl⟩, hW, hsame.mono (by decide) (by decide)⟩
  · show Steps p.tables e below (s₁.setTop (mkF m 0 #[.val (.ref a1), .val (.int p2)] [])) _
    refine XS.iloadN X0.here hx rfl (hb hby d10_0) rfl ?_
    show Steps p.tables e below (s₁.setTop (mkF m 1 #[.val (.ref a1), .val (.int p2)] [(.int p2)])) _
    refine XS.i2l X0.here hx rfl (hb hby d10_1) rfl ?_
    show Steps p.tables e below (s₁.setTop (mkF m 2 #[.val (.ref a1), .val (.int p2)] [(.long (p2.toInt64))])) _
    refine XS.aloadN X0.here hx rfl (hb hby d10_2) rfl rfl ?_
    show Steps p.tables e below (s₁.setTop (mkF m 3 #[.val (.ref a1), .val (.int p2)] [(.ref a1), (.long (p2.toInt64))])) _
    refine st4 _ ?_
    show Steps p.tables e below (T4.setTop (mkF m 6 #[.val (.ref a1), .val (.int p2)] [(.int sz), (.long (p2.toInt64))])) _
    refine XS.i2l X4.here hx rfl (hb hby d10_6) rfl ?_
    show Steps p.tables e below (T4.setTop (mkF m 7 #[.val (.ref a1), .val (.int p2)] [(.long (sz.toInt64)), (.long (p2.toInt64))])) _
    refine XS.aloadN X4.here hx rfl (hb hby d10_7) rfl rfl ?_
    show Steps p.tables e below (T4.setTop (mkF m 8 #[.val (.ref a1), .val (.int p2)] [(.ref a1), (.long (sz.toInt64)), (.long (p2.toInt64))])) _
    refine st6 _ ?_
    show Steps p.tables e below (T6.setTop (mkF m 11 #[.val (.ref a1), .val (.int p2)] [(.long fg), (.long (sz.toInt64)), (.long (p2.toInt64))])) _
    refine XS.ladd X6.here hx rfl (hb hby d10_11) rfl ?_
    show Steps p.tables e below (T6.setTop (mkF m 12 #[.val (.ref a1), .val (.int p2)] [(.long ((sz.toInt64) + fg)), (.long (p2.toInt64))])) _
    refine XS.lcmp X6.here hx rfl (hb hby d10_12) rfl ?_
    show Steps p.tables e below (T6.setTop (mkF m 13 #[.val (.ref a1), .val (.int p2)] [(.int (lcmpW (p2.toInt64) ((sz.toInt64) + fg)))])) _
    refine XS.ifNo X6.here hx rfl (hb hby d10_13) rfl ((if0 _ _).trans (flt hc13).2.2.1) ?_
    show Steps p.tables e below (T6.setTop (mkF m 16 #[.val (.ref a1), .val (.int p2)] [])) _
    refine XS.iconst X6.here hx rfl (hb hby d10_16) ?_
    show Steps p.tables e below (T6.setTop (mkF m 17 #[.val (.ref a1), .val (.int p2)] [(.int (1 : Int32))])) _
    refine XS.goto X6.here hx rfl (pc0 := 17) (pc' := 21) rfl (hb hby d10_17) (by decide) (by decide) ?_
    show Steps p.tables e below (T6.setTop (mkF m 21 #[.val (.ref a1), .val (.int p2)] [(.int (1 : Int32))])) _
    exact retN X6 hx (t := .boolean) Bd.returns (by simp) (hb hby d10_21) hr
  · show QV _ _ n0 _ T6.heap _
    rw [e6]
    exact ⟨rfl, N0, rfl⟩
theorem d10_20 : decode prog_3_method_5_code 20 = .ok (.iconst 0, 1) := by decide +kernel
set_option maxRecDepth 65536 in
set_option maxHeartbeats 40000000 in
theorem rm10_t (l : Launch) (Z : State) (a0 : Array Value) (hw : ∀ d ∈ tables_1, d.before a0 Z = true) (ws : List Jvm.Cond) (a1 : Addr) (p2 : Int32) (kp : Int32) (sz : Int32) (od : Int32) (fg : Int64) (km : Int64) (iv : Value) (h0 : Heap) (n0 : Nat) (Z0 : n0 ≤ h0.size) (B0 : GB Z h0 a1 kp sz od fg km iv) (hc13 : (0 : Int32) < (lcmpW (p2.toInt64) ((sz.toInt64) + fg))) :
    MetFree l (⟨"com/example/throttl/throttl/Grants", "hasNthMostRecent", "(I)Z"⟩ : MethodName) (head1 (Jvm.Cond.code (⟨"com/example/throttl/throttl/Grants", "hasNthMostRecent", "(I)Z"⟩ : MethodName) prog_3_method_5_code 2 (some .boolean) :: ws) ({ frames := 0, cells := 0, slots := 0, locals := 0 } : Room)) (fun a U => a = #[(.ref a1), (.int p2)] ∧ Z.Warmed39 U.vm ∧ U.heap = h0) (fun _ _ _ _ _ => True) (fun _ U o U' => ∃ v L, o = .returned v ∧ QV (some (.int (0 : Int32))) (fun h => h = h0) n0 v U'.heap L ∧ FrameEnd U o U' L ({ frames := 0, cells := 0, slots := 0, locals := 0 } : Room).cells ({ frames := 0, cells := 0, slots := 0, locals := 0 } : Room).slots) := by
  refine MetFree.of_bodySF (plainFor_of_name pn_10) hisR ?_
  intro p e s m args below meth c s₁ Bd hml0 hP hK
  obtain ⟨rfl, hZ, hh⟩ := hP
  have hx := Bd.exec
  have hby := Bd.bytes
  have hml : c.maxLocals = 2 := hml0
  have hown : s.vm.findClass "com/example/throttl/throttl/Grants" = some m.cls := findClass_of_methodNamed Bd.named
  have hnm := (name_of_methodNamed Bd.named Bd.method).1
  have X0 : Stand p l e ({ frames := 0, cells := 0, slots := 0, locals := 0 } : Room) s m #[(.ref a1), (.int p2)] below meth c s₁ [] 0 0 := Stand.of_body Bd
  have e0 : s₁.heap = h0 := by rw [← hh, Bd.state]; rfl
  have N0 := Fr.nil n0
  have pre0 : ∀ t, Steps p.tables e below (s₁.setTop (mkF m 0 #[.val (.ref a1), .val (.int p2)] [])) t → Steps p.tables e below (s₁.setTop (entryFrame m #[(.ref a1), (.int p2)] 2)) t := fun t k => castTop (ef_10 m a1 p2) k
  obtain ⟨T4, X4, e4, st4⟩ := getF X0 hx hZ hown (host := "") (Or.inl (hw _ (List.mem_of_getElem? (i := 37) rfl))) Via.refl e0 B0.2.2.1 (g := (mkF m 3 #[.val (.ref a1), .val (.int p2)] [(.ref a1), (.long (p2.toInt64))])) rfl rfl (hb hby d10_3)
  obtain ⟨T6, X6, e6, st6⟩ := getF X4 hx hZ hown (host := "") (Or.inl (hw _ (List.mem_of_getElem? (i := 61) rfl))) Via.refl e4 B0.2.2.2.2.1 (g := (mkF m 8 #[.val (.ref a1), .val (.int p2)] [(.ref a1), (.long (sz.toInt64)), (.long (p2.toInt64))])) rfl rfl (hb hby d10_8)
  obtain ⟨fs, hr, hrun, hended, hW, hsame⟩ := X6.leave (v := some (.int (0 : Int32))) (fun h => by rw [Bd.returns] at h; cases h)
  refine ⟨_, _, pre0 _ ?_, hrun, hended, _, _, rfl, ?_, ⟨_, rfl⟩, hW, hsame.mono (by decide) (by decide)⟩
  · show Steps p.tables e below (s₁.setTop (mkF m 0 #[.val (.ref a1), .val (.int p2)] [])) _
    refine XS.iloadN X0.here hx rfl (hb hby d10_0) rfl ?_
    show Steps p.tables e below (s₁.setTop (mkF m 1 #[.val (.ref a1), .val (.int p2)] [(.int p2)])) _
    refine XS.i2l X0.here hx rfl (hb hby d10_1) rfl ?_
    show Steps p.tables e below (s₁.setTop (mkF m 2 #[.val (.ref a1), .val (.int p2)] [(.long (p2.toInt64))])) _
    refine XS.aloadN X0.here hx rfl (hb hby d10_2) rfl rfl ?_
    show Steps p.tables e below (s₁.setTop (mkF m 3 #[.val (.ref a1), .val (.int p2)] [(.ref a1), (.long (p2.toInt64))])) _
    refine st4 _ ?_
    show Steps p.tables e below (T4.setTop (mkF m 6 #[.val (.ref a1), .val (.int p2)] [(.int sz), (.long (p2.toInt64))])) _
    refine XS.i2l X4.here hx rfl (hb hby d10_6) rfl ?_
    show Steps p.tables e below (T4.setTop (mkF m 7 #[.val (.ref a1), .val (.int p2)] [(.long (sz.toInt64)), (.long (p2.toInt64))])) _
    refine XS.aloadN X4.here hx rfl (hb hby d10_7) rfl rfl ?_
    show Steps p.tables e below (T4.setTop (mkF m 8 #[.val (.ref a1), .val (.int p2)] [(.ref a1), (.long (sz.toInt64)), (.long (p2.toInt64))])) _
    refine st6 _ ?_
    show Steps p.tables e below (T6.setTop (mkF m 11 #[.val (.ref a1), .val (.int p2)] [(.long fg), (.long (sz.toInt64)), (.long (p2.toInt64))])) _
    refine XS.ladd X6.here hx rfl (hb hby d10_11) rfl ?_
    show Steps p.tables e below (T6.setTop (mkF m 12 #[.val (.ref a1), .val (.int p2)] [(.long ((sz.toInt64) + fg)), (.long (p2.toInt64))])) _
    refine XS.lcmp X6.here hx rfl (hb hby d10_12) rfl ?_
    show Steps p.tables e below (T6.setTop (mkF m 13 #[.val (.ref a1), .val (.int p2)] [(.int (lcmpW (p2.toInt64) ((sz.toInt64) + fg)))])) _
    refine XS.ifYes X6.here hx rfl (pc0 := 13) (pc' := 20) rfl (hb hby d10_13) rfl ((if0 _ _).trans (tlt hc13).2.2.1) (by decide) (by decide) ?_
    show Steps p.tables e below (T6.setTop (mkF m 20 #[.val (.ref a1), .val (.int p2)] [])) _
    refine XS.iconst X6.here hx rfl (hb hby d10_20) ?_
    show Steps p.tables e below (T6.setTop (mkF m 21 #[.val (.ref a1), .val (.int p2)] [(.int (0 : Int32))])) _
    exact retN X6 hx (t := .boolean) Bd.returns (by simp) (hb hby d10_21) hr
  · show QV _ _ n0 _ T6.heap _
    rw [e6]
    exact ⟨rfl, N0, rfl⟩
theorem d9_0 : decode prog_3_method_6_code 0 = .ok (.iload_n 1, 1) := by decide +kernel
theorem d9_1 : decode prog_3_method_6_code 1 = .ok (.iconst 1, 1) := by decide +kernel
theorem d9_2 : decode prog_3_method_6_code 2 = .ok (.if_icmp .lt 11, 3) := by decide +kernel
theorem d9_5 : decode prog_3_method_6_code 5 = .ok (.aload_n 0, 1) := by decide +kernel
theorem d9_6 : decode prog_3_method_6_code 6 = .ok (.iload_n 1, 1) := by decide +kernel
theorem d9_7 : decode prog_3_method_6_code 7 = .ok (.invokevirtual 59, 3) := by decide +kernel
theorem d9_10 : decode prog_3_method_6_code 10 = .ok (.ifCond .ne 21, 3) := by decide +kernel
theorem d9_31 : decode prog_3_method_6_code 31 = .ok (.aload_n 0, 1) := by decide +kernel
theorem d9_32 : decode prog_3_method_6_code 32 = .ok (.getfield 13, 3) := by decide +kernel
theorem d9_35 : decode prog_3_method_6_code 35 = .ok (.aload_n 0, 1) := by decide +kernel
theorem d9_36 : decode prog_3_method_6_code 36 = .ok (.getfield 69, 3) := by decide +kernel
theorem d9_39 : decode prog_3_method_6_code 39 = .ok (.aload_n 0, 1) := by decide +kernel
theorem d9_40 : decode prog_3_method_6_code 40 = .ok (.getfield 24, 3) := by decide +kernel
theorem d9_43 : decode prog_3_method_6_code 43 = .ok (.iadd, 1) := by decide +kernel
theorem d9_44 : decode prog_3_method_6_code 44 = .ok (.iload_n 1, 1) := by decide +kernel
theorem d9_45 : decode prog_3_method_6_code 45 = .ok (.aload_n 0, 1) := by decide +kernel
theorem d9_46 : decode prog_3_method_6_code 46 = .ok (.getfield 24, 3) := by decide +kernel
theorem d9_49 : decode prog_3_method_6_code 49 = .ok (.invokestatic 72, 3) := by decide +kernel
theorem d9_52 : decode prog_3_method_6_code 52 = .ok (.isub, 1) := by decide +kernel
theorem d9_53 : decode prog_3_method_6_code 53 = .ok (.aload_n 0, 1) := by decide +kernel
theorem d9_54 : decode prog_3_method_6_code 54 = .ok (.getfield 13, 3) := by decide +kernel
theorem d9_57 : decode prog_3_method_6_code 57 = .ok (.arraylength, 1) := by decide +kernel
theorem d9_58 : decode prog_3_method_6_code 58 = .ok (.irem, 1) := by decide +kernel
theorem d9_59 : decode prog_3_method_6_code 59 = .ok (.laload, 1) := by decide +kernel
theorem d9_60 : decode prog_3_method_6_code 60 = .ok (.lreturn, 1) := by decide +kernel
theorem pn_9 : plainName "com/example/throttl/throttl/Grants" = true := by first | (simp [plainName, overriddenIn]; done) | decide +kernel
theorem pd_9_6 : parseMethodDescriptor "(I)Z" = some ⟨[.int], some .boolean⟩ := by decide +kernel
theorem pd_9_2 : parseMethodDescriptor "(II)I" = some ⟨[.int, .int], some .int⟩ := by decide +kernel
theorem ef_9 (m : MethodId) (x0 : Addr) (x1 : Int32) : entryFrame m #[(.ref x0), (.int x1)] 2 = mkF m 0 #[.val (.ref x0), .val (.int x1)] [] := by first | (simp [entryFrame, mkF, argsToLocals, Value.category]; done) | rfl
set_option maxRecDepth 65536 in
set_option maxHeartbeats 40000000 in
theorem rm9 (l : Launch) (Z : State) (a0 : Array Value) (hw : ∀ d ∈ tables_1, d.before a0 Z = true) (ws : List Jvm.Cond) (a1 : Addr) (p2 : Int32) (kp : Int32) (sz : Int32) (od : Int32) (fg : Int64) (km : Int64) (ar : Addr) (kA : ClassId) (z : Int32) (vs : List Value) (b : Int64) (h0 : Heap) (n0 : Nat) (Z0 : n0 ≤ h0.size) (B0 : GB Z h0 a1 kp sz od fg km (.ref ar)) (V0 : Arv Z h0 ar kA .long z vs (.long 0)) (hi : ¬ ((((od + sz) - p2) % z) < 0) ∧ (((od + sz) - p2) % z) < z) (hu : vs.getD ((((od + sz) - p2) % z)).toNatClampNeg (.long 0) = .long b) (hh10 : ¬ ((0 : Int32) < (lcmpW (p2.toInt64) ((sz.toInt64) + fg)))) (hm : ¬ (sz < p2)) (hc2 : ¬ (p2 < (1 : Int32))) (nz58 : z ≠ 0) :
    MetFree l (⟨"com/example/throttl/throttl/Grants", "nthMostRecent", "(I)J"⟩ : MethodName) (head1 (Jvm.Cond.code (⟨"com/example/throttl/throttl/Grants", "nthMostRecent", "(I)J"⟩ : MethodName) prog_3_method_6_code 2 (some .long) :: ws) ({ frames := 1, cells := 0, slots := 0, locals := 24 } : Room)) (fun a U => a = #[(.ref a1), (.int p2)] ∧ Z.Warmed39 U.vm ∧ U.heap = h0) (fun _ _ _ _ _ => True) (fun _ U o U' => ∃ v L, o = .returned v ∧ QV (some (.long b)) (fun h => h = h0) n0 v U'.heap L ∧ FrameEnd U o U' L ({ frames := 1, cells := 0, slots := 0, locals := 24 } : Room).cells ({ frames := 1, cells := 0, slots := 0, locals := 24 } : Room).slots) := by
  refine MetFree.of_bodySF (plainFor_of_name pn_9) hisR ?_
  intro p e s m args below meth c s₁ Bd hml0 hP hK
  obtain ⟨rfl, hZ, hh⟩ := hP
  have hx := Bd.exec
  have hby := Bd.bytes
  have hml : c.maxLocals = 2 := hml0
  have hown : s.vm.findClass "com/example/throttl/throttl/Grants" = some m.cls := findClass_of_methodNamed Bd.named
  have hnm := (name_of_methodNamed Bd.named Bd.method).1
  have X0 : Stand p l e ({ frames := 1, cells := 0, slots := 0, locals := 24 } : Room) s m #[(.ref a1), (.int p2)] below meth c s₁ [] 0 0 := Stand.of_body Bd
  have e0 : s₁.heap = h0 := by rw [← hh, Bd.state]; rfl
  have N0 := Fr.nil n0
  obtain ⟨cl_ar, Ar_ar, qc, S_ar, N_ar, HA, GA⟩ := V0
  have hin59 := inb_of S_ar hi
  have hat59 := HA.at hin59 hu
  have pre0 : ∀ t, Steps p.tables e below (s₁.setTop (mkF m 0 #[.val (.ref a1), .val (.int p2)] [])) t → Steps p.tables e below (s₁.setTop (entryFrame m #[(.ref a1), (.int p2)] 2)) t := fun t k => castTop (ef_9 m a1 p2) k
  obtain ⟨cq3, kq3, q3a, q3b, q3c⟩ := isOf hZ e0 B0.1
  obtain ⟨_, _, ⟨T3, L3, k3, n3⟩, -, X3, ⟨Lc3, hQ3, l3, y3, z3⟩, st3⟩ := X0.virtualBack hx (y := (⟨"com/example/throttl/throttl/Grants", "hasNthMostRecent", "(I)Z"⟩ : MethodName)) (z := (⟨"com/example/throttl/throttl/Grants", "hasNthMostRecent", "(I)Z"⟩ : MethodName)) hown (mvT hZ (hw _ (List.mem_of_getElem? (i := 56) rfl))) (mvT hZ (hw _ (List.mem_of_getElem? (i := 57) rfl))) (notFace_of_selects (args := #[]) (mvT hZ (hw _ (List.mem_of_getElem? (i := 59) rfl)))) (mvT hZ (hw _ (List.mem_of_getElem? (i := 59) rfl))) (mvT hZ (hw _ (List.mem_of_getElem? (i := 58) rfl))) (by decide) (backOf (W := 0) (rm10_f l Z a0 hw [] a1 p2 kp sz od fg km (.ref ar) h0 n0 Z0 B0 hh10) hZ (hw _ (List.mem_of_getElem? (i := 60) rfl)) (hw _ (List.mem_of_getElem? (i := 2) rfl)) (by decide) (by decide)) q3a q3c (g := (mkF m 7 #[.val (.ref a1), .val (.int p2)] [(.int p2), (.ref a1)])) rfl (by rw [hml]; rfl) (Steps.refl _) (argsL := [(.int p2)]) (rest := []) (lenOf pd_9_6 rfl) rfl (by show 2 * 0 + _ ≤ _; exact Nat.le_of_eq rfl) (hb hby d9_7) (fun _ _ => ⟨rfl, e0, (by decide : 0 + 0 ≤ _), (by decide : 0 + 0 ≤ _)⟩)
  dsimp only [Pt.U, Pt.locs, Pt.cells, Pt.slots] at X3 l3 y3 z3 st3 hQ3
  subst l3 y3 z3
  obtain ⟨rfl, N3q, hh3⟩ := hQ3
  have N3 := Fr.app N0 N3q
  obtain ⟨T5, X5, e5, st5⟩ := getF X3 hx hZ hown (host := "") (Or.inl (hw _ (List.mem_of_getElem? (i := 11) rfl))) Via.refl hh3 B0.2.2.2.2.2.2 (g := (mkF m 32 #[.val (.ref a1), .val (.int p2)] [(.ref a1)])) rfl rfl (hb hby d9_32)
  obtain ⟨T7, X7, e7, st7⟩ := getF X5 hx hZ hown (host := "") (Or.inl (hw _ (List.mem_of_getElem? (i := 49) rfl))) Via.refl e5 B0.2.2.2.1 (g := (mkF m 36 #[.val (.ref a1), .val (.int p2)] [(.ref a1), (.ref ar)])) rfl rfl (hb hby d9_36)
  obtain ⟨T9, X9, e9, st9⟩ := getF X7 hx hZ hown (host := "") (Or.inl (hw _ (List.mem_of_getElem? (i := 37) rfl))) Via.refl e7 B0.2.2.1 (g := (mkF m 40 #[.val (.ref a1), .val (.int p2)] [(.ref a1), (.int od), (.ref ar)])) rfl rfl (hb hby d9_40)
  obtain ⟨T10, X10, e10, st10⟩ := getF X9 hx hZ hown (host := "") (Or.inl (hw _ (List.mem_of_getElem? (i := 37) rfl))) Via.refl e9 B0.2.2.1 (g := (mkF m 46 #[.val (.ref a1), .val (.int p2)] [(.ref a1), (.int p2), (.int (od + sz)), (.ref ar)])) rfl rfl (hb hby d9_46)
  obtain ⟨_, _, ⟨T11, L11, k11, n11⟩, -, X11, ⟨Lc11, hQ11, l11, y11, z11⟩, st11⟩ := Jvm.LawKit.callS X10 hx (y := (⟨"java/lang/Math", "min", "(II)I"⟩ : MethodName)) hown (mvT hZ (hw _ (List.mem_of_getElem? (i := 63) rfl))) (mvT hZ (hw _ (List.mem_of_getElem? (i := 64) rfl))) (mvT hZ (hw _ (List.mem_of_getElem? (i := 25) rfl))) (mvT hZ (hw _ (List.mem_of_getElem? (i := 65) rfl))) (by decide) (backOf (W := 2) (rm11_f l Z a0 hw [] p2 sz h0 n0 Z0 hm) hZ (hw _ (List.mem_of_getElem? (i := 65) rfl)) (hw _ (List.mem_of_getElem? (i := 25) rfl)) (by decide) (by decide)) (g := (mkF m 49 #[.val (.ref a1), .val (.int p2)] [(.int sz), (.int p2), (.int (od + sz)), (.ref ar)])) rfl (by rw [hml]; rfl) (argsL := [(.int p2), (.int sz)]) (rest := [(.int (od + sz)), (.ref ar)]) (lenOf pd_9_2 rfl) rfl (by show 2 * 0 + _ ≤ _; exact Nat.le_of_eq rfl) (hb hby d9_49) (fun _ _ => ⟨rfl, e10, (by decide : 0 + 0 ≤ _), (by decide : 0 + 0 ≤ _)⟩)
  dsimp only [Pt.U, Pt.locs, Pt.cells, Pt.slots] at X11 l11 y11 z11 st11 hQ11
  subst l11 y11 z11
  obtain ⟨rfl, N11q, hh11⟩ := hQ11
  have N11 := Fr.app N3 N11q
  obtain ⟨T13, X13, e13, st13⟩ := getF X11 hx hZ hown (host := "") (Or.inl (hw _ (List.mem_of_getElem? (i := 11) rfl))) Via.refl hh11 B0.2.2.2.2.2.2 (g := (mkF m 54 #[.val (.ref a1), .val (.int p2)] [(.ref a1), (.int ((od + sz) - p2)), (.ref ar)])) rfl rfl (hb hby d9_54)
  obtain ⟨fs, hr, hrun, hended, hW, hsame⟩ := X13.leave (v := some (.long b)) (fun h => by rw [Bd.returns] at h; cases h)
  refine ⟨_, _, pre0 _ ?_, hrun, hended, _, _, rfl, ?_, ⟨_, rfl⟩, hW, hsame.mono (by decide) (by decide)⟩
  · show Steps p.tables e below (s₁.setTop (mkF m 0 #[.val (.ref a1), .val (.int p2)] [])) _
    refine XS.iloadN X0.here hx rfl (hb hby d9_0) rfl ?_
    show Steps p.tables e below (s₁.setTop (mkF m 1 #[.val (.ref a1), .val (.int p2)] [(.int p2)])) _
    refine XS.iconst X0.here hx rfl (hb hby d9_1) ?_
    show Steps p.tables e below (s₁.setTop (mkF m 2 #[.val (.ref a1), .val (.int p2)] [(.int (1 : Int32)), (.int p2)])) _
    refine XS.icmpNo X0.here hx rfl (hb hby d9_2) rfl (flt hc2).1 ?_
    show Steps p.tables e below (s₁.setTop (mkF m 5 #[.val (.ref a1), .val (.int p2)] [])) _
    refine XS.aloadN X0.here hx rfl (hb hby d9_5) rfl rfl ?_
    show Steps p.tables e below (s₁.setTop (mkF m 6 #[.val (.ref a1), .val (.int p2)] [(.ref a1)])) _
    refine XS.iloadN X0.here hx rfl (hb hby d9_6) rfl ?_
    show Steps p.tables e below (s₁.setTop (mkF m 7 #[.val (.ref a1), .val (.int p2)] [(.int p2), (.ref a1)])) _
    refine st3.trans ?_
    show Steps p.tables e below (T3.setTop (mkF m 10 #[.val (.ref a1), .val (.int p2)] [(.int (1 : Int32))])) _
    refine XS.ifYes X3.here hx rfl (pc0 := 10) (pc' := 31) rfl (hb hby d9_10) rfl ((if0 _ _).trans (feq (by decide : ¬ ((1 : Int32) = (0 : Int32)))).2) (by decide) (by decide) ?_
    show Steps p.tables e below (T3.setTop (mkF m 31 #[.val (.ref a1), .val (.int p2)] [])) _
    refine XS.aloadN X3.here hx rfl (hb hby d9_31) rfl rfl ?_
    show Steps p.tables e below (T3.setTop (mkF m 32 #[.val (.ref a1), .val (.int p2)] [(.ref a1)])) _
    refine st5 _ ?_
    show Steps p.tables e below (T5.setTop (mkF m 35 #[.val (.ref a1), .val (.int p2)] [(.ref ar)])) _
    refine XS.aloadN X5.here hx rfl (hb hby d9_35) rfl rfl ?_
    show Steps p.tables e below (T5.setTop (mkF m 36 #[.val (.ref a1), .val (.int p2)] [(.ref a1), (.ref ar)])) _
    refine st7 _ ?_
    show Steps p.tables e below (T7.setTop (mkF m 39 #[.val (.ref a1), .val (.int p2)] [(.int od), (.ref ar)])) _
    refine XS.aloadN X7.here hx rfl (hb hby d9_39) rfl rfl ?_
    show Steps p.tables e below (T7.setTop (mkF m 40 #[.val (.ref a1), .val (.int p2)] [(.ref a1), (.int od), (.ref ar)])) _
    refine st9 _ ?_
    show Steps p.tables e below (T9.setTop (mkF m 43 #[.val (.ref a1), .val (.int p2)] [(.int sz), (.int od), (.ref ar)])) _
    refine XS.iadd X9.here hx rfl (hb hby d9_43) rfl ?_
    show Steps p.tables e below (T9.setTop (mkF m 44 #[.val (.ref a1), .val (.int p2)] [(.int (od + sz)), (.ref ar)])) _
    refine XS.iloadN X9.here hx rfl (hb hby d9_44) rfl ?_
    show Steps p.tables e below (T9.setTop (mkF m 45 #[.val (.ref a1), .val (.int p2)] [(.int p2), (.int (od + sz)), (.ref ar)])) _
    refine XS.aloadN X9.here hx rfl (hb hby d9_45) rfl rfl ?_
    show Steps p.tables e below (T9.setTop (mkF m 46 #[.val (.ref a1), .val (.int p2)] [(.ref a1), (.int p2), (.int (od + sz)), (.ref ar)])) _
    refine st10 _ ?_
    show Steps p.tables e below (T10.setTop (mkF m 49 #[.val (.ref a1), .val (.int p2)] [(.int sz), (.int p2), (.int (od + sz)), (.ref ar)])) _
    refine st11 _ ?_
    show Steps p.tables e below (T11.setTop (mkF m 52 #[.val (.ref a1), .val (.int p2)] [(.int p2), (.int (od + sz)), (.ref ar)])) _
    refine XS.isub X11.here hx rfl (hb hby d9_52) rfl ?_
    show Steps p.tables e below (T11.setTop (mkF m 53 #[.val (.ref a1), .val (.int p2)] [(.int ((od + sz) - p2)), (.ref ar)])) _
    refine XS.aloadN X11.here hx rfl (hb hby d9_53) rfl rfl ?_
    show Steps p.tables e below (T11.setTop (mkF m 54 #[.val (.ref a1), .val (.int p2)] [(.ref a1), (.int ((od + sz) - p2)), (.ref ar)])) _
    refine st13 _ ?_
    show Steps p.tables e below (T13.setTop (mkF m 57 #[.val (.ref a1), .val (.int p2)] [(.ref ar), (.int ((od + sz) - p2)), (.ref ar)])) _
    refine X13.arraylength hx (by rw [e13]; exact Ar_ar.1) (State.isArrayOf_alike hZ.alike Ar_ar.2.1) (g := (mkF m 57 #[.val (.ref a1), .val (.int p2)] [(.ref ar), (.int ((od + sz) - p2)), (.ref ar)])) rfl rfl (hb hby d9_57) _ ?_
    rw [len_of S_ar N_ar]
    show Steps p.tables e below (T13.setTop (mkF m 58 #[.val (.ref a1), .val (.int p2)] [(.int z), (.int ((od + sz) - p2)), (.ref ar)])) _
    refine Jvm.RoadKit.iremM (g := (mkF m 58 #[.val (.ref a1), .val (.int p2)] [(.int z), (.int ((od + sz) - p2)), (.ref ar)])) X13 hx rfl (hb hby d9_58) rfl nz58 ?_
    show Steps p.tables e below (T13.setTop (mkF m 59 #[.val (.ref a1), .val (.int p2)] [(.int (((od + sz) - p2) % z)), (.ref ar)])) _
    refine X13.laload hx (j := (((od + sz) - p2) % z)) (v := (.long b)) (by rw [e13]; exact Ar_ar.1) (State.isArrayOf_alike hZ.alike Ar_ar.2.1) Ar_ar.2.2 hin59 hat59 (g := (mkF m 59 #[.val (.ref a1), .val (.int p2)] [(.int (((od + sz) - p2) % z)), (.ref ar)])) rfl rfl (hb hby d9_59) _ ?_
    show Steps p.tables e below (T13.setTop (mkF m 60 #[.val (.ref a1), .val (.int p2)] [(.long b)])) _
    jvm_step X13.here [X13.here.top, hx, (hb hby d9_60), X13.method', Bd.returns, narrow]
    first | (intro acts; rw [hr _ acts rfl rfl rfl]) | rw [hr _ _ rfl rfl rfl]
    exact Steps.refl _
  · show QV _ _ n0 _ T13.heap _
    rw [e13]
    exact ⟨rfl, N11, rfl⟩
theorem d7_0 : decode prog_3_method_8_code 0 = .ok (.aload_n 0, 1) := by decide +kernel
theorem d7_1 : decode prog_3_method_8_code 1 = .ok (.getfield 37, 3) := by decide +kernel
theorem d7_4 : decode prog_3_method_8_code 4 = .ok (.i2l, 1) := by decide +kernel
theorem d7_5 : decode prog_3_method_8_code 5 = .ok (.ldc2_w 86, 3) := by decide +kernel
theorem d7_8 : decode prog_3_method_8_code 8 = .ok (.ldc2_w 88, 3) := by decide +kernel
theorem d7_11 : decode prog_3_method_8_code 11 = .ok (.aload_n 0, 1) := by decide +kernel
theorem d7_12 : decode prog_3_method_8_code 12 = .ok (.getfield 13, 3) := by decide +kernel
theorem d7_15 : decode prog_3_method_8_code 15 = .ok (.arraylength, 1) := by decide +kernel
theorem d7_16 : decode prog_3_method_8_code 16 = .ok (.i2l, 1) := by decide +kernel
theorem d7_17 : decode prog_3_method_8_code 17 = .ok (.lmul, 1) := by decide +kernel
theorem d7_18 : decode prog_3_method_8_code 18 = .ok (.invokestatic 49, 3) := by decide +kernel
theorem d7_21 : decode prog_3_method_8_code 21 = .ok (.invokestatic 90, 3) := by decide +kernel
theorem d7_24 : decode prog_3_method_8_code 24 = .ok (.l2i, 1) := by decide +kernel
theorem d7_25 : decode prog_3_method_8_code 25 = .ok (.newarray .long, 2) := by decide +kernel
theorem d7_27 : decode prog_3_method_8_code 27 = .ok (.astore_n 1, 1) := by decide +kernel
theorem d7_28 : decode prog_3_method_8_code 28 = .ok (.iconst 0, 1) := by decide +kernel
theorem d7_29 : decode prog_3_method_8_code 29 = .ok (.istore_n 2, 1) := by decide +kernel
theorem d7_30 : decode prog_3_method_8_code 30 = .ok (.iload_n 2, 1) := by decide +kernel
theorem d7_31 : decode prog_3_method_8_code 31 = .ok (.aload_n 0, 1) := by decide +kernel
theorem d7_32 : decode prog_3_method_8_code 32 = .ok (.getfield 24, 3) := by decide +kernel
theorem d7_35 : decode prog_3_method_8_code 35 = .ok (.if_icmp .ge 29, 3) := by decide +kernel
theorem d7_64 : decode prog_3_method_8_code 64 = .ok (.aload_n 0, 1) := by decide +kernel
theorem d7_65 : decode prog_3_method_8_code 65 = .ok (.aload_n 1, 1) := by decide +kernel
theorem d7_66 : decode prog_3_method_8_code 66 = .ok (.putfield 13, 3) := by decide +kernel
theorem d7_69 : decode prog_3_method_8_code 69 = .ok (.aload_n 0, 1) := by decide +kernel
theorem d7_70 : decode prog_3_method_8_code 70 = .ok (.iconst 0, 1) := by decide +kernel
theorem d7_71 : decode prog_3_method_8_code 71 = .ok (.putfield 69, 3) := by decide +kernel
theorem d7_74 : decode prog_3_method_8_code 74 = .ok (.return_, 1) := by decide +kernel
theorem pn_7 : plainName "com/example/throttl/throttl/Grants" = true := by first | (simp [plainName, overriddenIn]; done) | decide +kernel
theorem pd_7_3 : parseMethodDescriptor "(JJ)J" = some ⟨[.long, .long], some .long⟩ := by decide +kernel
theorem ef_7 (m : MethodId) (x0 : Addr) : entryFrame m #[(.ref x0)] 3 = mkF m 0 #[.val (.ref x0), .unset, .unset] [] := by first | (simp [entryFrame, mkF, argsToLocals, Value.category]; done) | rfl
set_option maxRecDepth 65536 in
set_option maxHeartbeats 40000000 in
theorem rm7 (l : Launch) (Z : State) (a0 : Array Value) (hw : ∀ d ∈ tables_1, d.before a0 Z = true) (ws : List Jvm.Cond) (a1 : Addr) (kp : Int32) (fg : Int64) (km : Int64) (st : Addr) (cl_st : Cell) (h0 : Heap) (n0 : Nat) (Z0 : n0 ≤ h0.size) (B0 : GB Z h0 a1 kp (0 : Int32) (0 : Int32) fg km (.ref st)) (Ar_st : Arr Z h0 st cl_st .long) (S_st : cl_st.slots.size = (0 : Int32).toNatClampNeg) (N_st : ¬ ((0 : Int32) < 0)) (g_a1 : n0 ≤ a1) (hk1 : kp.toInt64.toInt32 = kp) (hk2 : ¬ (kp < 0)) (hk3 : kp.toNatClampNeg ≤ 8) (hmx : ¬ ((lcmpW (16 : Int64) ((2 : Int64) * ((0 : Int32).toInt64))) < (0 : Int32))) (hmn : ¬ ((0 : Int32) < (lcmpW (kp.toInt64) (16 : Int64)))) (hc35 : ¬ ((0 : Int32) < (0 : Int32))) :
    MetFree l (⟨"com/example/throttl/throttl/Grants", "grow", "()V"⟩ : MethodName) (head1 (Jvm.Cond.code (⟨"com/example/throttl/throttl/Grants", "grow", "()V"⟩ : MethodName) prog_3_method_8_code 3 none :: ws) ({ frames := 1, cells := 1, slots := 8, locals := 32 } : Room)) (fun a U => a = #[(.ref a1)] ∧ Z.Warmed39 U.vm ∧ U.heap = h0) (fun _ _ _ _ _ => True) (fun _ U o U' => ∃ v L, o = .returned v ∧ QV none (fun h => Keep h0 h [a1] ∧ ∃ (ar : Addr) (kA : ClassId), h0.size ≤ ar ∧ a1 ≠ ar ∧ GB Z h a1 kp (0 : Int32) (0 : Int32) fg km (.ref ar) ∧ Arv Z h ar kA .long kp [] (.long 0)) n0 v U'.heap L ∧ FrameEnd U o U' L ({ frames := 1, cells := 1, slots := 8, locals := 32 } : Room).cells ({ frames := 1, cells := 1, slots := 8, locals := 32 } : Room).slots) := by
  refine MetFree.of_bodySF (plainFor_of_name pn_7) hisR ?_
  intro p e s m args below meth c s₁ Bd hml0 hP hK
  obtain ⟨rfl, hZ, hh⟩ := hP
  have hx := Bd.exec
  have hby := Bd.bytes
  have hml : c.maxLocals = 3 := hml0
  have hown : s.vm.findClass "com/example/throttl/throttl/Grants" = some m.cls := findClass_of_methodNamed Bd.named
  have hnm := (name_of_methodNamed Bd.named Bd.method).1
  have X0 : Stand p l e ({ frames := 1, cells := 1, slots := 8, locals := 32 } : Room) s m #[(.ref a1)] below meth c s₁ [] 0 0 := Stand.of_body Bd
  have e0 : s₁.heap = h0 := by rw [← hh, Bd.state]; rfl
  have N0 := Fr.nil n0
  have pre0 : ∀ t, Steps p.tables e below (s₁.setTop (mkF m 0 #[.val (.ref a1), .unset, .unset] [])) t → Steps p.tables e below (s₁.setTop (entryFrame m #[(.ref a1)] 3)) t := fun t k => castTop (ef_7 m a1) k
  obtain ⟨T3, X3, e3, st3⟩ := getF X0 hx hZ hown (host := "") (Or.inl (hw _ (List.mem_of_getElem? (i := 21) rfl))) Via.refl e0 B0.2.1 (g := (mkF m 1 #[.val (.ref a1), .unset, .unset] [(.ref a1)])) rfl rfl (hb hby d7_1)
  obtain ⟨T5, X5, e5, st5⟩ := getF X3 hx hZ hown (host := "") (Or.inl (hw _ (List.mem_of_getElem? (i := 11) rfl))) Via.refl e3 B0.2.2.2.2.2.2 (g := (mkF m 12 #[.val (.ref a1), .unset, .unset] [(.ref a1), (.long (2 : Int64)), (.long (16 : Int64)), (.long (kp.toInt64))])) rfl rfl (hb hby d7_12)
  obtain ⟨_, _, ⟨T6, L6, k6, n6⟩, -, X6, ⟨Lc6, hQ6, l6, y6, z6⟩, st6⟩ := Jvm.LawKit.callS X5 hx (y := (⟨"java/lang/Math", "max", "(JJ)J"⟩ : MethodName)) hown (mvT hZ (hw _ (List.mem_of_getElem? (i := 29) rfl))) (mvT hZ (hw _ (List.mem_of_getElem? (i := 30) rfl))) (mvT hZ (hw _ (List.mem_of_getElem? (i := 25) rfl))) (mvT hZ (hw _ (List.mem_of_getElem? (i := 31) rfl))) (by decide) (backOf (W := 2) (rm5_f l Z a0 hw [] (16 : Int64) ((2 : Int64) * ((0 : Int32).toInt64)) h0 n0 Z0 hmx) hZ (hw _ (List.mem_of_getElem? (i := 31) rfl)) (hw _ (List.mem_of_getElem? (i := 25) rfl)) (by decide) (by decide)) (g := (mkF m 18 #[.val (.ref a1), .unset, .unset] [(.long ((2 : Int64) * ((0 : Int32).toInt64))), (.long (16 : Int64)), (.long (kp.toInt64))])) rfl (by rw [hml]; rfl) (argsL := [(.long (16 : Int64)), (.long ((2 : Int64) * ((0 : Int32).toInt64)))]) (rest := [(.long (kp.toInt64))]) (lenOf pd_7_3 rfl) rfl (by show 2 * 0 + _ ≤ _; exact Nat.le_of_eq rfl) (hb hby d7_18) (fun _ _ => ⟨rfl, e5, (by decide : 0 + 0 ≤ _), (by decide : 0 + 0 ≤ _)⟩)
  dsimp only [Pt.U, Pt.locs, Pt.cells, Pt.slots] at X6 l6 y6 z6 st6 hQ6
  subst l6 y6 z6
  obtain ⟨rfl, N6q, hh6⟩ := hQ6
  have N6 := Fr.app N0 N6q
  obtain ⟨_, _, ⟨T7, L7, k7, n7⟩, -, X7, ⟨Lc7, hQ7, l7, y7, z7⟩, st7⟩ := Jvm.LawKit.callS X6 hx (y := (⟨"java/lang/Math", "min", "(JJ)J"⟩ : MethodName)) hown (mvT hZ (hw _ (List.mem_of_getElem? (i := 45) rfl))) (mvT hZ (hw _ (List.mem_of_getElem? (i := 46) rfl))) (mvT hZ (hw _ (List.mem_of_getElem? (i := 25) rfl))) (mvT hZ (hw _ (List.mem_of_getElem? (i := 47) rfl))) (by decide) (backOf (W := 0) (rm8_f l Z a0 hw [] (kp.toInt64) (16 : Int64) h0 n0 Z0 hmn) hZ (hw _ (List.mem_of_getElem? (i := 47) rfl)) (hw _ (List.mem_of_getElem? (i := 25) rfl)) (by decide) (by decide)) (g := (mkF m 21 #[.val (.ref a1), .unset, .unset] [(.long (16 : Int64)), (.long (kp.toInt64))])) rfl (by rw [hml]; rfl) (argsL := [(.long (kp.toInt64)), (.long (16 : Int64))]) (rest := []) (lenOf pd_7_3 rfl) rfl (by show 2 * 0 + _ ≤ _; exact Nat.le_of_eq rfl) (hb hby d7_21) (fun _ _ => ⟨rfl, hh6, (by decide : 0 + 0 ≤ _), (by decide : 0 + 0 ≤ _)⟩)
  dsimp only [Pt.U, Pt.locs, Pt.cells, Pt.slots] at X7 l7 y7 z7 st7 hQ7
  subst l7 y7 z7
  obtain ⟨rfl, N7q, hh7⟩ := hQ7
  have N7 := Fr.app N6 N7q
  obtain ⟨T8, h8, k8, X8, e8, E8, A8, st8⟩ := newP X7 hx hZ (hw _ (List.mem_of_getElem? (i := 48) rfl)) hh7 (g := (mkF m 25 #[.val (.ref a1), .unset, .unset] [(.int ((kp.toInt64).toInt32))])) rfl (hb hby d7_25) rfl (by rw [hk1]; exact hk2) (cap := 8) (by rw [hk1]; exact hk3) (by decide) (by decide) (by decide)
  obtain ⟨b8, g8⟩ : ∃ z, z = h0.size := ⟨_, rfl⟩
  rw [← g8] at A8 st8
  have V8 := Arv.new A8 (by rw [hk1]; exact hk2)
  rw [hk1] at V8
  have g_b8 : n0 ≤ b8 := Nat.le_trans Z0 (Nat.le_of_eq g8.symm)
  have sz_b8 : h0.size ≤ b8 := Nat.le_of_eq g8.symm
  have ne_b8 : a1 ≠ b8 := Nat.ne_of_lt (Nat.lt_of_lt_of_le B0.1.lt sz_b8)
  have ne_ar : b8 ≠ a1 := Ne.symm ne_b8
  have K8 : Keep h0 h8 [a1] := (Keep.refl h0 [a1]).ext E8
  have B8 := own_w_ext E8 B0
  obtain ⟨T10, X10, e10, st10⟩ := getF X8 hx hZ hown (host := "") (Or.inl (hw _ (List.mem_of_getElem? (i := 37) rfl))) Via.refl e8 B8.2.2.1 (g := (mkF m 32 #[.val (.ref a1), .val (.ref b8), .val (.int (0 : Int32))] [(.ref a1), (.int (0 : Int32))])) rfl rfl (hb hby d7_32)
  obtain ⟨T11, h11, X11, e11, W11, st11⟩ := putF X10 hx hZ hown (host := "") (Or.inl (hw _ (List.mem_of_getElem? (i := 11) rfl))) Via.refl e10 B8.2.2.2.2.2.2 B8.1 (Or.inl (hw _ (List.mem_of_getElem? (i := 12) rfl))) (hw _ (List.mem_of_getElem? (i := 1) rfl)) (ty := (.array .long)) (by decide) rfl rfl (g := (mkF m 66 #[.val (.ref a1), .val (.ref b8), .val (.int (0 : Int32))] [(.ref b8), (.ref a1)])) rfl rfl (hb hby d7_66)
  have B11 := own_w_instants hw W11 B8
  have V11 := V8.other W11 ne_ar
  have K11 : Keep h0 h11 [a1] := K8.wr W11 (Or.inl (List.mem_of_getElem? (i := 0) rfl))
  have N11 := Fr.snoc X11 N7 g_a1
  obtain ⟨T12, h12, X12, e12, W12, st12⟩ := putF X11 hx hZ hown (host := "") (Or.inl (hw _ (List.mem_of_getElem? (i := 49) rfl))) Via.refl e11 B11.2.2.2.1 B11.1 (Or.inl (hw _ (List.mem_of_getElem? (i := 50) rfl))) (hw _ (List.mem_of_getElem? (i := 1) rfl)) (ty := .int) (by decide) rfl rfl (g := (mkF m 71 #[.val (.ref a1), .val (.ref b8), .val (.int (0 : Int32))] [(.int (0 : Int32)), (.ref a1)])) rfl rfl (hb hby d7_71)
  have B12 := own_w_oldest hw W12 B11
  have V12 := V11.other W12 ne_ar
  have K12 : Keep h0 h12 [a1] := K11.wr W12 (Or.inl (List.mem_of_getElem? (i := 0) rfl))
  have N12 := Fr.snoc X12 N11 g_a1
  obtain ⟨fs, hr, hrun, hended, hW, hsame⟩ := X12.leave (v := none) (fun _ => rfl)
  refine ⟨_, _, pre0 _ ?_, hrun, hended, _, _, rfl, ?_, ⟨_, rfl⟩, hW, hsame.mono (by decide) (by decide)⟩
  · show Steps p.tables e below (s₁.setTop (mkF m 0 #[.val (.ref a1), .unset, .unset] [])) _
    refine XS.aloadN X0.here hx rfl (hb hby d7_0) rfl rfl ?_
    show Steps p.tables e below (s₁.setTop (mkF m 1 #[.val (.ref a1), .unset, .unset] [(.ref a1)])) _
    refine st3 _ ?_
    show Steps p.tables e below (T3.setTop (mkF m 4 #[.val (.ref a1), .unset, .unset] [(.int kp)])) _
    refine XS.i2l X3.here hx rfl (hb hby d7_4) rfl ?_
    show Steps p.tables e below (T3.setTop (mkF m 5 #[.val (.ref a1), .unset, .unset] [(.long (kp.toInt64))])) _
    refine X3.ldc2Long hx hown (mvT hZ (hw _ (List.mem_of_getElem? (i := 43) rfl))) (g := (mkF m 5 #[.val (.ref a1), .unset, .unset] [(.long (kp.toInt64))])) rfl (hb hby d7_5) _ ?_
    show Steps p.tables e below (T3.setTop (mkF m 8 #[.val (.ref a1), .unset, .unset] [(.long (16 : Int64)), (.long (kp.toInt64))])) _
    refine X3.ldc2Long hx hown (mvT hZ (hw _ (List.mem_of_getElem? (i := 44) rfl))) (g := (mkF m 8 #[.val (.ref a1), .unset, .unset] [(.long (16 : Int64)), (.long (kp.toInt64))])) rfl (hb hby d7_8) _ ?_
    show Steps p.tables e below (T3.setTop (mkF m 11 #[.val (.ref a1), .unset, .unset] [(.long (2 : Int64)), (.long (16 : Int64)), (.long (kp.toInt64))])) _
    refine XS.aloadN X3.here hx rfl (hb hby d7_11) rfl rfl ?_
    show Steps p.tables e below (T3.setTop (mkF m 12 #[.val (.ref a1), .unset, .unset] [(.ref a1), (.long (2 : Int64)), (.long (16 : Int64)), (.long (kp.toInt64))])) _
    refine st5 _ ?_
    show Steps p.tables e below (T5.setTop (mkF m 15 #[.val (.ref a1), .unset, .unset] [(.ref st), (.long (2 : Int64)), (.long (16 : Int64)), (.long (kp.toInt64))])) _
    refine X5.arraylength hx (by rw [e5]; exact Ar_st.1) (State.isArrayOf_alike hZ.alike Ar_st.2.1) (g := (mkF m 15 #[.val (.ref a1), .unset, .unset] [(.ref st), (.long (2 : Int64)), (.long (16 : Int64)), (.long (kp.toInt64))])) rfl rfl (hb hby d7_15) _ ?_
    rw [len_of S_st N_st]
    show Steps p.tables e below (T5.setTop (mkF m 16 #[.val (.ref a1), .unset, .unset] [(.int (0 : Int32)), (.long (2 : Int64)), (.long (16 : Int64)), (.long (kp.toInt64))])) _
    refine XS.i2l X5.here hx rfl (hb hby d7_16) rfl ?_
    show Steps p.tables e below (T5.setTop (mkF m 17 #[.val (.ref a1), .unset, .unset] [(.long ((0 : Int32).toInt64)), (.long (2 : Int64)), (.long (16 : Int64)), (.long (kp.toInt64))])) _
    refine XS.lmul X5.here hx rfl (hb hby d7_17) rfl ?_
    show Steps p.tables e below (T5.setTop (mkF m 18 #[.val (.ref a1), .unset, .unset] [(.long ((2 : Int64) * ((0 : Int32).toInt64))), (.long (16 : Int64)), (.long (kp.toInt64))])) _
    refine st6 _ ?_
    show Steps p.tables e below (T6.setTop (mkF m 21 #[.val (.ref a1), .unset, .unset] [(.long (16 : Int64)), (.long (kp.toInt64))])) _
    refine st7 _ ?_
    show Steps p.tables e below (T7.setTop (mkF m 24 #[.val (.ref a1), .unset, .unset] [(.long (kp.toInt64))])) _
    refine XS.l2i X7.here hx rfl (hb hby d7_24) rfl ?_
    show Steps p.tables e below (T7.setTop (mkF m 25 #[.val (.ref a1), .unset, .unset] [(.int ((kp.toInt64).toInt32))])) _
    refine st8 _ ?_
    show Steps p.tables e below (T8.setTop (mkF m 27 #[.val (.ref a1), .unset, .unset] [(.ref b8)])) _
    refine XS.astoreN X8.here hx rfl (hb hby d7_27) rfl rfl (l' := #[.val (.ref a1), .val (.ref b8), .unset]) rfl ?_
    show Steps p.tables e below (T8.setTop (mkF m 28 #[.val (.ref a1), .val (.ref b8), .unset] [])) _
    refine XS.iconst X8.here hx rfl (hb hby d7_28) ?_
    show Steps p.tables e below (T8.setTop (mkF m 29 #[.val (.ref a1), .val (.ref b8), .unset] [(.int (0 : Int32))])) _
    refine XS.istoreN X8.here hx rfl (hb hby d7_29) rfl (l' := #[.val (.ref a1), .val (.ref b8), .val (.int (0 : Int32))]) rfl ?_
    show Steps p.tables e below (T8.setTop (mkF m 30 #[.val (.ref a1), .val (.ref b8), .val (.int (0 : Int32))] [])) _
    refine XS.iloadN X8.here hx rfl (hb hby d7_30) rfl ?_
    show Steps p.tables e below (T8.setTop (mkF m 31 #[.val (.ref a1), .val (.ref b8), .val (.int (0 : Int32))] [(.int (0 : Int32))])) _
    refine XS.aloadN X8.here hx rfl (hb hby d7_31) rfl rfl ?_
    show Steps p.tables e below (T8.setTop (mkF m 32 #[.val (.ref a1), .val (.ref b8), .val (.int (0 : Int32))] [(.ref a1), (.int (0 : Int32))])) _
    refine st10 _ ?_
    show Steps p.tables e below (T10.setTop (mkF m 35 #[.val (.ref a1), .val (.ref b8), .val (.int (0 : Int32))] [(.int (0 : Int32)), (.int (0 : Int32))])) _
    refine XS.icmpYes X10.here hx rfl (pc0 := 35) (pc' := 64) rfl (hb hby d7_35) rfl (flt hc35).2.1 (by decide) (by decide) ?_
    show Steps p.tables e below (T10.setTop (mkF m 64 #[.val (.ref a1), .val (.ref b8), .val (.int (0 : Int32))] [])) _
    refine XS.aloadN X10.here hx rfl (hb hby d7_64) rfl rfl ?_
    show Steps p.tables e below (T10.setTop (mkF m 65 #[.val (.ref a1), .val (.ref b8), .val (.int (0 : Int32))] [(.ref a1)])) _
    refine XS.aloadN X10.here hx rfl (hb hby d7_65) rfl rfl ?_
    show Steps p.tables e below (T10.setTop (mkF m 66 #[.val (.ref a1), .val (.ref b8), .val (.int (0 : Int32))] [(.ref b8), (.ref a1)])) _
    refine st11 _ ?_
    show Steps p.tables e below (T11.setTop (mkF m 69 #[.val (.ref a1), .val (.ref b8), .val (.int (0 : Int32))] [])) _
    refine XS.aloadN X11.here hx rfl (hb hby d7_69) rfl rfl ?_
    show Steps p.tables e below (T11.setTop (mkF m 70 #[.val (.ref a1), .val (.ref b8), .val (.int (0 : Int32))] [(.ref a1)])) _
    refine XS.iconst X11.here hx rfl (hb hby d7_70) ?_
    show Steps p.tables e below (T11.setTop (mkF m 71 #[.val (.ref a1), .val (.ref b8), .val (.int (0 : Int32))] [(.int (0 : Int32)), (.ref a1)])) _
    refine st12 _ ?_
    show Steps p.tables e below (T12.setTop (mkF m 74 #[.val (.ref a1), .val (.ref b8), .val (.int (0 : Int32))] [])) _
    exact X12.returnOut hx Bd.returns (hb hby d7_74) hr
  · show QV _ _ n0 _ T12.heap _
    rw [e12]
    exact ⟨rfl, N12, K12, b8, k8, sz_b8, ne_b8, B12, V12⟩
theorem d6_0 : decode prog_3_method_7_code 0 = .ok (.aload_n 0, 1) := by decide +kernel
theorem d6_1 : decode prog_3_method_7_code 1 = .ok (.getfield 37, 3) := by decide +kernel
theorem d6_4 : decode prog_3_method_7_code 4 = .ok (.iconst 1, 1) := by decide +kernel
theorem d6_5 : decode prog_3_method_7_code 5 = .ok (.if_icmp .ge 13, 3) := by decide +kernel
theorem d6_18 : decode prog_3_method_7_code 18 = .ok (.aload_n 0, 1) := by decide +kernel
theorem d6_19 : decode prog_3_method_7_code 19 = .ok (.getfield 24, 3) := by decide +kernel
theorem d6_22 : decode prog_3_method_7_code 22 = .ok (.ifCond .le 32, 3) := by decide +kernel
theorem d6_25 : decode prog_3_method_7_code 25 = .ok (.lload_n 1, 1) := by decide +kernel
theorem d6_26 : decode prog_3_method_7_code 26 = .ok (.aload_n 0, 1) := by decide +kernel
theorem d6_27 : decode prog_3_method_7_code 27 = .ok (.iconst 1, 1) := by decide +kernel
theorem d6_28 : decode prog_3_method_7_code 28 = .ok (.invokevirtual 52, 3) := by decide +kernel
theorem d6_31 : decode prog_3_method_7_code 31 = .ok (.lcmp, 1) := by decide +kernel
theorem d6_32 : decode prog_3_method_7_code 32 = .ok (.ifCond .ge 22, 3) := by decide +kernel
theorem d6_54 : decode prog_3_method_7_code 54 = .ok (.aload_n 0, 1) := by decide +kernel
theorem d6_55 : decode prog_3_method_7_code 55 = .ok (.getfield 24, 3) := by decide +kernel
theorem d6_58 : decode prog_3_method_7_code 58 = .ok (.aload_n 0, 1) := by decide +kernel
theorem d6_59 : decode prog_3_method_7_code 59 = .ok (.getfield 37, 3) := by decide +kernel
theorem d6_62 : decode prog_3_method_7_code 62 = .ok (.if_icmp .lt 42, 3) := by decide +kernel
theorem d6_104 : decode prog_3_method_7_code 104 = .ok (.aload_n 0, 1) := by decide +kernel
theorem d6_105 : decode prog_3_method_7_code 105 = .ok (.getfield 24, 3) := by decide +kernel
theorem d6_108 : decode prog_3_method_7_code 108 = .ok (.aload_n 0, 1) := by decide +kernel
theorem d6_109 : decode prog_3_method_7_code 109 = .ok (.getfield 13, 3) := by decide +kernel
theorem d6_112 : decode prog_3_method_7_code 112 = .ok (.arraylength, 1) := by decide +kernel
theorem d6_113 : decode prog_3_method_7_code 113 = .ok (.if_icmp .ne 7, 3) := by decide +kernel
theorem d6_120 : decode prog_3_method_7_code 120 = .ok (.aload_n 0, 1) := by decide +kernel
theorem d6_121 : decode prog_3_method_7_code 121 = .ok (.getfield 13, 3) := by decide +kernel
theorem d6_124 : decode prog_3_method_7_code 124 = .ok (.aload_n 0, 1) := by decide +kernel
theorem d6_125 : decode prog_3_method_7_code 125 = .ok (.getfield 69, 3) := by decide +kernel
theorem d6_128 : decode prog_3_method_7_code 128 = .ok (.aload_n 0, 1) := by decide +kernel
theorem d6_129 : decode prog_3_method_7_code 129 = .ok (.getfield 24, 3) := by decide +kernel
theorem d6_132 : decode prog_3_method_7_code 132 = .ok (.iadd, 1) := by decide +kernel
theorem d6_133 : decode prog_3_method_7_code 133 = .ok (.aload_n 0, 1) := by decide +kernel
theorem d6_134 : decode prog_3_method_7_code 134 = .ok (.getfield 13, 3) := by decide +kernel
theorem d6_137 : decode prog_3_method_7_code 137 = .ok (.arraylength, 1) := by decide +kernel
theorem d6_138 : decode prog_3_method_7_code 138 = .ok (.irem, 1) := by decide +kernel
theorem d6_139 : decode prog_3_method_7_code 139 = .ok (.lload_n 1, 1) := by decide +kernel
theorem d6_140 : decode prog_3_method_7_code 140 = .ok (.lastore, 1) := by decide +kernel
theorem d6_141 : decode prog_3_method_7_code 141 = .ok (.aload_n 0, 1) := by decide +kernel
theorem d6_142 : decode prog_3_method_7_code 142 = .ok (.dup, 1) := by decide +kernel
theorem d6_143 : decode prog_3_method_7_code 143 = .ok (.getfield 24, 3) := by decide +kernel
theorem d6_146 : decode prog_3_method_7_code 146 = .ok (.iconst 1, 1) := by decide +kernel
theorem d6_147 : decode prog_3_method_7_code 147 = .ok (.iadd, 1) := by decide +kernel
theorem d6_148 : decode prog_3_method_7_code 148 = .ok (.putfield 24, 3) := by decide +kernel
theorem d6_151 : decode prog_3_method_7_code 151 = .ok (.return_, 1) := by decide +kernel
theorem pn_6 : plainName "com/example/throttl/throttl/Grants" = true := by first | (simp [plainName, overriddenIn]; done) | decide +kernel
theorem pd_6_5_more : parseMethodDescriptor "(I)J" = some ⟨[.int], some .long⟩ := by decide +kernel
theorem ef_6 (m : MethodId) (x0 : Addr) (x1 : Int64) : entryFrame m #[(.ref x0), (.long x1)] 3 = mkF m 0 #[.val (.ref x0), .val (.long x1), .second] [] := by first | (simp [entryFrame, mkF, argsToLocals, Value.category]; done) | rfl
set_option maxRecDepth 65536 in
set_option maxHeartbeats 40000000 in
theorem rm6_more (l : Launch) (Z : State) (a0 : Array Value) (hw : ∀ d ∈ tables_1, d.before a0 Z = true) (ws : List Jvm.Cond) (a1 : Addr) (q2 : Int64) (kp : Int32) (sz : Int32) (od : Int32) (fg : Int64) (km : Int64) (ar : Addr) (kA : ClassId) (z : Int32) (vs : List Value) (ix : Nat) (h0 : Heap) (n0 : Nat) (Z0 : n0 ≤ h0.size) (B0 : GB Z h0 a1 kp sz od fg km (.ref ar)) (V0 : Arv Z h0 ar kA .long z vs (.long 0)) (g_a1 : n0 ≤ a1) (g_ar : n0 ≤ ar) (ne_ar : ar ≠ a1) (hi9 : ¬ ((((od + sz) - (1 : Int32)) % z) < 0) ∧ (((od + sz) - (1 : Int32)) % z) < z) (hu9 : vs.getD ((((od + sz) - (1 : Int32)) % z)).toNatClampNeg (.long 0) = .long q2) (hh10 : ¬ ((0 : Int32) < (lcmpW ((1 : Int32).toInt64) ((sz.toInt64) + fg)))) (hm9 : ¬ (sz < (1 : Int32))) (hc2 : ¬ ((1 : Int32) < (1 : Int32))) (nz9 : z ≠ 0) (hi : ¬ (((od + sz) % z) < 0) ∧ ((od + sz) % z) < z) (hix : (((od + sz) % z)).toNatClampNeg = ix) (hlen : ix < vs.length) (P : Heap → Prop) (hP : ∀ h : Heap, h0.size ≤ h.size → GB Z h a1 kp (sz + (1 : Int32)) od fg km (.ref ar) → Arv Z h ar kA .long z (vs.set ix (.long q2)) (.long 0) → P h) (hc5 : ¬ (kp < (1 : Int32))) (hc22 : (0 : Int32) < sz) (hc62 : sz < kp) (hc113 : ¬ (sz = z)) (nz138 : z ≠ 0) :
    MetFree l (⟨"com/example/throttl/throttl/Grants", "add", "(J)V"⟩ : MethodName) (head1 (Jvm.Cond.code (⟨"com/example/throttl/throttl/Grants", "add", "(J)V"⟩ : MethodName) prog_3_method_7_code 3 none :: ws) ({ frames := 2, cells := 1, slots := 8, locals := 60 } : Room)) (fun a U => a = #[(.ref a1), (.long q2)] ∧ Z.Warmed39 U.vm ∧ U.heap = h0) (fun _ _ _ _ _ => True) (fun _ U o U' => ∃ v L, o = .returned v ∧ QV none (fun h => P h) n0 v U'.heap L ∧ FrameEnd U o U' L ({ frames := 2, cells := 1, slots := 8, locals := 60 } : Room).cells ({ frames := 2, cells := 1, slots := 8, locals := 60 } : Room).slots) := by
  refine MetFree.of_bodySF (plainFor_of_name pn_6) hisR ?_
  intro p e s m args below meth c s₁ Bd hml0 hP hK
  obtain ⟨rfl, hZ, hh⟩ := hP
  have hx := Bd.exec
  have hby := Bd.bytes
  have hml : c.maxLocals = 3 := hml0
  have hown : s.vm.findClass "com/example/throttl/throttl/Grants" = some m.cls := findClass_of_methodNamed Bd.named
  have hnm := (name_of_methodNamed Bd.named Bd.method).1
  have X0 : Stand p l e ({ frames := 2, cells := 1, slots := 8, locals := 60 } : Room) s m #[(.ref a1), (.long q2)] below meth c s₁ [] 0 0 := Stand.of_body Bd
  have e0 : s₁.heap = h0 := by rw [← hh, Bd.state]; rfl
  have N0 := Fr.nil n0
  have V0_ := V0
  obtain ⟨cl_ar, Ar_ar, qc, S_ar, N_ar, HA, GA⟩ := V0_
  have pre0 : ∀ t, Steps p.tables e below (s₁.setTop (mkF m 0 #[.val (.ref a1), .val (.long q2), .second] [])) t → Steps p.tables e below (s₁.setTop (entryFrame m #[(.ref a1), (.long q2)] 3)) t := fun t k => castTop (ef_6 m a1 q2) k
  obtain ⟨T4, X4, e4, st4⟩ := getF X0 hx hZ hown (host := "") (Or.inl (hw _ (List.mem_of_getElem? (i := 21) rfl))) Via.refl e0 B0.2.1 (g := (mkF m 1 #[.val (.ref a1), .val (.long q2), .second] [(.ref a1)])) rfl rfl (hb hby d6_1)
  obtain ⟨T6, X6, e6, st6⟩ := getF X4 hx hZ hown (host := "") (Or.inl (hw _ (List.mem_of_getElem? (i := 37) rfl))) Via.refl e4 B0.2.2.1 (g := (mkF m 19 #[.val (.ref a1), .val (.long q2), .second] [(.ref a1)])) rfl rfl (hb hby d6_19)
  obtain ⟨cq7, kq7, q7a, q7b, q7c⟩ := isOf hZ e6 B0.1
  obtain ⟨_, _, ⟨T7, L7, k7, n7⟩, -, X7, ⟨Lc7, hQ7, l7, y7, z7⟩, st7⟩ := X6.virtualBack hx (y := (⟨"com/example/throttl/throttl/Grants", "nthMostRecent", "(I)J"⟩ : MethodName)) (z := (⟨"com/example/throttl/throttl/Grants", "nthMostRecent", "(I)J"⟩ : MethodName)) hown (mvT hZ (hw _ (List.mem_of_getElem? (i := 51) rfl))) (mvT hZ (hw _ (List.mem_of_getElem? (i := 52) rfl))) (notFace_of_selects (args := #[]) (mvT hZ (hw _ (List.mem_of_getElem? (i := 54) rfl)))) (mvT hZ (hw _ (List.mem_of_getElem? (i := 54) rfl))) (mvT hZ (hw _ (List.mem_of_getElem? (i := 53) rfl))) (by decide) (backOf (W := 2) (rm9 l Z a0 hw [] a1 (1 : Int32) kp sz od fg km ar kA z vs q2 h0 n0 Z0 B0 V0 hi9 hu9 hh10 hm9 hc2 nz9) hZ (hw _ (List.mem_of_getElem? (i := 55) rfl)) (hw _ (List.mem_of_getElem? (i := 2) rfl)) (by decide) (by decide)) q7a q7c (g := (mkF m 28 #[.val (.ref a1), .val (.long q2), .second] [(.int (1 : Int32)), (.ref a1), (.long q2)])) rfl (by rw [hml]; rfl) (Steps.refl _) (argsL := [(.int (1 : Int32))]) (rest := [(.long q2)]) (lenOf pd_6_5_more rfl) rfl (by show 2 * 0 + _ ≤ _; exact Nat.le_of_eq rfl) (hb hby d6_28) (fun _ _ => ⟨rfl, e6, (by decide : 0 + 0 ≤ _), (by decide : 0 + 0 ≤ _)⟩)
  dsimp only [Pt.U, Pt.locs, Pt.cells, Pt.slots] at X7 l7 y7 z7 st7 hQ7
  subst l7 y7 z7
  obtain ⟨rfl, N7q, hh7⟩ := hQ7
  have N7 := Fr.app N0 N7q
  obtain ⟨T9, X9, e9, st9⟩ := getF X7 hx hZ hown (host := "") (Or.inl (hw _ (List.mem_of_getElem? (i := 37) rfl))) Via.refl hh7 B0.2.2.1 (g := (mkF m 55 #[.val (.ref a1), .val (.long q2), .second] [(.ref a1)])) rfl rfl (hb hby d6_55)
  obtain ⟨T11, X11, e11, st11⟩ := getF X9 hx hZ hown (host := "") (Or.inl (hw _ (List.mem_of_getElem? (i := 21) rfl))) Via.refl e9 B0.2.1 (g := (mkF m 59 #[.val (.ref a1), .val (.long q2), .second] [(.ref a1), (.int sz)])) rfl rfl (hb hby d6_59)
  obtain ⟨T12, X12, e12, st12⟩ := getF X11 hx hZ hown (host := "") (Or.inl (hw _ (List.mem_of_getElem? (i := 37) rfl))) Via.refl e11 B0.2.2.1 (g := (mkF m 105 #[.val (.ref a1), .val (.long q2), .second] [(.ref a1)])) rfl rfl (hb hby d6_105)
  obtain ⟨T14, X14, e14, st14⟩ := getF X12 hx hZ hown (host := "") (Or.inl (hw _ (List.mem_of_getElem? (i := 11) rfl))) Via.refl e12 B0.2.2.2.2.2.2 (g := (mkF m 109 #[.val (.ref a1), .val (.long q2), .second] [(.ref a1), (.int sz)])) rfl rfl (hb hby d6_109)
  obtain ⟨T15, X15, e15, st15⟩ := getF X14 hx hZ hown (host := "") (Or.inl (hw _ (List.mem_of_getElem? (i := 11) rfl))) Via.refl e14 B0.2.2.2.2.2.2 (g := (mkF m 121 #[.val (.ref a1), .val (.long q2), .second] [(.ref a1)])) rfl rfl (hb hby d6_121)
  obtain ⟨T17, X17, e17, st17⟩ := getF X15 hx hZ hown (host := "") (Or.inl (hw _ (List.mem_of_getElem? (i := 49) rfl))) Via.refl e15 B0.2.2.2.1 (g := (mkF m 125 #[.val (.ref a1), .val (.long q2), .second] [(.ref a1), (.ref ar)])) rfl rfl (hb hby d6_125)
  obtain ⟨T18, X18, e18, st18⟩ := getF X17 hx hZ hown (host := "") (Or.inl (hw _ (List.mem_of_getElem? (i := 37) rfl))) Via.refl e17 B0.2.2.1 (g := (mkF m 129 #[.val (.ref a1), .val (.long q2), .second] [(.ref a1), (.int od), (.ref ar)])) rfl rfl (hb hby d6_129)
  obtain ⟨T19, X19, e19, st19⟩ := getF X18 hx hZ hown (host := "") (Or.inl (hw _ (List.mem_of_getElem? (i := 11) rfl))) Via.refl e18 B0.2.2.2.2.2.2 (g := (mkF m 134 #[.val (.ref a1), .val (.long q2), .second] [(.ref a1), (.int (od + sz)), (.ref ar)])) rfl rfl (hb hby d6_134)
  obtain ⟨T20, h20, X20, e20, W20, st20⟩ := stJ X19 hx hZ e19 Ar_ar (j := ((od + sz) % z)) (inb_of S_ar hi) (g := (mkF m 140 #[.val (.ref a1), .val (.long q2), .second] [(.long q2), (.int ((od + sz) % z)), (.ref ar)])) rfl rfl (hb hby d6_140)
  have V20 := Arv.set Ar_ar qc S_ar N_ar HA GA rfl W20 ix hix hlen
  have B20 := own_w_arr W20 (Ne.symm ne_ar) B0
  have N20 := Fr.snoc X20 N7 g_ar
  have K20 : Keep h0 h20 [ar, a1] := (Keep.refl h0 [ar, a1]).wr W20 (Or.inl (List.mem_of_getElem? (i := 0) rfl))
  obtain ⟨T21, X21, e21, st21⟩ := getF X20 hx hZ hown (host := "") (Or.inl (hw _ (List.mem_of_getElem? (i := 37) rfl))) Via.refl e20 B20.2.2.1 (g := (mkF m 143 #[.val (.ref a1), .val (.long q2), .second] [(.ref a1), (.ref a1)])) rfl rfl (hb hby d6_143)
  obtain ⟨T22, h22, X22, e22, W22, st22⟩ := putF X21 hx hZ hown (host := "") (Or.inl (hw _ (List.mem_of_getElem? (i := 37) rfl))) Via.refl e21 B20.2.2.1 B20.1 (Or.inl (hw _ (List.mem_of_getElem? (i := 38) rfl))) (hw _ (List.mem_of_getElem? (i := 1) rfl)) (ty := .int) (by decide) rfl rfl (g := (mkF m 148 #[.val (.ref a1), .val (.long q2), .second] [(.int (sz + (1 : Int32))), (.ref a1)])) rfl rfl (hb hby d6_148)
  have B22 := own_w_size hw W22 B20
  have V22 := V20.other W22 ne_ar
  have K22 : Keep h0 h22 [ar, a1] := K20.wr W22 (Or.inl (List.mem_of_getElem? (i := 1) rfl))
  have N22 := Fr.snoc X22 N20 g_a1
  obtain ⟨fs, hr, hrun, hended, hW, hsame⟩ := X22.leave (v := none) (fun _ => rfl)
  refine ⟨_, _, pre0 _ ?_, hrun, hended, _, _, rfl, ?_, ⟨_, rfl⟩, hW, hsame.mono (by decide) (by decide)⟩
  · show Steps p.tables e below (s₁.setTop (mkF m 0 #[.val (.ref a1), .val (.long q2), .second] [])) _
    refine XS.aloadN X0.here hx rfl (hb hby d6_0) rfl rfl ?_
    show Steps p.tables e below (s₁.setTop (mkF m 1 #[.val (.ref a1), .val (.long q2), .second] [(.ref a1)])) _
    refine st4 _ ?_
    show Steps p.tables e below (T4.setTop (mkF m 4 #[.val (.ref a1), .val (.long q2), .second] [(.int kp)])) _
    refine XS.iconst X4.here hx rfl (hb hby d6_4) ?_
    show Steps p.tables e below (T4.setTop (mkF m 5 #[.val (.ref a1), .val (.long q2), .second] [(.int (1 : Int32)), (.int kp)])) _
    refine XS.icmpYes X4.here hx rfl (pc0 := 5) (pc' := 18) rfl (hb hby d6_5) rfl (flt hc5).2.1 (by decide) (by decide) ?_
    show Steps p.tables e below (T4.setTop (mkF m 18 #[.val (.ref a1), .val (.long q2), .second] [])) _
    refine XS.aloadN X4.here hx rfl (hb hby d6_18) rfl rfl ?_
    show Steps p.tables e below (T4.setTop (mkF m 19 #[.val (.ref a1), .val (.long q2), .second] [(.ref a1)])) _
    refine st6 _ ?_
    show Steps p.tables e below (T6.setTop (mkF m 22 #[.val (.ref a1), .val (.long q2), .second] [(.int sz)])) _
    refine XS.ifNo X6.here hx rfl (hb hby d6_22) rfl ((if0 _ _).trans (tlt hc22).2.2.2) ?_
    show Steps p.tables e below (T6.setTop (mkF m 25 #[.val (.ref a1), .val (.long q2), .second] [])) _
    refine XS.lloadN X6.here hx rfl (hb hby d6_25) rfl ?_
    show Steps p.tables e below (T6.setTop (mkF m 26 #[.val (.ref a1), .val (.long q2), .second] [(.long q2)])) _
    refine XS.aloadN X6.here hx rfl (hb hby d6_26) rfl rfl ?_
    show Steps p.tables e below (T6.setTop (mkF m 27 #[.val (.ref a1), .val (.long q2), .second] [(.ref a1), (.long q2)])) _
    refine XS.iconst X6.here hx rfl (hb hby d6_27) ?_
    show Steps p.tables e below (T6.setTop (mkF m 28 #[.val (.ref a1), .val (.long q2), .second] [(.int (1 : Int32)), (.ref a1), (.long q2)])) _
    refine st7.trans ?_
    show Steps p.tables e below (T7.setTop (mkF m 31 #[.val (.ref a1), .val (.long q2), .second] [(.long q2), (.long q2)])) _
    refine XS.lcmp X7.here hx rfl (hb hby d6_31) rfl ?_
    show Steps p.tables e below (T7.setTop (mkF m 32 #[.val (.ref a1), .val (.long q2), .second] [(.int (lcmpW q2 q2))])) _
    refine XS.ifYes X7.here hx rfl (pc0 := 32) (pc' := 54) rfl (hb hby d6_32) rfl ((if0 _ _).trans (flt (own_lc q2 : ¬ ((lcmpW q2 q2) < (0 : Int32)))).2.1) (by decide) (by decide) ?_
    show Steps p.tables e below (T7.setTop (mkF m 54 #[.val (.ref a1), .val (.long q2), .second] [])) _
    refine XS.aloadN X7.here hx rfl (hb hby d6_54) rfl rfl ?_
    show Steps p.tables e below (T7.setTop (mkF m 55 #[.val (.ref a1), .val (.long q2), .second] [(.ref a1)])) _
    refine st9 _ ?_
    show Steps p.tables e below (T9.setTop (mkF m 58 #[.val (.ref a1), .val (.long q2), .second] [(.int sz)])) _
    refine XS.aloadN X9.here hx rfl (hb hby d6_58) rfl rfl ?_
    show Steps p.tables e below (T9.setTop (mkF m 59 #[.val (.ref a1), .val (.long q2), .second] [(.ref a1), (.int sz)])) _
    refine st11 _ ?_
    show Steps p.tables e below (T11.setTop (mkF m 62 #[.val (.ref a1), .val (.long q2), .second] [(.int kp), (.int sz)])) _
    refine XS.icmpYes X11.here hx rfl (pc0 := 62) (pc' := 104) rfl (hb hby d6_62) rfl (tlt hc62).1 (by decide) (by decide) ?_
    show Steps p.tables e below (T11.setTop (mkF m 104 #[.val (.ref a1), .val (.long q2), .second] [])) _
    refine XS.aloadN X11.here hx rfl (hb hby d6_104) rfl rfl ?_
    show Steps p.tables e below (T11.setTop (mkF m 105 #[.val (.ref a1), .val (.long q2), .second] [(.ref a1)])) _
    refine st12 _ ?_
    show Steps p.tables e below (T12.setTop (mkF m 108 #[.val (.ref a1), .val (.long q2), .second] [(.int sz)])) _
    refine XS.aloadN X12.here hx rfl (hb hby d6_108) rfl rfl ?_
    show Steps p.tables e below (T12.setTop (mkF m 109 #[.val (.ref a1), .val (.long q2), .second] [(.ref a1), (.int sz)])) _
    refine st14 _ ?_
    show Steps p.tables e below (T14.setTop (mkF m 112 #[.val (.ref a1), .val (.long q2), .second] [(.ref ar), (.int sz)])) _
    refine X14.arraylength hx (by rw [e14]; exact Ar_ar.1) (State.isArrayOf_alike hZ.alike Ar_ar.2.1) (g := (mkF m 112 #[.val (.ref a1), .val (.long q2), .second] [(.ref ar), (.int sz)])) rfl rfl (hb hby d6_112) _ ?_
    rw [len_of S_ar N_ar]
    show Steps p.tables e below (T14.setTop (mkF m 113 #[.val (.ref a1), .val (.long q2), .second] [(.int z), (.int sz)])) _
    refine XS.icmpYes X14.here hx rfl (pc0 := 113) (pc' := 120) rfl (hb hby d6_113) rfl (feq hc113).2 (by decide) (by decide) ?_
    show Steps p.tables e below (T14.setTop (mkF m 120 #[.val (.ref a1), .val (.long q2), .second] [])) _
    refine XS.aloadN X14.here hx rfl (hb hby d6_120) rfl rfl ?_
    show Steps p.tables e below (T14.setTop (mkF m 121 #[.val (.ref a1), .val (.long q2), .second] [(.ref a1)])) _
    refine st15 _ ?_
    show Steps p.tables e below (T15.setTop (mkF m 124 #[.val (.ref a1), .val (.long q2), .second] [(.ref ar)])) _
    refine XS.aloadN X15.here hx rfl (hb hby d6_124) rfl rfl ?_
    show Steps p.tables e below (T15.setTop (mkF m 125 #[.val (.ref a1), .val (.long q2), .second] [(.ref a1), (.ref ar)])) _
    refine st17 _ ?_
    show Steps p.tables e below (T17.setTop (mkF m 128 #[.val (.ref a1), .val (.long q2), .second] [(.int od), (.ref ar)])) _
    refine XS.aloadN X17.here hx rfl (hb hby d6_128) rfl rfl ?_
    show Steps p.tables e below (T17.setTop (mkF m 129 #[.val (.ref a1), .val (.long q2), .second] [(.ref a1), (.int od), (.ref ar)])) _
    refine st18 _ ?_
    show Steps p.tables e below (T18.setTop (mkF m 132 #[.val (.ref a1), .val (.long q2), .second] [(.int sz), (.int od), (.ref ar)])) _
    refine XS.iadd X18.here hx rfl (hb hby d6_132) rfl ?_
    show Steps p.tables e below (T18.setTop (mkF m 133 #[.val (.ref a1), .val (.long q2), .second] [(.int (od + sz)), (.ref ar)])) _
    refine XS.aloadN X18.here hx rfl (hb hby d6_133) rfl rfl ?_
    show Steps p.tables e below (T18.setTop (mkF m 134 #[.val (.ref a1), .val (.long q2), .second] [(.ref a1), (.int (od + sz)), (.ref ar)])) _
    refine st19 _ ?_
    show Steps p.tables e below (T19.setTop (mkF m 137 #[.val (.ref a1), .val (.long q2), .second] [(.ref ar), (.int (od + sz)), (.ref ar)])) _
    refine X19.arraylength hx (by rw [e19]; exact Ar_ar.1) (State.isArrayOf_alike hZ.alike Ar_ar.2.1) (g := (mkF m 137 #[.val (.ref a1), .val (.long q2), .second] [(.ref ar), (.int (od + sz)), (.ref ar)])) rfl rfl (hb hby d6_137) _ ?_
    rw [len_of S_ar N_ar]
    show Steps p.tables e below (T19.setTop (mkF m 138 #[.val (.ref a1), .val (.long q2), .second] [(.int z), (.int (od + sz)), (.ref ar)])) _
    refine Jvm.RoadKit.iremM (g := (mkF m 138 #[.val (.ref a1), .val (.long q2), .second] [(.int z), (.int (od + sz)), (.ref ar)])) X19 hx rfl (hb hby d6_138) rfl nz138 ?_
    show Steps p.tables e below (T19.setTop (mkF m 139 #[.val (.ref a1), .val (.long q2), .second] [(.int ((od + sz) % z)), (.ref ar)])) _
    refine XS.lloadN X19.here hx rfl (hb hby d6_139) rfl ?_
    show Steps p.tables e below (T19.setTop (mkF m 140 #[.val (.ref a1), .val (.long q2), .second] [(.long q2), (.int ((od + sz) % z)), (.ref ar)])) _
    refine st20 _ ?_
    show Steps p.tables e below (T20.setTop (mkF m 141 #[.val (.ref a1), .val (.long q2), .second] [])) _
    refine XS.aloadN X20.here hx rfl (hb hby d6_141) rfl rfl ?_
    show Steps p.tables e below (T20.setTop (mkF m 142 #[.val (.ref a1), .val (.long q2), .second] [(.ref a1)])) _
    refine XS.dup X20.here hx rfl (hb hby d6_142) rfl rfl ?_
    show Steps p.tables e below (T20.setTop (mkF m 143 #[.val (.ref a1), .val (.long q2), .second] [(.ref a1), (.ref a1)])) _
    refine st21 _ ?_
    show Steps p.tables e below (T21.setTop (mkF m 146 #[.val (.ref a1), .val (.long q2), .second] [(.int sz), (.ref a1)])) _
    refine XS.iconst X21.here hx rfl (hb hby d6_146) ?_
    show Steps p.tables e below (T21.setTop (mkF m 147 #[.val (.ref a1), .val (.long q2), .second] [(.int (1 : Int32)), (.int sz), (.ref a1)])) _
    refine XS.iadd X21.here hx rfl (hb hby d6_147) rfl ?_
    show Steps p.tables e below (T21.setTop (mkF m 148 #[.val (.ref a1), .val (.long q2), .second] [(.int (sz + (1 : Int32))), (.ref a1)])) _
    refine st22 _ ?_
    show Steps p.tables e below (T22.setTop (mkF m 151 #[.val (.ref a1), .val (.long q2), .second] [])) _
    exact X22.returnOut hx Bd.returns (hb hby d6_151) hr
  · show QV _ _ n0 _ T22.heap _
    rw [e22]
    exact ⟨rfl, N22, hP _ K22.1 B22 V22⟩
theorem d6_65 : decode prog_3_method_7_code 65 = .ok (.aload_n 0, 1) := by decide +kernel
theorem d6_66 : decode prog_3_method_7_code 66 = .ok (.aload_n 0, 1) := by decide +kernel
theorem d6_67 : decode prog_3_method_7_code 67 = .ok (.getfield 69, 3) := by decide +kernel
theorem d6_70 : decode prog_3_method_7_code 70 = .ok (.iconst 1, 1) := by decide +kernel
theorem d6_71 : decode prog_3_method_7_code 71 = .ok (.iadd, 1) := by decide +kernel
theorem d6_72 : decode prog_3_method_7_code 72 = .ok (.aload_n 0, 1) := by decide +kernel
theorem d6_73 : decode prog_3_method_7_code 73 = .ok (.getfield 13, 3) := by decide +kernel
theorem d6_76 : decode prog_3_method_7_code 76 = .ok (.arraylength, 1) := by decide +kernel
theorem d6_77 : decode prog_3_method_7_code 77 = .ok (.irem, 1) := by decide +kernel
theorem d6_78 : decode prog_3_method_7_code 78 = .ok (.putfield 69, 3) := by decide +kernel
theorem d6_81 : decode prog_3_method_7_code 81 = .ok (.aload_n 0, 1) := by decide +kernel
theorem d6_82 : decode prog_3_method_7_code 82 = .ok (.dup, 1) := by decide +kernel
theorem d6_83 : decode prog_3_method_7_code 83 = .ok (.getfield 24, 3) := by decide +kernel
theorem d6_86 : decode prog_3_method_7_code 86 = .ok (.iconst 1, 1) := by decide +kernel
theorem d6_87 : decode prog_3_method_7_code 87 = .ok (.isub, 1) := by decide +kernel
theorem d6_88 : decode prog_3_method_7_code 88 = .ok (.putfield 24, 3) := by decide +kernel
theorem d6_91 : decode prog_3_method_7_code 91 = .ok (.aload_n 0, 1) := by decide +kernel
theorem d6_92 : decode prog_3_method_7_code 92 = .ok (.dup, 1) := by decide +kernel
theorem d6_93 : decode prog_3_method_7_code 93 = .ok (.getfield 56, 3) := by decide +kernel
theorem d6_96 : decode prog_3_method_7_code 96 = .ok (.lconst 1, 1) := by decide +kernel
theorem d6_97 : decode prog_3_method_7_code 97 = .ok (.ladd, 1) := by decide +kernel
theorem d6_98 : decode prog_3_method_7_code 98 = .ok (.putfield 56, 3) := by decide +kernel
theorem d6_101 : decode prog_3_method_7_code 101 = .ok (.goto (-47), 3) := by decide +kernel
set_option maxRecDepth 65536 in
set_option maxHeartbeats 40000000 in
theorem rm6_full (l : Launch) (Z : State) (a0 : Array Value) (hw : ∀ d ∈ tables_1, d.before a0 Z = true) (ws : List Jvm.Cond) (a1 : Addr) (q2 : Int64) (kp : Int32) (sz : Int32) (od : Int32) (fg : Int64) (km : Int64) (ar : Addr) (kA : ClassId) (z : Int32) (vs : List Value) (ix : Nat) (h0 : Heap) (n0 : Nat) (Z0 : n0 ≤ h0.size) (B0 : GB Z h0 a1 kp sz od fg km (.ref ar)) (V0 : Arv Z h0 ar kA .long z vs (.long 0)) (g_a1 : n0 ≤ a1) (g_ar : n0 ≤ ar) (ne_ar : ar ≠ a1) (hi9 : ¬ ((((od + sz) - (1 : Int32)) % z) < 0) ∧ (((od + sz) - (1 : Int32)) % z) < z) (hu9 : vs.getD ((((od + sz) - (1 : Int32)) % z)).toNatClampNeg (.long 0) = .long q2) (hh10 : ¬ ((0 : Int32) < (lcmpW ((1 : Int32).toInt64) ((sz.toInt64) + fg)))) (hm9 : ¬ (sz < (1 : Int32))) (hc2 : ¬ ((1 : Int32) < (1 : Int32))) (nz9 : z ≠ 0) (hi : ¬ (((((od + (1 : Int32)) % z) + (sz - (1 : Int32))) % z) < 0) ∧ ((((od + (1 : Int32)) % z) + (sz - (1 : Int32))) % z) < z) (hix : (((((od + (1 : Int32)) % z) + (sz - (1 : Int32))) % z)).toNatClampNeg = ix) (hlen : ix < vs.length) (P : Heap → Prop) (hP : ∀ h : Heap, h0.size ≤ h.size → GB Z h a1 kp ((sz - (1 : Int32)) + (1 : Int32)) ((od + (1 : Int32)) % z) (fg + (1 : Int64)) km (.ref ar) → Arv Z h ar kA .long z (vs.set ix (.long q2)) (.long 0) → P h) (hc5 : ¬ (kp < (1 : Int32))) (hc22 : (0 : Int32) < sz) (hc62 : ¬ (sz < kp)) (nz77 : z ≠ 0) (hc62' : (sz - (1 : Int32)) < kp) (hc113 : ¬ ((sz - (1 : Int32)) = z)) (nz138 : z ≠ 0) :
    MetFree l (⟨"com/example/throttl/throttl/Grants", "add", "(J)V"⟩ : MethodName) (head1 (Jvm.Cond.code (⟨"com/example/throttl/throttl/Grants", "add", "(J)V"⟩ : MethodName) prog_3_method_7_code 3 none :: ws) ({ frames := 2, cells := 1, slots := 8, locals := 60 } : Room)) (fun a U => a = #[(.ref a1), (.long q2)] ∧ Z.Warmed39 U.vm ∧ U.heap = h0) (fun _ _ _ _ _ => True) (fun _ U o U' => ∃ v L, o = .returned v ∧ QV none (fun h => P h) n0 v U'.heap L ∧ FrameEnd U o U' L ({ frames := 2, cells := 1, slots := 8, locals := 60 } : Room).cells ({ frames := 2, cells := 1, slots := 8, locals := 60 } : Room).slots) := by
  refine MetFree.of_bodySF (plainFor_of_name pn_6) hisR ?_
  intro p e s m args below meth c s₁ Bd hml0 hP hK
  obtain ⟨rfl, hZ, hh⟩ := hP
  have hx := Bd.exec
  have hby := Bd.bytes
  have hml : c.maxLocals = 3 := hml0
  have hown : s.vm.findClass "com/example/throttl/throttl/Grants" = some m.cls := findClass_of_methodNamed Bd.named
  have hnm := (name_of_methodNamed Bd.named Bd.method).1
  have X0 : Stand p l e ({ frames := 2, cells := 1, slots := 8, locals := 60 } : Room) s m #[(.ref a1), (.long q2)] below meth c s₁ [] 0 0 := Stand.of_body Bd
  have e0 : s₁.heap = h0 := by rw [← hh, Bd.state]; rfl
  have N0 := Fr.nil n0
  have V0_ := V0
  obtain ⟨cl_ar, Ar_ar, qc, S_ar, N_ar, HA, GA⟩ := V0_
  have pre0 : ∀ t, Steps p.tables e below (s₁.setTop (mkF m 0 #[.val (.ref a1), .val (.long q2), .second] [])) t → Steps p.tables e below (s₁.setTop (entryFrame m #[(.ref a1), (.long q2)] 3)) t := fun t k => castTop (ef_6 m a1 q2) k
  obtain ⟨T4, X4, e4, st4⟩ := getF X0 hx hZ hown (host := "") (Or.inl (hw _ (List.mem_of_getElem? (i := 21) rfl))) Via.refl e0 B0.2.1 (g := (mkF m 1 #[.val (.ref a1), .val (.long q2), .second] [(.ref a1)])) rfl rfl (hb hby d6_1)
  obtain ⟨T6, X6, e6, st6⟩ := getF X4 hx hZ hown (host := "") (Or.inl (hw _ (List.mem_of_getElem? (i := 37) rfl))) Via.refl e4 B0.2.2.1 (g := (mkF m 19 #[.val (.ref a1), .val (.long q2), .second] [(.ref a1)])) rfl rfl (hb hby d6_19)
  obtain ⟨cq7, kq7, q7a, q7b, q7c⟩ := isOf hZ e6 B0.1
  obtain ⟨_, _, ⟨T7, L7, k7, n7⟩, -, X7, ⟨Lc7, hQ7, l7, y7, z7⟩, st7⟩ := X6.virtualBack hx (y := (⟨"com/example/throttl/throttl/Grants", "nthMostRecent", "(I)J"⟩ : MethodName)) (z := (⟨"com/example/throttl/throttl/Grants", "nthMostRecent", "(I)J"⟩ : MethodName)) hown (mvT hZ (hw _ (List.mem_of_getElem? (i := 51) rfl))) (mvT hZ (hw _ (List.mem_of_getElem? (i := 52) rfl))) (notFace_of_selects (args := #[]) (mvT hZ (hw _ (List.mem_of_getElem? (i := 54) rfl)))) (mvT hZ (hw _ (List.mem_of_getElem? (i := 54) rfl))) (mvT hZ (hw _ (List.mem_of_getElem? (i := 53) rfl))) (by decide) (backOf (W := 2) (rm9 l Z a0 hw [] a1 (1 : Int32) kp sz od fg km ar kA z vs q2 h0 n0 Z0 B0 V0 hi9 hu9 hh10 hm9 hc2 nz9) hZ (hw _ (List.mem_of_getElem? (i := 55) rfl)) (hw _ (List.mem_of_getElem? (i := 2) rfl)) (by decide) (by decide)) q7a q7c (g := (mkF m 28 #[.val (.ref a1), .val (.long q2), .second] [(.int (1 : Int32)), (.ref a1), (.long q2)])) rfl (by rw [hml]; rfl) (Steps.refl _) (argsL := [(.int (1 : Int32))]) (rest := [(.long q2)]) (lenOf pd_6_5_more rfl) rfl (by show 2 * 0 + _ ≤ _; exact Nat.le_of_eq rfl) (hb hby d6_28) (fun _ _ => ⟨rfl, e6, (by decide : 0 + 0 ≤ _), (by decide : 0 + 0 ≤ _)⟩)
  dsimp only [Pt.U, Pt.locs, Pt.cells, Pt.slots] at X7 l7 y7 z7 st7 hQ7
  subst l7 y7 z7
  obtain ⟨rfl, N7q, hh7⟩ := hQ7
  have N7 := Fr.app N0 N7q
  obtain ⟨T9, X9, e9, st9⟩ := getF X7 hx hZ hown (host := "") (Or.inl (hw _ (List.mem_of_getElem? (i := 37) rfl))) Via.refl hh7 B0.2.2.1 (g := (mkF m 55 #[.val (.ref a1), .val (.long q2), .second] [(.ref a1)])) rfl rfl (hb hby d6_55)
  obtain ⟨T11, X11, e11, st11⟩ := getF X9 hx hZ hown (host := "") (Or.inl (hw _ (List.mem_of_getElem? (i := 21) rfl))) Via.refl e9 B0.2.1 (g := (mkF m 59 #[.val (.ref a1), .val (.long q2), .second] [(.ref a1), (.int sz)])) rfl rfl (hb hby d6_59)
  obtain ⟨T13, X13, e13, st13⟩ := getF X11 hx hZ hown (host := "") (Or.inl (hw _ (List.mem_of_getElem? (i := 49) rfl))) Via.refl e11 B0.2.2.2.1 (g := (mkF m 67 #[.val (.ref a1), .val (.long q2), .second] [(.ref a1), (.ref a1)])) rfl rfl (hb hby d6_67)
  obtain ⟨T15, X15, e15, st15⟩ := getF X13 hx hZ hown (host := "") (Or.inl (hw _ (List.mem_of_getElem? (i := 11) rfl))) Via.refl e13 B0.2.2.2.2.2.2 (g := (mkF m 73 #[.val (.ref a1), .val (.long q2), .second] [(.ref a1), (.int (od + (1 : Int32))), (.ref a1)])) rfl rfl (hb hby d6_73)
  obtain ⟨T16, h16, X16, e16, W16, st16⟩ := putF X15 hx hZ hown (host := "") (Or.inl (hw _ (List.mem_of_getElem? (i := 49) rfl))) Via.refl e15 B0.2.2.2.1 B0.1 (Or.inl (hw _ (List.mem_of_getElem? (i := 50) rfl))) (hw _ (List.mem_of_getElem? (i := 1) rfl)) (ty := .int) (by decide) rfl rfl (g := (mkF m 78 #[.val (.ref a1), .val (.long q2), .second] [(.int ((od + (1 : Int32)) % z)), (.ref a1)])) rfl rfl (hb hby d6_78)
  have B16 := own_w_oldest hw W16 B0
  have Ar16 := Ar_ar.other W16 ne_ar
  have K16 : Keep h0 h16 [a1, ar] := (Keep.refl h0 [a1, ar]).wr W16 (Or.inl (List.mem_of_getElem? (i := 0) rfl))
  have N16 := Fr.snoc X16 N7 g_a1
  obtain ⟨T17, X17, e17, st17⟩ := getF X16 hx hZ hown (host := "") (Or.inl (hw _ (List.mem_of_getElem? (i := 37) rfl))) Via.refl e16 B16.2.2.1 (g := (mkF m 83 #[.val (.ref a1), .val (.long q2), .second] [(.ref a1), (.ref a1)])) rfl rfl (hb hby d6_83)
  obtain ⟨T18, h18, X18, e18, W18, st18⟩ := putF X17 hx hZ hown (host := "") (Or.inl (hw _ (List.mem_of_getElem? (i := 37) rfl))) Via.refl e17 B16.2.2.1 B16.1 (Or.inl (hw _ (List.mem_of_getElem? (i := 38) rfl))) (hw _ (List.mem_of_getElem? (i := 1) rfl)) (ty := .int) (by decide) rfl rfl (g := (mkF m 88 #[.val (.ref a1), .val (.long q2), .second] [(.int (sz - (1 : Int32))), (.ref a1)])) rfl rfl (hb hby d6_88)
  have B18 := own_w_size hw W18 B16
  have Ar18 := Ar16.other W18 ne_ar
  have K18 : Keep h0 h18 [a1, ar] := K16.wr W18 (Or.inl (List.mem_of_getElem? (i := 0) rfl))
  have N18 := Fr.snoc X18 N16 g_a1
  obtain ⟨T20, X20, e20, st20⟩ := getF X18 hx hZ hown (host := "") (Or.inl (hw _ (List.mem_of_getElem? (i := 61) rfl))) Via.refl e18 B18.2.2.2.2.1 (g := (mkF m 93 #[.val (.ref a1), .val (.long q2), .second] [(.ref a1), (.ref a1)])) rfl rfl (hb hby d6_93)
  obtain ⟨T21, h21, X21, e21, W21, st21⟩ := putF X20 hx hZ hown (host := "") (Or.inl (hw _ (List.mem_of_getElem? (i := 61) rfl))) Via.refl e20 B18.2.2.2.2.1 B18.1 (Or.inl (hw _ (List.mem_of_getElem? (i := 62) rfl))) (hw _ (List.mem_of_getElem? (i := 1) rfl)) (ty := .long) (by decide) rfl rfl (g := (mkF m 98 #[.val (.ref a1), .val (.long q2), .second] [(.long (fg + (1 : Int64))), (.ref a1)])) rfl rfl (hb hby d6_98)
  have B21 := own_w_forgotten hw W21 B18
  have Ar21 := Ar18.other W21 ne_ar
  have K21 : Keep h0 h21 [a1, ar] := K18.wr W21 (Or.inl (List.mem_of_getElem? (i := 0) rfl))
  have N21 := Fr.snoc X21 N18 g_a1
  obtain ⟨T22, X22, e22, st22⟩ := getF X21 hx hZ hown (host := "") (Or.inl (hw _ (List.mem_of_getElem? (i := 37) rfl))) Via.refl e21 B21.2.2.1 (g := (mkF m 55 #[.val (.ref a1), .val (.long q2), .second] [(.ref a1)])) rfl rfl (hb hby d6_55)
  obtain ⟨T23, X23, e23, st23⟩ := getF X22 hx hZ hown (host := "") (Or.inl (hw _ (List.mem_of_getElem? (i := 21) rfl))) Via.refl e22 B21.2.1 (g := (mkF m 59 #[.val (.ref a1), .val (.long q2), .second] [(.ref a1), (.int (sz - (1 : Int32)))])) rfl rfl (hb hby d6_59)
  obtain ⟨T24, X24, e24, st24⟩ := getF X23 hx hZ hown (host := "") (Or.inl (hw _ (List.mem_of_getElem? (i := 37) rfl))) Via.refl e23 B21.2.2.1 (g := (mkF m 105 #[.val (.ref a1), .val (.long q2), .second] [(.ref a1)])) rfl rfl (hb hby d6_105)
  obtain ⟨T25, X25, e25, st25⟩ := getF X24 hx hZ hown (host := "") (Or.inl (hw _ (List.mem_of_getElem? (i := 11) rfl))) Via.refl e24 B21.2.2.2.2.2.2 (g := (mkF m 109 #[.val (.ref a1), .val (.long q2), .second] [(.ref a1), (.int (sz - (1 : Int32)))])) rfl rfl (hb hby d6_109)
  obtain ⟨T26, X26, e26, st26⟩ := getF X25 hx hZ hown (host := "") (Or.inl (hw _ (List.mem_of_getElem? (i := 11) rfl))) Via.refl e25 B21.2.2.2.2.2.2 (g := (mkF m 121 #[.val (.ref a1), .val (.long q2), .second] [(.ref a1)])) rfl rfl (hb hby d6_121)
  obtain ⟨T27, X27, e27, st27⟩ := getF X26 hx hZ hown (host := "") (Or.inl (hw _ (List.mem_of_getElem? (i := 49) rfl))) Via.refl e26 B21.2.2.2.1 (g := (mkF m 125 #[.val (.ref a1), .val (.long q2), .second] [(.ref a1), (.ref ar)])) rfl rfl (hb hby d6_125)
  obtain ⟨T28, X28, e28, st28⟩ := getF X27 hx hZ hown (host := "") (Or.inl (hw _ (List.mem_of_getElem? (i := 37) rfl))) Via.refl e27 B21.2.2.1 (g := (mkF m 129 #[.val (.ref a1), .val (.long q2), .second] [(.ref a1), (.int ((od + (1 : Int32)) % z)), (.ref ar)])) rfl rfl (hb hby d6_129)
  obtain ⟨T29, X29, e29, st29⟩ := getF X28 hx hZ hown (host := "") (Or.inl (hw _ (List.mem_of_getElem? (i := 11) rfl))) Via.refl e28 B21.2.2.2.2.2.2 (g := (mkF m 134 #[.val (.ref a1), .val (.long q2), .second] [(.ref a1), (.int (((od + (1 : Int32)) % z) + (sz - (1 : Int32)))), (.ref ar)])) rfl rfl (hb hby d6_134)
  obtain ⟨T30, h30, X30, e30, W30, st30⟩ := stJ X29 hx hZ e29 Ar21 (j := ((((od + (1 : Int32)) % z) + (sz - (1 : Int32))) % z)) (inb_of S_ar hi) (g := (mkF m 140 #[.val (.ref a1), .val (.long q2), .second] [(.long q2), (.int ((((od + (1 : Int32)) % z) + (sz - (1 : Int32))) % z)), (.ref ar)])) rfl rfl (hb hby d6_140)
  have V30 := Arv.set Ar21 qc S_ar N_ar HA GA rfl W30 ix hix hlen
  have B30 := own_w_arr W30 (Ne.symm ne_ar) B21
  have N30 := Fr.snoc X30 N21 g_ar
  have K30 : Keep h0 h30 [a1, ar] := K21.wr W30 (Or.inl (List.mem_of_getElem? (i := 1) rfl))
  obtain ⟨T31, X31, e31, st31⟩ := getF X30 hx hZ hown (host := "") (Or.inl (hw _ (List.mem_of_getElem? (i := 37) rfl))) Via.refl e30 B30.2.2.1 (g := (mkF m 143 #[.val (.ref a1), .val (.long q2), .second] [(.ref a1), (.ref a1)])) rfl rfl (hb hby d6_143)
  obtain ⟨T32, h32, X32, e32, W32, st32⟩ := putF X31 hx hZ hown (host := "") (Or.inl (hw _ (List.mem_of_getElem? (i := 37) rfl))) Via.refl e31 B30.2.2.1 B30.1 (Or.inl (hw _ (List.mem_of_getElem? (i := 38) rfl))) (hw _ (List.mem_of_getElem? (i := 1) rfl)) (ty := .int) (by decide) rfl rfl (g := (mkF m 148 #[.val (.ref a1), .val (.long q2), .second] [(.int ((sz - (1 : Int32)) + (1 : Int32))), (.ref a1)])) rfl rfl (hb hby d6_148)
  have B32 := own_w_size hw W32 B30
  have V32 := V30.other W32 ne_ar
  have K32 : Keep h0 h32 [a1, ar] := K30.wr W32 (Or.inl (List.mem_of_getElem? (i := 0) rfl))
  have N32 := Fr.snoc X32 N30 g_a1
  obtain ⟨fs, hr, hrun, hended, hW, hsame⟩ := X32.leave (v := none) (fun _ => rfl)
  refine ⟨_, _, pre0 _ ?_, hrun, hended, _, _, rfl, ?_, ⟨_, rfl⟩, hW, hsame.mono (by decide) (by decide)⟩
  · show Steps p.tables e below (s₁.setTop (mkF m 0 #[.val (.ref a1), .val (.long q2), .second] [])) _
    refine XS.aloadN X0.here hx rfl (hb hby d6_0) rfl rfl ?_
    show Steps p.tables e below (s₁.setTop (mkF m 1 #[.val (.ref a1), .val (.long q2), .second] [(.ref a1)])) _
    refine st4 _ ?_
    show Steps p.tables e below (T4.setTop (mkF m 4 #[.val (.ref a1), .val (.long q2), .second] [(.int kp)])) _
    refine XS.iconst X4.here hx rfl (hb hby d6_4) ?_
    show Steps p.tables e below (T4.setTop (mkF m 5 #[.val (.ref a1), .val (.long q2), .second] [(.int (1 : Int32)), (.int kp)])) _
    refine XS.icmpYes X4.here hx rfl (pc0 := 5) (pc' := 18) rfl (hb hby d6_5) rfl (flt hc5).2.1 (by decide) (by decide) ?_
    show Steps p.tables e below (T4.setTop (mkF m 18 #[.val (.ref a1), .val (.long q2), .second] [])) _
    refine XS.aloadN X4.here hx rfl (hb hby d6_18) rfl rfl ?_
    show Steps p.tables e below (T4.setTop (mkF m 19 #[.val (.ref a1), .val (.long q2), .second] [(.ref a1)])) _
    refine st6 _ ?_
    show Steps p.tables e below (T6.setTop (mkF m 22 #[.val (.ref a1), .val (.long q2), .second] [(.int sz)])) _
    refine XS.ifNo X6.here hx rfl (hb hby d6_22) rfl ((if0 _ _).trans (tlt hc22).2.2.2) ?_
    show Steps p.tables e below (T6.setTop (mkF m 25 #[.val (.ref a1), .val (.long q2), .second] [])) _
    refine XS.lloadN X6.here hx rfl (hb hby d6_25) rfl ?_
    show Steps p.tables e below (T6.setTop (mkF m 26 #[.val (.ref a1), .val (.long q2), .second] [(.long q2)])) _
    refine XS.aloadN X6.here hx rfl (hb hby d6_26) rfl rfl ?_
    show Steps p.tables e below (T6.setTop (mkF m 27 #[.val (.ref a1), .val (.long q2), .second] [(.ref a1), (.long q2)])) _
    refine XS.iconst X6.here hx rfl (hb hby d6_27) ?_
    show Steps p.tables e below (T6.setTop (mkF m 28 #[.val (.ref a1), .val (.long q2), .second] [(.int (1 : Int32)), (.ref a1), (.long q2)])) _
    refine st7.trans ?_
    show Steps p.tables e below (T7.setTop (mkF m 31 #[.val (.ref a1), .val (.long q2), .second] [(.long q2), (.long q2)])) _
    refine XS.lcmp X7.here hx rfl (hb hby d6_31) rfl ?_
    show Steps p.tables e below (T7.setTop (mkF m 32 #[.val (.ref a1), .val (.long q2), .second] [(.int (lcmpW q2 q2))])) _
    refine XS.ifYes X7.here hx rfl (pc0 := 32) (pc' := 54) rfl (hb hby d6_32) rfl ((if0 _ _).trans (flt (own_lc q2 : ¬ ((lcmpW q2 q2) < (0 : Int32)))).2.1) (by decide) (by decide) ?_
    show Steps p.tables e below (T7.setTop (mkF m 54 #[.val (.ref a1), .val (.long q2), .second] [])) _
    refine XS.aloadN X7.here hx rfl (hb hby d6_54) rfl rfl ?_
    show Steps p.tables e below (T7.setTop (mkF m 55 #[.val (.ref a1), .val (.long q2), .second] [(.ref a1)])) _
    refine st9 _ ?_
    show Steps p.tables e below (T9.setTop (mkF m 58 #[.val (.ref a1), .val (.long q2), .second] [(.int sz)])) _
    refine XS.aloadN X9.here hx rfl (hb hby d6_58) rfl rfl ?_
    show Steps p.tables e below (T9.setTop (mkF m 59 #[.val (.ref a1), .val (.long q2), .second] [(.ref a1), (.int sz)])) _
    refine st11 _ ?_
    show Steps p.tables e below (T11.setTop (mkF m 62 #[.val (.ref a1), .val (.long q2), .second] [(.int kp), (.int sz)])) _
    refine XS.icmpNo X11.here hx rfl (hb hby d6_62) rfl (flt hc62).1 ?_
    show Steps p.tables e below (T11.setTop (mkF m 65 #[.val (.ref a1), .val (.long q2), .second] [])) _
    refine XS.aloadN X11.here hx rfl (hb hby d6_65) rfl rfl ?_
    show Steps p.tables e below (T11.setTop (mkF m 66 #[.val (.ref a1), .val (.long q2), .second] [(.ref a1)])) _
    refine XS.aloadN X11.here hx rfl (hb hby d6_66) rfl rfl ?_
    show Steps p.tables e below (T11.setTop (mkF m 67 #[.val (.ref a1), .val (.long q2), .second] [(.ref a1), (.ref a1)])) _
    refine st13 _ ?_
    show Steps p.tables e below (T13.setTop (mkF m 70 #[.val (.ref a1), .val (.long q2), .second] [(.int od), (.ref a1)])) _
    refine XS.iconst X13.here hx rfl (hb hby d6_70) ?_
    show Steps p.tables e below (T13.setTop (mkF m 71 #[.val (.ref a1), .val (.long q2), .second] [(.int (1 : Int32)), (.int od), (.ref a1)])) _
    refine XS.iadd X13.here hx rfl (hb hby d6_71) rfl ?_
    show Steps p.tables e below (T13.setTop (mkF m 72 #[.val (.ref a1), .val (.long q2), .second] [(.int (od + (1 : Int32))), (.ref a1)])) _
    refine XS.aloadN X13.here hx rfl (hb hby d6_72) rfl rfl ?_
    show Steps p.tables e below (T13.setTop (mkF m 73 #[.val (.ref a1), .val (.long q2), .second] [(.ref a1), (.int (od + (1 : Int32))), (.ref a1)])) _
    refine st15 _ ?_
    show Steps p.tables e below (T15.setTop (mkF m 76 #[.val (.ref a1), .val (.long q2), .second] [(.ref ar), (.int (od + (1 : Int32))), (.ref a1)])) _
    refine X15.arraylength hx (by rw [e15]; exact Ar_ar.1) (State.isArrayOf_alike hZ.alike Ar_ar.2.1) (g := (mkF m 76 #[.val (.ref a1), .val (.long q2), .second] [(.ref ar), (.int (od + (1 : Int32))), (.ref a1)])) rfl rfl (hb hby d6_76) _ ?_
    rw [len_of S_ar N_ar]
    show Steps p.tables e below (T15.setTop (mkF m 77 #[.val (.ref a1), .val (.long q2), .second] [(.int z), (.int (od + (1 : Int32))), (.ref a1)])) _
    refine Jvm.RoadKit.iremM (g := (mkF m 77 #[.val (.ref a1), .val (.long q2), .second] [(.int z), (.int (od + (1 : Int32))), (.ref a1)])) X15 hx rfl (hb hby d6_77) rfl nz77 ?_
    show Steps p.tables e below (T15.setTop (mkF m 78 #[.val (.ref a1), .val (.long q2), .second] [(.int ((od + (1 : Int32)) % z)), (.ref a1)])) _
    refine st16 _ ?_
    show Steps p.tables e below (T16.setTop (mkF m 81 #[.val (.ref a1), .val (.long q2), .second] [])) _
    refine XS.aloadN X16.here hx rfl (hb hby d6_81) rfl rfl ?_
    show Steps p.tables e below (T16.setTop (mkF m 82 #[.val (.ref a1), .val (.long q2), .second] [(.ref a1)])) _
    refine XS.dup X16.here hx rfl (hb hby d6_82) rfl rfl ?_
    show Steps p.tables e below (T16.setTop (mkF m 83 #[.val (.ref a1), .val (.long q2), .second] [(.ref a1), (.ref a1)])) _
    refine st17 _ ?_
    show Steps p.tables e below (T17.setTop (mkF m 86 #[.val (.ref a1), .val (.long q2), .second] [(.int sz), (.ref a1)])) _
    refine XS.iconst X17.here hx rfl (hb hby d6_86) ?_
    show Steps p.tables e below (T17.setTop (mkF m 87 #[.val (.ref a1), .val (.long q2), .second] [(.int (1 : Int32)), (.int sz), (.ref a1)])) _
    refine XS.isub X17.here hx rfl (hb hby d6_87) rfl ?_
    show Steps p.tables e below (T17.setTop (mkF m 88 #[.val (.ref a1), .val (.long q2), .second] [(.int (sz - (1 : Int32))), (.ref a1)])) _
    refine st18 _ ?_
    show Steps p.tables e below (T18.setTop (mkF m 91 #[.val (.ref a1), .val (.long q2), .second] [])) _
    refine XS.aloadN X18.here hx rfl (hb hby d6_91) rfl rfl ?_
    show Steps p.tables e below (T18.setTop (mkF m 92 #[.val (.ref a1), .val (.long q2), .second] [(.ref a1)])) _
    refine XS.dup X18.here hx rfl (hb hby d6_92) rfl rfl ?_
    show Steps p.tables e below (T18.setTop (mkF m 93 #[.val (.ref a1), .val (.long q2), .second] [(.ref a1), (.ref a1)])) _
    refine st20 _ ?_
    show Steps p.tables e below (T20.setTop (mkF m 96 #[.val (.ref a1), .val (.long q2), .second] [(.long fg), (.ref a1)])) _
    refine XS.lconst X20.here hx rfl (hb hby d6_96) ?_
    show Steps p.tables e below (T20.setTop (mkF m 97 #[.val (.ref a1), .val (.long q2), .second] [(.long (1 : Int64)), (.long fg), (.ref a1)])) _
    refine XS.ladd X20.here hx rfl (hb hby d6_97) rfl ?_
    show Steps p.tables e below (T20.setTop (mkF m 98 #[.val (.ref a1), .val (.long q2), .second] [(.long (fg + (1 : Int64))), (.ref a1)])) _
    refine st21 _ ?_
    show Steps p.tables e below (T21.setTop (mkF m 101 #[.val (.ref a1), .val (.long q2), .second] [])) _
    refine XS.goto X21.here hx rfl (pc0 := 101) (pc' := 54) rfl (hb hby d6_101) (by decide) (by decide) ?_
    show Steps p.tables e below (T21.setTop (mkF m 54 #[.val (.ref a1), .val (.long q2), .second] [])) _
    refine XS.aloadN X21.here hx rfl (hb hby d6_54) rfl rfl ?_
    show Steps p.tables e below (T21.setTop (mkF m 55 #[.val (.ref a1), .val (.long q2), .second] [(.ref a1)])) _
    refine st22 _ ?_
    show Steps p.tables e below (T22.setTop (mkF m 58 #[.val (.ref a1), .val (.long q2), .second] [(.int (sz - (1 : Int32)))])) _
    refine XS.aloadN X22.here hx rfl (hb hby d6_58) rfl rfl ?_
    show Steps p.tables e below (T22.setTop (mkF m 59 #[.val (.ref a1), .val (.long q2), .second] [(.ref a1), (.int (sz - (1 : Int32)))])) _
    refine st23 _ ?_
    show Steps p.tables e below (T23.setTop (mkF m 62 #[.val (.ref a1), .val (.long q2), .second] [(.int kp), (.int (sz - (1 : Int32)))])) _
    refine XS.icmpYes X23.here hx rfl (pc0 := 62) (pc' := 104) rfl (hb hby d6_62) rfl (tlt hc62').1 (by decide) (by decide) ?_
    show Steps p.tables e below (T23.setTop (mkF m 104 #[.val (.ref a1), .val (.long q2), .second] [])) _
    refine XS.aloadN X23.here hx rfl (hb hby d6_104) rfl rfl ?_
    show Steps p.tables e below (T23.setTop (mkF m 105 #[.val (.ref a1), .val (.long q2), .second] [(.ref a1)])) _
    refine st24 _ ?_
    show Steps p.tables e below (T24.setTop (mkF m 108 #[.val (.ref a1), .val (.long q2), .second] [(.int (sz - (1 : Int32)))])) _
    refine XS.aloadN X24.here hx rfl (hb hby d6_108) rfl rfl ?_
    show Steps p.tables e below (T24.setTop (mkF m 109 #[.val (.ref a1), .val (.long q2), .second] [(.ref a1), (.int (sz - (1 : Int32)))])) _
    refine st25 _ ?_
    show Steps p.tables e below (T25.setTop (mkF m 112 #[.val (.ref a1), .val (.long q2), .second] [(.ref ar), (.int (sz - (1 : Int32)))])) _
    refine X25.arraylength hx (by rw [e25]; exact Ar21.1) (State.isArrayOf_alike hZ.alike Ar21.2.1) (g := (mkF m 112 #[.val (.ref a1), .val (.long q2), .second] [(.ref ar), (.int (sz - (1 : Int32)))])) rfl rfl (hb hby d6_112) _ ?_
    rw [len_of S_ar N_ar]
    show Steps p.tables e below (T25.setTop (mkF m 113 #[.val (.ref a1), .val (.long q2), .second] [(.int z), (.int (sz - (1 : Int32)))])) _
    refine XS.icmpYes X25.here hx rfl (pc0 := 113) (pc' := 120) rfl (hb hby d6_113) rfl (feq hc113).2 (by decide) (by decide) ?_
    show Steps p.tables e below (T25.setTop (mkF m 120 #[.val (.ref a1), .val (.long q2), .second] [])) _
    refine XS.aloadN X25.here hx rfl (hb hby d6_120) rfl rfl ?_
    show Steps p.tables e below (T25.setTop (mkF m 121 #[.val (.ref a1), .val (.long q2), .second] [(.ref a1)])) _
    refine st26 _ ?_
    show Steps p.tables e below (T26.setTop (mkF m 124 #[.val (.ref a1), .val (.long q2), .second] [(.ref ar)])) _
    refine XS.aloadN X26.here hx rfl (hb hby d6_124) rfl rfl ?_
    show Steps p.tables e below (T26.setTop (mkF m 125 #[.val (.ref a1), .val (.long q2), .second] [(.ref a1), (.ref ar)])) _
    refine st27 _ ?_
    show Steps p.tables e below (T27.setTop (mkF m 128 #[.val (.ref a1), .val (.long q2), .second] [(.int ((od + (1 : Int32)) % z)), (.ref ar)])) _
    refine XS.aloadN X27.here hx rfl (hb hby d6_128) rfl rfl ?_
    show Steps p.tables e below (T27.setTop (mkF m 129 #[.val (.ref a1), .val (.long q2), .second] [(.ref a1), (.int ((od + (1 : Int32)) % z)), (.ref ar)])) _
    refine st28 _ ?_
    show Steps p.tables e below (T28.setTop (mkF m 132 #[.val (.ref a1), .val (.long q2), .second] [(.int (sz - (1 : Int32))), (.int ((od + (1 : Int32)) % z)), (.ref ar)])) _
    refine XS.iadd X28.here hx rfl (hb hby d6_132) rfl ?_
    show Steps p.tables e below (T28.setTop (mkF m 133 #[.val (.ref a1), .val (.long q2), .second] [(.int (((od + (1 : Int32)) % z) + (sz - (1 : Int32)))), (.ref ar)])) _
    refine XS.aloadN X28.here hx rfl (hb hby d6_133) rfl rfl ?_
    show Steps p.tables e below (T28.setTop (mkF m 134 #[.val (.ref a1), .val (.long q2), .second] [(.ref a1), (.int (((od + (1 : Int32)) % z) + (sz - (1 : Int32)))), (.ref ar)])) _
    refine st29 _ ?_
    show Steps p.tables e below (T29.setTop (mkF m 137 #[.val (.ref a1), .val (.long q2), .second] [(.ref ar), (.int (((od + (1 : Int32)) % z) + (sz - (1 : Int32)))), (.ref ar)])) _
    refine X29.arraylength hx (by rw [e29]; exact Ar21.1) (State.isArrayOf_alike hZ.alike Ar21.2.1) (g := (mkF m 137 #[.val (.ref a1), .val (.long q2), .second] [(.ref ar), (.int (((od + (1 : Int32)) % z) + (sz - (1 : Int32)))), (.ref ar)])) rfl rfl (hb hby d6_137) _ ?_
    rw [len_of S_ar N_ar]
    show Steps p.tables e below (T29.setTop (mkF m 138 #[.val (.ref a1), .val (.long q2), .second] [(.int z), (.int (((od + (1 : Int32)) % z) + (sz - (1 : Int32)))), (.ref ar)])) _
    refine Jvm.RoadKit.iremM (g := (mkF m 138 #[.val (.ref a1), .val (.long q2), .second] [(.int z), (.int (((od + (1 : Int32)) % z) + (sz - (1 : Int32)))), (.ref ar)])) X29 hx rfl (hb hby d6_138) rfl nz138 ?_
    show Steps p.tables e below (T29.setTop (mkF m 139 #[.val (.ref a1), .val (.long q2), .second] [(.int ((((od + (1 : Int32)) % z) + (sz - (1 : Int32))) % z)), (.ref ar)])) _
    refine XS.lloadN X29.here hx rfl (hb hby d6_139) rfl ?_
    show Steps p.tables e below (T29.setTop (mkF m 140 #[.val (.ref a1), .val (.long q2), .second] [(.long q2), (.int ((((od + (1 : Int32)) % z) + (sz - (1 : Int32))) % z)), (.ref ar)])) _
    refine st30 _ ?_
    show Steps p.tables e below (T30.setTop (mkF m 141 #[.val (.ref a1), .val (.long q2), .second] [])) _
    refine XS.aloadN X30.here hx rfl (hb hby d6_141) rfl rfl ?_
    show Steps p.tables e below (T30.setTop (mkF m 142 #[.val (.ref a1), .val (.long q2), .second] [(.ref a1)])) _
    refine XS.dup X30.here hx rfl (hb hby d6_142) rfl rfl ?_
    show Steps p.tables e below (T30.setTop (mkF m 143 #[.val (.ref a1), .val (.long q2), .second] [(.ref a1), (.ref a1)])) _
    refine st31 _ ?_
    show Steps p.tables e below (T31.setTop (mkF m 146 #[.val (.ref a1), .val (.long q2), .second] [(.int (sz - (1 : Int32))), (.ref a1)])) _
    refine XS.iconst X31.here hx rfl (hb hby d6_146) ?_
    show Steps p.tables e below (T31.setTop (mkF m 147 #[.val (.ref a1), .val (.long q2), .second] [(.int (1 : Int32)), (.int (sz - (1 : Int32))), (.ref a1)])) _
    refine XS.iadd X31.here hx rfl (hb hby d6_147) rfl ?_
    show Steps p.tables e below (T31.setTop (mkF m 148 #[.val (.ref a1), .val (.long q2), .second] [(.int ((sz - (1 : Int32)) + (1 : Int32))), (.ref a1)])) _
    refine st32 _ ?_
    show Steps p.tables e below (T32.setTop (mkF m 151 #[.val (.ref a1), .val (.long q2), .second] [])) _
    exact X32.returnOut hx Bd.returns (hb hby d6_151) hr
  · show QV _ _ n0 _ T32.heap _
    rw [e32]
    exact ⟨rfl, N32, hP _ K32.1 B32 V32⟩
theorem d6_116 : decode prog_3_method_7_code 116 = .ok (.aload_n 0, 1) := by decide +kernel
theorem d6_117 : decode prog_3_method_7_code 117 = .ok (.invokevirtual 83, 3) := by decide +kernel
theorem pd_6_0_first : parseMethodDescriptor "()V" = some ⟨[], none⟩ := by decide +kernel
set_option maxRecDepth 65536 in
set_option maxHeartbeats 40000000 in
theorem rm6_first (l : Launch) (Z : State) (a0 : Array Value) (hw : ∀ d ∈ tables_1, d.before a0 Z = true) (ws : List Jvm.Cond) (a1 : Addr) (q2 : Int64) (kp : Int32) (fg : Int64) (km : Int64) (st : Addr) (cl_st : Cell) (nn : Nat) (h0 : Heap) (n0 : Nat) (Z0 : n0 ≤ h0.size) (B0 : GB Z h0 a1 kp (0 : Int32) (0 : Int32) fg km (.ref st)) (Ar_st : Arr Z h0 st cl_st .long) (S_st : cl_st.slots.size = (0 : Int32).toNatClampNeg) (N_st : ¬ ((0 : Int32) < 0)) (g_a1 : n0 ≤ a1) (hk1 : kp.toInt64.toInt32 = kp) (hk2 : ¬ (kp < 0)) (hk3 : kp.toNatClampNeg ≤ 8) (hmx : ¬ ((lcmpW (16 : Int64) ((2 : Int64) * ((0 : Int32).toInt64))) < (0 : Int32))) (hmn : ¬ ((0 : Int32) < (lcmpW (kp.toInt64) (16 : Int64)))) (hi : ¬ ((((0 : Int32) + (0 : Int32)) % kp) < 0) ∧ (((0 : Int32) + (0 : Int32)) % kp) < kp) (hix : (((0 : Int32) + (0 : Int32)) % kp).toNatClampNeg = 0) (hlen : 0 < (List.replicate nn (Value.long 0)).length) (P : Heap → Prop) (hP : ∀ (h : Heap) (ar : Addr) (kA : ClassId), h0.size ≤ h.size → n0 ≤ ar → ar ≠ a1 → GB Z h a1 kp ((0 : Int32) + (1 : Int32)) (0 : Int32) fg km (.ref ar) → Arv Z h ar kA .long kp ((List.replicate nn (.long 0)).set 0 (.long q2)) (.long 0) → P h) (hc5 : ¬ (kp < (1 : Int32))) (hc22 : ¬ ((0 : Int32) < (0 : Int32))) (hc62 : (0 : Int32) < kp) (hc113 : (0 : Int32) = (0 : Int32)) (nz138 : kp ≠ 0) :
    MetFree l (⟨"com/example/throttl/throttl/Grants", "add", "(J)V"⟩ : MethodName) (head1 (Jvm.Cond.code (⟨"com/example/throttl/throttl/Grants", "add", "(J)V"⟩ : MethodName) prog_3_method_7_code 3 none :: ws) ({ frames := 2, cells := 1, slots := 8, locals := 60 } : Room)) (fun a U => a = #[(.ref a1), (.long q2)] ∧ Z.Warmed39 U.vm ∧ U.heap = h0) (fun _ _ _ _ _ => True) (fun _ U o U' => ∃ v L, o = .returned v ∧ QV none (fun h => P h) n0 v U'.heap L ∧ FrameEnd U o U' L ({ frames := 2, cells := 1, slots := 8, locals := 60 } : Room).cells ({ frames := 2, cells := 1, slots := 8, locals := 60 } : Room).slots) := by
  refine MetFree.of_bodySF (plainFor_of_name pn_6) hisR ?_
  intro p e s m args below meth c s₁ Bd hml0 hP hK
  obtain ⟨rfl, hZ, hh⟩ := hP
  have hx := Bd.exec
  have hby := Bd.bytes
  have hml : c.maxLocals = 3 := hml0
  have hown : s.vm.findClass "com/example/throttl/throttl/Grants" = some m.cls := findClass_of_methodNamed Bd.named
  have hnm := (name_of_methodNamed Bd.named Bd.method).1
  have X0 : Stand p l e ({ frames := 2, cells := 1, slots := 8, locals := 60 } : Room) s m #[(.ref a1), (.long q2)] below meth c s₁ [] 0 0 := Stand.of_body Bd
  have e0 : s₁.heap = h0 := by rw [← hh, Bd.state]; rfl
  have N0 := Fr.nil n0
  have pre0 : ∀ t, Steps p.tables e below (s₁.setTop (mkF m 0 #[.val (.ref a1), .val (.long q2), .second] [])) t → Steps p.tables e below (s₁.setTop (entryFrame m #[(.ref a1), (.long q2)] 3)) t := fun t k => castTop (ef_6 m a1 q2) k
  obtain ⟨T4, X4, e4, st4⟩ := getF X0 hx hZ hown (host := "") (Or.inl (hw _ (List.mem_of_getElem? (i := 21) rfl))) Via.refl e0 B0.2.1 (g := (mkF m 1 #[.val (.ref a1), .val (.long q2), .second] [(.ref a1)])) rfl rfl (hb hby d6_1)
  obtain ⟨T6, X6, e6, st6⟩ := getF X4 hx hZ hown (host := "") (Or.inl (hw _ (List.mem_of_getElem? (i := 37) rfl))) Via.refl e4 B0.2.2.1 (g := (mkF m 19 #[.val (.ref a1), .val (.long q2), .second] [(.ref a1)])) rfl rfl (hb hby d6_19)
  obtain ⟨T7, X7, e7, st7⟩ := getF X6 hx hZ hown (host := "") (Or.inl (hw _ (List.mem_of_getElem? (i := 37) rfl))) Via.refl e6 B0.2.2.1 (g := (mkF m 55 #[.val (.ref a1), .val (.long q2), .second] [(.ref a1)])) rfl rfl (hb hby d6_55)
  obtain ⟨T8, X8, e8, st8⟩ := getF X7 hx hZ hown (host := "") (Or.inl (hw _ (List.mem_of_getElem? (i := 21) rfl))) Via.refl e7 B0.2.1 (g := (mkF m 59 #[.val (.ref a1), .val (.long q2), .second] [(.ref a1), (.int (0 : Int32))])) rfl rfl (hb hby d6_59)
  obtain ⟨T9, X9, e9, st9⟩ := getF X8 hx hZ hown (host := "") (Or.inl (hw _ (List.mem_of_getElem? (i := 37) rfl))) Via.refl e8 B0.2.2.1 (g := (mkF m 105 #[.val (.ref a1), .val (.long q2), .second] [(.ref a1)])) rfl rfl (hb hby d6_105)
  obtain ⟨T11, X11, e11, st11⟩ := getF X9 hx hZ hown (host := "") (Or.inl (hw _ (List.mem_of_getElem? (i := 11) rfl))) Via.refl e9 B0.2.2.2.2.2.2 (g := (mkF m 109 #[.val (.ref a1), .val (.long q2), .second] [(.ref a1), (.int (0 : Int32))])) rfl rfl (hb hby d6_109)
  obtain ⟨cq12, q12, q12'⟩ := B0.1.cell
  obtain ⟨_, _, ⟨T12, L12, k12, n12⟩, -, X12, ⟨Lc12, hQ12, l12, y12, z12⟩, st12⟩ := X11.privateBack hx (y := (⟨"com/example/throttl/throttl/Grants", "grow", "()V"⟩ : MethodName)) hown (mvT hZ (hw _ (List.mem_of_getElem? (i := 39) rfl))) (mvT hZ (hw _ (List.mem_of_getElem? (i := 40) rfl))) (own_self (mvT hZ (hw _ (List.mem_of_getElem? (i := 1) rfl))) (Cond.privateMethod_at (mvP hZ (hw _ (List.mem_of_getElem? (i := 41) rfl)) (args := #[]))) (mvT hZ (hw _ (List.mem_of_getElem? (i := 40) rfl))) (by decide)) (Cond.privateMethod_at (mvP hZ (hw _ (List.mem_of_getElem? (i := 41) rfl)) (args := #[]))) (mvT hZ (hw _ (List.mem_of_getElem? (i := 42) rfl))) (by decide) (backOf (W := 0) (rm7 l Z a0 hw [] a1 kp fg km st cl_st h0 n0 Z0 B0 Ar_st S_st N_st g_a1 hk1 hk2 hk3 hmx hmn (by decide)) hZ (hw _ (List.mem_of_getElem? (i := 42) rfl)) (hw _ (List.mem_of_getElem? (i := 2) rfl)) (by decide) (by decide)) (g := (mkF m 117 #[.val (.ref a1), .val (.long q2), .second] [(.ref a1)])) rfl (by rw [hml]; rfl) (Steps.refl _) (a := a1) (by rw [e11]; exact q12) q12' (argsL := []) (rest := []) (lenOf pd_6_0_first rfl) rfl (by show 2 * 0 + _ ≤ _; exact Nat.le_of_eq rfl) (hb hby d6_117) (fun _ _ => ⟨rfl, e11, (by decide : 0 + 1 ≤ _), (by decide : 0 + 8 ≤ _)⟩)
  dsimp only [Pt.U, Pt.locs, Pt.cells, Pt.slots] at X12 l12 y12 z12 st12 hQ12
  subst l12 y12 z12
  obtain ⟨rfl, N12q, K12, ar, kA, hsz, hne, B12, V12⟩ := hQ12
  have ne_ar : ar ≠ a1 := Ne.symm hne
  have g_ar : n0 ≤ ar := Nat.le_trans Z0 hsz
  obtain ⟨cl_ar, Ar_ar, qc, S_ar, N_ar, HA, GA⟩ := V12.pad (pad_rep [] (.long 0) nn)
  have N12 := Fr.app N0 N12q
  obtain ⟨T14, X14, e14, st14⟩ := getF X12 hx hZ hown (host := "") (Or.inl (hw _ (List.mem_of_getElem? (i := 11) rfl))) Via.refl rfl B12.2.2.2.2.2.2 (g := (mkF m 121 #[.val (.ref a1), .val (.long q2), .second] [(.ref a1)])) rfl rfl (hb hby d6_121)
  obtain ⟨T16, X16, e16, st16⟩ := getF X14 hx hZ hown (host := "") (Or.inl (hw _ (List.mem_of_getElem? (i := 49) rfl))) Via.refl e14 B12.2.2.2.1 (g := (mkF m 125 #[.val (.ref a1), .val (.long q2), .second] [(.ref a1), (.ref ar)])) rfl rfl (hb hby d6_125)
  obtain ⟨T18, X18, e18, st18⟩ := getF X16 hx hZ hown (host := "") (Or.inl (hw _ (List.mem_of_getElem? (i := 37) rfl))) Via.refl e16 B12.2.2.1 (g := (mkF m 129 #[.val (.ref a1), .val (.long q2), .second] [(.ref a1), (.int (0 : Int32)), (.ref ar)])) rfl rfl (hb hby d6_129)
  obtain ⟨T19, X19, e19, st19⟩ := getF X18 hx hZ hown (host := "") (Or.inl (hw _ (List.mem_of_getElem? (i := 11) rfl))) Via.refl e18 B12.2.2.2.2.2.2 (g := (mkF m 134 #[.val (.ref a1), .val (.long q2), .second] [(.ref a1), (.int ((0 : Int32) + (0 : Int32))), (.ref ar)])) rfl rfl (hb hby d6_134)
  obtain ⟨T20, h20, X20, e20, W20, st20⟩ := stJ X19 hx hZ e19 Ar_ar (j := (((0 : Int32) + (0 : Int32)) % kp)) (inb_of S_ar hi) (g := (mkF m 140 #[.val (.ref a1), .val (.long q2), .second] [(.long q2), (.int (((0 : Int32) + (0 : Int32)) % kp)), (.ref ar)])) rfl rfl (hb hby d6_140)
  have V20 := Arv.set Ar_ar qc S_ar N_ar HA GA rfl W20 0 hix hlen
  have B20 := own_w_arr W20 (Ne.symm ne_ar) B12
  have N20 := Fr.snoc X20 N12 g_ar
  have K20 : Keep h0 h20 [a1] := K12.wr W20 (Or.inr hsz)
  obtain ⟨T21, X21, e21, st21⟩ := getF X20 hx hZ hown (host := "") (Or.inl (hw _ (List.mem_of_getElem? (i := 37) rfl))) Via.refl e20 B20.2.2.1 (g := (mkF m 143 #[.val (.ref a1), .val (.long q2), .second] [(.ref a1), (.ref a1)])) rfl rfl (hb hby d6_143)
  obtain ⟨T22, h22, X22, e22, W22, st22⟩ := putF X21 hx hZ hown (host := "") (Or.inl (hw _ (List.mem_of_getElem? (i := 37) rfl))) Via.refl e21 B20.2.2.1 B20.1 (Or.inl (hw _ (List.mem_of_getElem? (i := 38) rfl))) (hw _ (List.mem_of_getElem? (i := 1) rfl)) (ty := .int) (by decide) rfl rfl (g := (mkF m 148 #[.val (.ref a1), .val (.long q2), .second] [(.int ((0 : Int32) + (1 : Int32))), (.ref a1)])) rfl rfl (hb hby d6_148)
  have B22 := own_w_size hw W22 B20
  have V22 := V20.other W22 ne_ar
  have K22 : Keep h0 h22 [a1] := K20.wr W22 (Or.inl (List.mem_of_getElem? (i := 0) rfl))
  have N22 := Fr.snoc X22 N20 g_a1
  obtain ⟨fs, hr, hrun, hended, hW, hsame⟩ := X22.leave (v := none) (fun _ => rfl)
  refine ⟨_, _, pre0 _ ?_, hrun, hended, _, _, rfl, ?_, ⟨_, rfl⟩, hW, hsame.mono (by decide) (by decide)⟩
  · show Steps p.tables e below (s₁.setTop (mkF m 0 #[.val (.ref a1), .val (.long q2), .second] [])) _
    refine XS.aloadN X0.here hx rfl (hb hby d6_0) rfl rfl ?_
    show Steps p.tables e below (s₁.setTop (mkF m 1 #[.val (.ref a1), .val (.long q2), .second] [(.ref a1)])) _
    refine st4 _ ?_
    show Steps p.tables e below (T4.setTop (mkF m 4 #[.val (.ref a1), .val (.long q2), .second] [(.int kp)])) _
    refine XS.iconst X4.here hx rfl (hb hby d6_4) ?_
    show Steps p.tables e below (T4.setTop (mkF m 5 #[.val (.ref a1), .val (.long q2), .second] [(.int (1 : Int32)), (.int kp)])) _
    refine XS.icmpYes X4.here hx rfl (pc0 := 5) (pc' := 18) rfl (hb hby d6_5) rfl (flt hc5).2.1 (by decide) (by decide) ?_
    show Steps p.tables e below (T4.setTop (mkF m 18 #[.val (.ref a1), .val (.long q2), .second] [])) _
    refine XS.aloadN X4.here hx rfl (hb hby d6_18) rfl rfl ?_
    show Steps p.tables e below (T4.setTop (mkF m 19 #[.val (.ref a1), .val (.long q2), .second] [(.ref a1)])) _
    refine st6 _ ?_
    show Steps p.tables e below (T6.setTop (mkF m 22 #[.val (.ref a1), .val (.long q2), .second] [(.int (0 : Int32))])) _
    refine XS.ifYes X6.here hx rfl (pc0 := 22) (pc' := 54) rfl (hb hby d6_22) rfl ((if0 _ _).trans (flt hc22).2.2.2) (by decide) (by decide) ?_
    show Steps p.tables e below (T6.setTop (mkF m 54 #[.val (.ref a1), .val (.long q2), .second] [])) _
    refine XS.aloadN X6.here hx rfl (hb hby d6_54) rfl rfl ?_
    show Steps p.tables e below (T6.setTop (mkF m 55 #[.val (.ref a1), .val (.long q2), .second] [(.ref a1)])) _
    refine st7 _ ?_
    show Steps p.tables e below (T7.setTop (mkF m 58 #[.val (.ref a1), .val (.long q2), .second] [(.int (0 : Int32))])) _
    refine XS.aloadN X7.here hx rfl (hb hby d6_58) rfl rfl ?_
    show Steps p.tables e below (T7.setTop (mkF m 59 #[.val (.ref a1), .val (.long q2), .second] [(.ref a1), (.int (0 : Int32))])) _
    refine st8 _ ?_
    show Steps p.tables e below (T8.setTop (mkF m 62 #[.val (.ref a1), .val (.long q2), .second] [(.int kp), (.int (0 : Int32))])) _
    refine XS.icmpYes X8.here hx rfl (pc0 := 62) (pc' := 104) rfl (hb hby d6_62) rfl (tlt hc62).1 (by decide) (by decide) ?_
    show Steps p.tables e below (T8.setTop (mkF m 104 #[.val (.ref a1), .val (.long q2), .second] [])) _
    refine XS.aloadN X8.here hx rfl (hb hby d6_104) rfl rfl ?_
    show Steps p.tables e below (T8.setTop (mkF m 105 #[.val (.ref a1), .val (.long q2), .second] [(.ref a1)])) _
    refine st9 _ ?_
    show Steps p.tables e below (T9.setTop (mkF m 108 #[.val (.ref a1), .val (.long q2), .second] [(.int (0 : Int32))])) _
    refine XS.aloadN X9.here hx rfl (hb hby d6_108) rfl rfl ?_
    show Steps p.tables e below (T9.setTop (mkF m 109 #[.val (.ref a1), .val (.long q2), .second] [(.ref a1), (.int (0 : Int32))])) _
    refine st11 _ ?_
    show Steps p.tables e below (T11.setTop (mkF m 112 #[.val (.ref a1), .val (.long q2), .second] [(.ref st), (.int (0 : Int32))])) _
    refine X11.arraylength hx (by rw [e11]; exact Ar_st.1) (State.isArrayOf_alike hZ.alike Ar_st.2.1) (g := (mkF m 112 #[.val (.ref a1), .val (.long q2), .second] [(.ref st), (.int (0 : Int32))])) rfl rfl (hb hby d6_112) _ ?_
    rw [len_of S_st N_st]
    show Steps p.tables e below (T11.setTop (mkF m 113 #[.val (.ref a1), .val (.long q2), .second] [(.int (0 : Int32)), (.int (0 : Int32))])) _
    refine XS.icmpNo X11.here hx rfl (hb hby d6_113) rfl (teq hc113).2 ?_
    show Steps p.tables e below (T11.setTop (mkF m 116 #[.val (.ref a1), .val (.long q2), .second] [])) _
    refine XS.aloadN X11.here hx rfl (hb hby d6_116) rfl rfl ?_
    show Steps p.tables e below (T11.setTop (mkF m 117 #[.val (.ref a1), .val (.long q2), .second] [(.ref a1)])) _
    refine st12.trans ?_
    show Steps p.tables e below (T12.setTop (mkF m 120 #[.val (.ref a1), .val (.long q2), .second] [])) _
    refine XS.aloadN X12.here hx rfl (hb hby d6_120) rfl rfl ?_
    show Steps p.tables e below (T12.setTop (mkF m 121 #[.val (.ref a1), .val (.long q2), .second] [(.ref a1)])) _
    refine st14 _ ?_
    show Steps p.tables e below (T14.setTop (mkF m 124 #[.val (.ref a1), .val (.long q2), .second] [(.ref ar)])) _
    refine XS.aloadN X14.here hx rfl (hb hby d6_124) rfl rfl ?_
    show Steps p.tables e below (T14.setTop (mkF m 125 #[.val (.ref a1), .val (.long q2), .second] [(.ref a1), (.ref ar)])) _
    refine st16 _ ?_
    show Steps p.tables e below (T16.setTop (mkF m 128 #[.val (.ref a1), .val (.long q2), .second] [(.int (0 : Int32)), (.ref ar)])) _
    refine XS.aloadN X16.here hx rfl (hb hby d6_128) rfl rfl ?_
    show Steps p.tables e below (T16.setTop (mkF m 129 #[.val (.ref a1), .val (.long q2), .second] [(.ref a1), (.int (0 : Int32)), (.ref ar)])) _
    refine st18 _ ?_
    show Steps p.tables e below (T18.setTop (mkF m 132 #[.val (.ref a1), .val (.long q2), .second] [(.int (0 : Int32)), (.int (0 : Int32)), (.ref ar)])) _
    refine XS.iadd X18.here hx rfl (hb hby d6_132) rfl ?_
    show Steps p.tables e below (T18.setTop (mkF m 133 #[.val (.ref a1), .val (.long q2), .second] [(.int ((0 : Int32) + (0 : Int32))), (.ref ar)])) _
    refine XS.aloadN X18.here hx rfl (hb hby d6_133) rfl rfl ?_
    show Steps p.tables e below (T18.setTop (mkF m 134 #[.val (.ref a1), .val (.long q2), .second] [(.ref a1), (.int ((0 : Int32) + (0 : Int32))), (.ref ar)])) _
    refine st19 _ ?_
    show Steps p.tables e below (T19.setTop (mkF m 137 #[.val (.ref a1), .val (.long q2), .second] [(.ref ar), (.int ((0 : Int32) + (0 : Int32))), (.ref ar)])) _
    refine X19.arraylength hx (by rw [e19]; exact Ar_ar.1) (State.isArrayOf_alike hZ.alike Ar_ar.2.1) (g := (mkF m 137 #[.val (.ref a1), .val (.long q2), .second] [(.ref ar), (.int ((0 : Int32) + (0 : Int32))), (.ref ar)])) rfl rfl (hb hby d6_137) _ ?_
    rw [len_of S_ar N_ar]
    show Steps p.tables e below (T19.setTop (mkF m 138 #[.val (.ref a1), .val (.long q2), .second] [(.int kp), (.int ((0 : Int32) + (0 : Int32))), (.ref ar)])) _
    refine Jvm.RoadKit.iremM (g := (mkF m 138 #[.val (.ref a1), .val (.long q2), .second] [(.int kp), (.int ((0 : Int32) + (0 : Int32))), (.ref ar)])) X19 hx rfl (hb hby d6_138) rfl nz138 ?_
    show Steps p.tables e below (T19.setTop (mkF m 139 #[.val (.ref a1), .val (.long q2), .second] [(.int (((0 : Int32) + (0 : Int32)) % kp)), (.ref ar)])) _
    refine XS.lloadN X19.here hx rfl (hb hby d6_139) rfl ?_
    show Steps p.tables e below (T19.setTop (mkF m 140 #[.val (.ref a1), .val (.long q2), .second] [(.long q2), (.int (((0 : Int32) + (0 : Int32)) % kp)), (.ref ar)])) _
    refine st20 _ ?_
    show Steps p.tables e below (T20.setTop (mkF m 141 #[.val (.ref a1), .val (.long q2), .second] [])) _
    refine XS.aloadN X20.here hx rfl (hb hby d6_141) rfl rfl ?_
    show Steps p.tables e below (T20.setTop (mkF m 142 #[.val (.ref a1), .val (.long q2), .second] [(.ref a1)])) _
    refine XS.dup X20.here hx rfl (hb hby d6_142) rfl rfl ?_
    show Steps p.tables e below (T20.setTop (mkF m 143 #[.val (.ref a1), .val (.long q2), .second] [(.ref a1), (.ref a1)])) _
    refine st21 _ ?_
    show Steps p.tables e below (T21.setTop (mkF m 146 #[.val (.ref a1), .val (.long q2), .second] [(.int (0 : Int32)), (.ref a1)])) _
    refine XS.iconst X21.here hx rfl (hb hby d6_146) ?_
    show Steps p.tables e below (T21.setTop (mkF m 147 #[.val (.ref a1), .val (.long q2), .second] [(.int (1 : Int32)), (.int (0 : Int32)), (.ref a1)])) _
    refine XS.iadd X21.here hx rfl (hb hby d6_147) rfl ?_
    show Steps p.tables e below (T21.setTop (mkF m 148 #[.val (.ref a1), .val (.long q2), .second] [(.int ((0 : Int32) + (1 : Int32))), (.ref a1)])) _
    refine st22 _ ?_
    show Steps p.tables e below (T22.setTop (mkF m 151 #[.val (.ref a1), .val (.long q2), .second] [])) _
    exact X22.returnOut hx Bd.returns (hb hby d6_151) hr
  · show QV _ _ n0 _ T22.heap _
    rw [e22]
    exact ⟨rfl, N22, hP _ ar kA K22.1 g_ar ne_ar B22 V22⟩
theorem d1_0 : decode prog_3_method_1_code 0 = .ok (.aload_n 0, 1) := by decide +kernel
theorem d1_1 : decode prog_3_method_1_code 1 = .ok (.invokespecial 1, 3) := by decide +kernel
theorem d1_4 : decode prog_3_method_1_code 4 = .ok (.aload_n 0, 1) := by decide +kernel
theorem d1_5 : decode prog_3_method_1_code 5 = .ok (.getstatic 7, 3) := by decide +kernel
theorem d1_8 : decode prog_3_method_1_code 8 = .ok (.putfield 13, 3) := by decide +kernel
theorem d1_11 : decode prog_3_method_1_code 11 = .ok (.aload_n 0, 1) := by decide +kernel
theorem d1_12 : decode prog_3_method_1_code 12 = .ok (.ldc2_w 18, 3) := by decide +kernel
theorem d1_15 : decode prog_3_method_1_code 15 = .ok (.putfield 20, 3) := by decide +kernel
theorem d1_18 : decode prog_3_method_1_code 18 = .ok (.return_, 1) := by decide +kernel
theorem pn_1 : plainName "com/example/throttl/throttl/Grants" = true := by first | (simp [plainName, overriddenIn]; done) | decide +kernel
theorem ef_1 (m : MethodId) (x0 : Addr) : entryFrame m #[(.ref x0)] 1 = mkF m 0 #[.val (.ref x0)] [] := by first | (simp [entryFrame, mkF, argsToLocals, Value.category]; done) | rfl
set_option maxRecDepth 65536 in
set_option maxHeartbeats 40000000 in
theorem rm1 (l : Launch) (Z : State) (a0 : Array Value) (hw : ∀ d ∈ tables_1, d.before a0 Z = true) (ws : List Jvm.Cond) (a1 : Addr) (kp : Int32) (sz : Int32) (od : Int32) (fg : Int64) (km : Int64) (st : Addr) (h0 : Heap) (n0 : Nat) (Z0 : n0 ≤ h0.size) (B0 : GB Z h0 a1 kp sz od fg km .null) (F_due : Fld Z h0 a1 "com/example/throttl/throttl/Grants" "due" "J" (.long 0)) (g_a1 : n0 ≤ a1) (S_NO_STORAGE : Sta Z h0 "com/example/throttl/throttl/Grants" "NO_STORAGE" "[J" (.ref st))  :
    MetFree l (⟨"com/example/throttl/throttl/Grants", "<init>", "()V"⟩ : MethodName) (head1 (Jvm.Cond.code (⟨"com/example/throttl/throttl/Grants", "<init>", "()V"⟩ : MethodName) prog_3_method_1_code 1 none :: ws) ({ frames := 1, cells := 0, slots := 0, locals := 12 } : Room)) (fun a U => a = #[(.ref a1)] ∧ Z.Warmed39 U.vm ∧ U.heap = h0) (fun _ _ _ _ _ => True) (fun _ U o U' => ∃ v L, o = .returned v ∧ QV none (fun h => Keep h0 h [a1] ∧ GB Z h a1 kp sz od fg km (.ref st)) n0 v U'.heap L ∧ FrameEnd U o U' L ({ frames := 1, cells := 0, slots := 0, locals := 12 } : Room).cells ({ frames := 1, cells := 0, slots := 0, locals := 12 } : Room).slots) := by
  refine MetFree.of_bodySF (plainFor_of_name pn_1) hisR ?_
  intro p e s m args below meth c s₁ Bd hml0 hP hK
  obtain ⟨rfl, hZ, hh⟩ := hP
  have hx := Bd.exec
  have hby := Bd.bytes
  have hml : c.maxLocals = 1 := hml0
  have hown : s.vm.findClass "com/example/throttl/throttl/Grants" = some m.cls := findClass_of_methodNamed Bd.named
  have hnm := (name_of_methodNamed Bd.named Bd.method).1
  have X0 : Stand p l e ({ frames := 1, cells := 0, slots := 0, locals := 12 } : Room) s m #[(.ref a1)] below meth c s₁ [] 0 0 := Stand.of_body Bd
  have e0 : s₁.heap = h0 := by rw [← hh, Bd.state]; rfl
  have N0 := Fr.nil n0
  have pre0 : ∀ t, Steps p.tables e below (s₁.setTop (mkF m 0 #[.val (.ref a1)] [])) t → Steps p.tables e below (s₁.setTop (entryFrame m #[(.ref a1)] 1)) t := fun t k => castTop (ef_1 m a1) k
  obtain ⟨T2, X2, e2, st2⟩ := initO X0 hx hZ hown (hw _ (List.mem_of_getElem? (i := 6) rfl)) (hw _ (List.mem_of_getElem? (i := 7) rfl)) (hw _ (List.mem_of_getElem? (i := 8) rfl)) e0 (g := (mkF m 1 #[.val (.ref a1)] [(.ref a1)])) rfl (by rw [hml]; rfl) rfl (hb hby d1_1) (by decide) (W := 0) (by show 2 * 0 + _ ≤ _; exact Nat.le_of_eq rfl) (by decide)
  obtain ⟨T4, X4, e4, st4⟩ := getS2 X2 hx hZ hown (host := "") (Or.inl (hw _ (List.mem_of_getElem? (i := 9) rfl))) Via.refl e2 S_NO_STORAGE (g := (mkF m 5 #[.val (.ref a1)] [(.ref a1)])) rfl (hb hby d1_5)
  obtain ⟨T5, h5, X5, e5, W5, st5⟩ := putF X4 hx hZ hown (host := "") (Or.inl (hw _ (List.mem_of_getElem? (i := 11) rfl))) Via.refl e4 B0.2.2.2.2.2.2 B0.1 (Or.inl (hw _ (List.mem_of_getElem? (i := 12) rfl))) (hw _ (List.mem_of_getElem? (i := 1) rfl)) (ty := (.array .long)) (by decide) rfl rfl (g := (mkF m 8 #[.val (.ref a1)] [(.ref st), (.ref a1)])) rfl rfl (hb hby d1_8)
  have F_due := F_due.other W5 (Or.inr (slot_ne (Or.inl (hw _ (List.mem_of_getElem? (i := 15) rfl))) (Or.inl (hw _ (List.mem_of_getElem? (i := 12) rfl))) (by decide) (t := .long) (t' := (.array .long)) (by decide) (by decide)))
  have B5 := own_w_instants hw W5 B0
  have K5 : Keep h0 h5 [a1] := (Keep.refl h0 [a1]).wr W5 (Or.inl (List.mem_of_getElem? (i := 0) rfl))
  have N5 := Fr.snoc X5 N0 g_a1
  obtain ⟨T6, h6, X6, e6, W6, st6⟩ := putF X5 hx hZ hown (host := "") (Or.inl (hw _ (List.mem_of_getElem? (i := 14) rfl))) Via.refl e5 F_due B5.1 (Or.inl (hw _ (List.mem_of_getElem? (i := 15) rfl))) (hw _ (List.mem_of_getElem? (i := 1) rfl)) (ty := .long) (by decide) rfl rfl (g := (mkF m 15 #[.val (.ref a1)] [(.long (9223372036854775807 : Int64)), (.ref a1)])) rfl rfl (hb hby d1_15)
  have B6 := own_w_due hw W6 B5
  have K6 : Keep h0 h6 [a1] := K5.wr W6 (Or.inl (List.mem_of_getElem? (i := 0) rfl))
  have N6 := Fr.snoc X6 N5 g_a1
  obtain ⟨fs, hr, hrun, hended, hW, hsame⟩ := X6.leave (v := none) (fun _ => rfl)
  refine ⟨_, _, pre0 _ ?_, hrun, hended, _, _, rfl, ?_, ⟨_, rfl⟩, hW, hsame.mono (by decide) (by decide)⟩
  · show Steps p.tables e below (s₁.setTop (mkF m 0 #[.val (.ref a1)] [])) _
    refine XS.aloadN X0.here hx rfl (hb hby d1_0) rfl rfl ?_
    show Steps p.tables e below (s₁.setTop (mkF m 1 #[.val (.ref a1)] [(.ref a1)])) _
    refine st2 _ ?_
    show Steps p.tables e below (T2.setTop (mkF m 4 #[.val (.ref a1)] [])) _
    refine XS.aloadN X2.here hx rfl (hb hby d1_4) rfl rfl ?_
    show Steps p.tables e below (T2.setTop (mkF m 5 #[.val (.ref a1)] [(.ref a1)])) _
    refine st4 _ ?_
    show Steps p.tables e below (T4.setTop (mkF m 8 #[.val (.ref a1)] [(.ref st), (.ref a1)])) _
    refine st5 _ ?_
    show Steps p.tables e below (T5.setTop (mkF m 11 #[.val (.ref a1)] [])) _
    refine XS.aloadN X5.here hx rfl (hb hby d1_11) rfl rfl ?_
    show Steps p.tables e below (T5.setTop (mkF m 12 #[.val (.ref a1)] [(.ref a1)])) _
    refine X5.ldc2Long hx hown (mvT hZ (hw _ (List.mem_of_getElem? (i := 13) rfl))) (g := (mkF m 12 #[.val (.ref a1)] [(.ref a1)])) rfl (hb hby d1_12) _ ?_
    show Steps p.tables e below (T5.setTop (mkF m 15 #[.val (.ref a1)] [(.long (9223372036854775807 : Int64)), (.ref a1)])) _
    refine st6 _ ?_
    show Steps p.tables e below (T6.setTop (mkF m 18 #[.val (.ref a1)] [])) _
    exact X6.returnOut hx Bd.returns (hb hby d1_18) hr
  · show QV _ _ n0 _ T6.heap _
    rw [e6]
    exact ⟨rfl, N6, K6, B6⟩
theorem d3_0 : decode prog_3_method_3_code 0 = .ok (.iload_n 1, 1) := by decide +kernel
theorem d3_1 : decode prog_3_method_3_code 1 = .ok (.iconst 1, 1) := by decide +kernel
theorem d3_2 : decode prog_3_method_3_code 2 = .ok (.if_icmp .ge 17, 3) := by decide +kernel
theorem d3_19 : decode prog_3_method_3_code 19 = .ok (.aload_n 0, 1) := by decide +kernel
theorem d3_20 : decode prog_3_method_3_code 20 = .ok (.aload_n 0, 1) := by decide +kernel
theorem d3_21 : decode prog_3_method_3_code 21 = .ok (.getfield 37, 3) := by decide +kernel
theorem d3_24 : decode prog_3_method_3_code 24 = .ok (.iload_n 1, 1) := by decide +kernel
theorem d3_25 : decode prog_3_method_3_code 25 = .ok (.invokestatic 40, 3) := by decide +kernel
theorem d3_28 : decode prog_3_method_3_code 28 = .ok (.putfield 37, 3) := by decide +kernel
theorem d3_31 : decode prog_3_method_3_code 31 = .ok (.aload_n 0, 1) := by decide +kernel
theorem d3_32 : decode prog_3_method_3_code 32 = .ok (.aload_n 0, 1) := by decide +kernel
theorem d3_33 : decode prog_3_method_3_code 33 = .ok (.getfield 46, 3) := by decide +kernel
theorem d3_36 : decode prog_3_method_3_code 36 = .ok (.lload_n 2, 1) := by decide +kernel
theorem d3_37 : decode prog_3_method_3_code 37 = .ok (.invokestatic 49, 3) := by decide +kernel
theorem d3_40 : decode prog_3_method_3_code 40 = .ok (.putfield 46, 3) := by decide +kernel
theorem d3_43 : decode prog_3_method_3_code 43 = .ok (.return_, 1) := by decide +kernel
theorem pn_3 : plainName "com/example/throttl/throttl/Grants" = true := by first | (simp [plainName, overriddenIn]; done) | decide +kernel
theorem ef_3 (m : MethodId) (x0 : Addr) (x1 : Int32) (x2 : Int64) : entryFrame m #[(.ref x0), (.int x1), (.long x2)] 4 = mkF m 0 #[.val (.ref x0), .val (.int x1), .val (.long x2), .second] [] := by first | (simp [entryFrame, mkF, argsToLocals, Value.category]; done) | rfl
set_option maxRecDepth 65536 in
set_option maxHeartbeats 40000000 in
theorem rm3_t (l : Launch) (Z : State) (a0 : Array Value) (hw : ∀ d ∈ tables_1, d.before a0 Z = true) (ws : List Jvm.Cond) (a1 : Addr) (p2 : Int32) (q3 : Int64) (kp : Int32) (sz : Int32) (od : Int32) (fg : Int64) (km : Int64) (iv : Value) (h0 : Heap) (n0 : Nat) (Z0 : n0 ≤ h0.size) (B0 : GB Z h0 a1 kp sz od fg km iv) (g_a1 : n0 ≤ a1) (hmi : kp < p2) (hmj : (lcmpW km q3) < (0 : Int32)) (hc2 : ¬ (p2 < (1 : Int32))) :
    MetFree l (⟨"com/example/throttl/throttl/Grants", "keepFor", "(IJ)V"⟩ : MethodName) (head1 (Jvm.Cond.code (⟨"com/example/throttl/throttl/Grants", "keepFor", "(IJ)V"⟩ : MethodName) prog_3_method_3_code 4 none :: ws) ({ frames := 1, cells := 0, slots := 0, locals := 32 } : Room)) (fun a U => a = #[(.ref a1), (.int p2), (.long q3)] ∧ Z.Warmed39 U.vm ∧ U.heap = h0) (fun _ _ _ _ _ => True) (fun _ U o U' => ∃ v L, o = .returned v ∧ QV none (fun h => Keep h0 h [a1] ∧ ∃ km, GB Z h a1 p2 sz od fg km iv) n0 v U'.heap L ∧ FrameEnd U o U' L ({ frames := 1, cells := 0, slots := 0, locals := 32 } : Room).cells ({ frames := 1, cells := 0, slots := 0, locals := 32 } : Room).slots) := by
  refine MetFree.of_bodySF (plainFor_of_name pn_3) hisR ?_
  intro p e s m args below meth c s₁ Bd hml0 hP hK
  obtain ⟨rfl, hZ, hh⟩ := hP
  have hx := Bd.exec
  have hby := Bd.bytes
  have hml : c.maxLocals = 4 := hml0
  have hown : s.vm.findClass "com/example/throttl/throttl/Grants" = some m.cls := findClass_of_methodNamed Bd.named
  have hnm := (name_of_methodNamed Bd.named Bd.method).1
  have X0 : Stand p l e ({ frames := 1, cells := 0, slots := 0, locals := 32 } : Room) s m #[(.ref a1), (.int p2), (.long q3)] below meth c s₁ [] 0 0 := Stand.of_body Bd
  have e0 : s₁.heap = h0 := by rw [← hh, Bd.state]; rfl
  have N0 := Fr.nil n0
  have pre0 : ∀ t, Steps p.tables e below (s₁.setTop (mkF m 0 #[.val (.ref a1), .val (.int p2), .val (.long q3), .second] [])) t → Steps p.tables e below (s₁.setTop (entryFrame m #[(.ref a1), (.int p2), (.long q3)] 4)) t := fun t k => castTop (ef_3 m a1 p2 q3) k
  obtain ⟨T5, X5, e5, st5⟩ := getF X0 hx hZ hown (host := "") (Or.inl (hw _ (List.mem_of_getElem? (i := 21) rfl))) Via.refl e0 B0.2.1 (g := (mkF m 21 #[.val (.ref a1), .val (.int p2), .val (.long q3), .second] [(.ref a1), (.ref a1)])) rfl rfl (hb hby d3_21)
  obtain ⟨_, _, ⟨T6, L6, k6, n6⟩, -, X6, ⟨Lc6, hQ6, l6, y6, z6⟩, st6⟩ := Jvm.LawKit.callS X5 hx (y := (⟨"java/lang/Math", "max", "(II)I"⟩ : MethodName)) hown (mvT hZ (hw _ (List.mem_of_getElem? (i := 23) rfl))) (mvT hZ (hw _ (List.mem_of_getElem? (i := 24) rfl))) (mvT hZ (hw _ (List.mem_of_getElem? (i := 25) rfl))) (mvT hZ (hw _ (List.mem_of_getElem? (i := 26) rfl))) (by decide) (backOf (W := 1) (rm4_t l Z a0 hw [] kp p2 h0 n0 Z0 hmi) hZ (hw _ (List.mem_of_getElem? (i := 26) rfl)) (hw _ (List.mem_of_getElem? (i := 25) rfl)) (by decide) (by decide)) (g := (mkF m 25 #[.val (.ref a1), .val (.int p2), .val (.long q3), .second] [(.int p2), (.int kp), (.ref a1)])) rfl (by rw [hml]; rfl) (argsL := [(.int kp), (.int p2)]) (rest := [(.ref a1)]) (lenOf pd_9_2 rfl) rfl (by show 2 * 0 + _ ≤ _; exact Nat.le_of_eq rfl) (hb hby d3_25) (fun _ _ => ⟨rfl, e5, (by decide : 0 + 0 ≤ _), (by decide : 0 + 0 ≤ _)⟩)
  dsimp only [Pt.U, Pt.locs, Pt.cells, Pt.slots] at X6 l6 y6 z6 st6 hQ6
  subst l6 y6 z6
  obtain ⟨rfl, N6q, hh6⟩ := hQ6
  have N6 := Fr.app N0 N6q
  obtain ⟨T7, h7, X7, e7, W7, st7⟩ := putF X6 hx hZ hown (host := "") (Or.inl (hw _ (List.mem_of_getElem? (i := 21) rfl))) Via.refl hh6 B0.2.1 B0.1 (Or.inl (hw _ (List.mem_of_getElem? (i := 22) rfl))) (hw _ (List.mem_of_getElem? (i := 1) rfl)) (ty := .int) (by decide) rfl rfl (g := (mkF m 28 #[.val (.ref a1), .val (.int p2), .val (.long q3), .second] [(.int p2), (.ref a1)])) rfl rfl (hb hby d3_28)
  have B7 := own_w_keep hw W7 B0
  have K7 : Keep h0 h7 [a1] := (Keep.refl h0 [a1]).wr W7 (Or.inl (List.mem_of_getElem? (i := 0) rfl))
  have N7 := Fr.snoc X7 N6 g_a1
  obtain ⟨T9, X9, e9, st9⟩ := getF X7 hx hZ hown (host := "") (Or.inl (hw _ (List.mem_of_getElem? (i := 27) rfl))) Via.refl e7 B7.2.2.2.2.2.1 (g := (mkF m 33 #[.val (.ref a1), .val (.int p2), .val (.long q3), .second] [(.ref a1), (.ref a1)])) rfl rfl (hb hby d3_33)
  obtain ⟨_, _, ⟨T10, L10, k10, n10⟩, -, X10, ⟨Lc10, hQ10, l10, y10, z10⟩, st10⟩ := Jvm.LawKit.callS X9 hx (y := (⟨"java/lang/Math", "max", "(JJ)J"⟩ : MethodName)) hown (mvT hZ (hw _ (List.mem_of_getElem? (i := 29) rfl))) (mvT hZ (hw _ (List.mem_of_getElem? (i := 30) rfl))) (mvT hZ (hw _ (List.mem_of_getElem? (i := 25) rfl))) (mvT hZ (hw _ (List.mem_of_getElem? (i := 31) rfl))) (by decide) (backOf (W := 1) (rm5_t l Z a0 hw [] km q3 h7 n0 (Nat.le_trans Z0 K7.1) hmj) hZ (hw _ (List.mem_of_getElem? (i := 31) rfl)) (hw _ (List.mem_of_getElem? (i := 25) rfl)) (by decide) (by decide)) (g := (mkF m 37 #[.val (.ref a1), .val (.int p2), .val (.long q3), .second] [(.long q3), (.long km), (.ref a1)])) rfl (by rw [hml]; rfl) (argsL := [(.long km), (.long q3)]) (rest := [(.ref a1)]) (lenOf pd_7_3 rfl) rfl (by show 2 * 0 + _ ≤ _; exact Nat.le_of_eq rfl) (hb hby d3_37) (fun _ _ => ⟨rfl, e9, (by decide : 0 + 0 ≤ _), (by decide : 0 + 0 ≤ _)⟩)
  dsimp only [Pt.U, Pt.locs, Pt.cells, Pt.slots] at X10 l10 y10 z10 st10 hQ10
  subst l10 y10 z10
  obtain ⟨rfl, N10q, hh10⟩ := hQ10
  have N10 := Fr.app N7 N10q
  obtain ⟨T11, h11, X11, e11, W11, st11⟩ := putF X10 hx hZ hown (host := "") (Or.inl (hw _ (List.mem_of_getElem? (i := 27) rfl))) Via.refl hh10 B7.2.2.2.2.2.1 B7.1 (Or.inl (hw _ (List.mem_of_getElem? (i := 28) rfl))) (hw _ (List.mem_of_getElem? (i := 1) rfl)) (ty := .long) (by decide) rfl rfl (g := (mkF m 40 #[.val (.ref a1), .val (.int p2), .val (.long q3), .second] [(.long q3), (.ref a1)])) rfl rfl (hb hby d3_40)
  have B11 := own_w_keptForMillis hw W11 B7
  have K11 : Keep h0 h11 [a1] := K7.wr W11 (Or.inl (List.mem_of_getElem? (i := 0) rfl))
  have N11 := Fr.snoc X11 N10 g_a1
  obtain ⟨fs, hr, hrun, hended, hW, hsame⟩ := X11.leave (v := none) (fun _ => rfl)
  refine ⟨_, _, pre0 _ ?_, hrun, hended, _, _, rfl, ?_, ⟨_, rfl⟩, hW, hsame.mono (by decide) (by decide)⟩
  · show Steps p.tables e below (s₁.setTop (mkF m 0 #[.val (.ref a1), .val (.int p2), .val (.long q3), .second] [])) _
    refine XS.iloadN X0.here hx rfl (hb hby d3_0) rfl ?_
    show Steps p.tables e below (s₁.setTop (mkF m 1 #[.val (.ref a1), .val (.int p2), .val (.long q3), .second] [(.int p2)])) _
    refine XS.iconst X0.here hx rfl (hb hby d3_1) ?_
    show Steps p.tables e below (s₁.setTop (mkF m 2 #[.val (.ref a1), .val (.int p2), .val (.long q3), .second] [(.int (1 : Int32)), (.int p2)])) _
    refine XS.icmpYes X0.here hx rfl (pc0 := 2) (pc' := 19) rfl (hb hby d3_2) rfl (flt hc2).2.1 (by decide) (by decide) ?_
    show Steps p.tables e below (s₁.setTop (mkF m 19 #[.val (.ref a1), .val (.int p2), .val (.long q3), .second] [])) _
    refine XS.aloadN X0.here hx rfl (hb hby d3_19) rfl rfl ?_
    show Steps p.tables e below (s₁.setTop (mkF m 20 #[.val (.ref a1), .val (.int p2), .val (.long q3), .second] [(.ref a1)])) _
    refine XS.aloadN X0.here hx rfl (hb hby d3_20) rfl rfl ?_
    show Steps p.tables e below (s₁.setTop (mkF m 21 #[.val (.ref a1), .val (.int p2), .val (.long q3), .second] [(.ref a1), (.ref a1)])) _
    refine st5 _ ?_
    show Steps p.tables e below (T5.setTop (mkF m 24 #[.val (.ref a1), .val (.int p2), .val (.long q3), .second] [(.int kp), (.ref a1)])) _
    refine XS.iloadN X5.here hx rfl (hb hby d3_24) rfl ?_
    show Steps p.tables e below (T5.setTop (mkF m 25 #[.val (.ref a1), .val (.int p2), .val (.long q3), .second] [(.int p2), (.int kp), (.ref a1)])) _
    refine st6 _ ?_
    show Steps p.tables e below (T6.setTop (mkF m 28 #[.val (.ref a1), .val (.int p2), .val (.long q3), .second] [(.int p2), (.ref a1)])) _
    refine st7 _ ?_
    show Steps p.tables e below (T7.setTop (mkF m 31 #[.val (.ref a1), .val (.int p2), .val (.long q3), .second] [])) _
    refine XS.aloadN X7.here hx rfl (hb hby d3_31) rfl rfl ?_
    show Steps p.tables e below (T7.setTop (mkF m 32 #[.val (.ref a1), .val (.int p2), .val (.long q3), .second] [(.ref a1)])) _
    refine XS.aloadN X7.here hx rfl (hb hby d3_32) rfl rfl ?_
    show Steps p.tables e below (T7.setTop (mkF m 33 #[.val (.ref a1), .val (.int p2), .val (.long q3), .second] [(.ref a1), (.ref a1)])) _
    refine st9 _ ?_
    show Steps p.tables e below (T9.setTop (mkF m 36 #[.val (.ref a1), .val (.int p2), .val (.long q3), .second] [(.long km), (.ref a1)])) _
    refine XS.lloadN X9.here hx rfl (hb hby d3_36) rfl ?_
    show Steps p.tables e below (T9.setTop (mkF m 37 #[.val (.ref a1), .val (.int p2), .val (.long q3), .second] [(.long q3), (.long km), (.ref a1)])) _
    refine st10 _ ?_
    show Steps p.tables e below (T10.setTop (mkF m 40 #[.val (.ref a1), .val (.int p2), .val (.long q3), .second] [(.long q3), (.ref a1)])) _
    refine st11 _ ?_
    show Steps p.tables e below (T11.setTop (mkF m 43 #[.val (.ref a1), .val (.int p2), .val (.long q3), .second] [])) _
    exact X11.returnOut hx Bd.returns (hb hby d3_43) hr
  · show QV _ _ n0 _ T11.heap _
    rw [e11]
    exact ⟨rfl, N11, K11, _, B11⟩
set_option maxRecDepth 65536 in
set_option maxHeartbeats 40000000 in
theorem rm3_f (l : Launch) (Z : State) (a0 : Array Value) (hw : ∀ d ∈ tables_1, d.before a0 Z = true) (ws : List Jvm.Cond) (a1 : Addr) (p2 : Int32) (q3 : Int64) (kp : Int32) (sz : Int32) (od : Int32) (fg : Int64) (km : Int64) (iv : Value) (h0 : Heap) (n0 : Nat) (Z0 : n0 ≤ h0.size) (B0 : GB Z h0 a1 kp sz od fg km iv) (g_a1 : n0 ≤ a1) (hmi : kp < p2) (hmj : ¬ ((lcmpW km q3) < (0 : Int32))) (hc2 : ¬ (p2 < (1 : Int32))) :
    MetFree l (⟨"com/example/throttl/throttl/Grants", "keepFor", "(IJ)V"⟩ : MethodName) (head1 (Jvm.Cond.code (⟨"com/example/throttl/throttl/Grants", "keepFor", "(IJ)V"⟩ : MethodName) prog_3_method_3_code 4 none :: ws) ({ frames := 1, cells := 0, slots := 0, locals := 32 } : Room)) (fun a U => a = #[(.ref a1), (.int p2), (.long q3)] ∧ Z.Warmed39 U.vm ∧ U.heap = h0) (fun _ _ _ _ _ => True) (fun _ U o U' => ∃ v L, o = .returned v ∧ QV none (fun h => Keep h0 h [a1] ∧ ∃ km, GB Z h a1 p2 sz od fg km iv) n0 v U'.heap L ∧ FrameEnd U o U' L ({ frames := 1, cells := 0, slots := 0, locals := 32 } : Room).cells ({ frames := 1, cells := 0, slots := 0, locals := 32 } : Room).slots) := by
  refine MetFree.of_bodySF (plainFor_of_name pn_3) hisR ?_
  intro p e s m args below meth c s₁ Bd hml0 hP hK
  obtain ⟨rfl, hZ, hh⟩ := hP
  have hx := Bd.exec
  have hby := Bd.bytes
  have hml : c.maxLocals = 4 := hml0
  have hown : s.vm.findClass "com/example/throttl/throttl/Grants" = some m.cls := findClass_of_methodNamed Bd.named
  have hnm := (name_of_methodNamed Bd.named Bd.method).1
  have X0 : Stand p l e ({ frames := 1, cells := 0, slots := 0, locals := 32 } : Room) s m #[(.ref a1), (.int p2), (.long q3)] below meth c s₁ [] 0 0 := Stand.of_body Bd
  have e0 : s₁.heap = h0 := by rw [← hh, Bd.state]; rfl
  have N0 := Fr.nil n0
  have pre0 : ∀ t, Steps p.tables e below (s₁.setTop (mkF m 0 #[.val (.ref a1), .val (.int p2), .val (.long q3), .second] [])) t → Steps p.tables e below (s₁.setTop (entryFrame m #[(.ref a1), (.int p2), (.long q3)] 4)) t := fun t k => castTop (ef_3 m a1 p2 q3) k
  obtain ⟨T5, X5, e5, st5⟩ := getF X0 hx hZ hown (host := "") (Or.inl (hw _ (List.mem_of_getElem? (i := 21) rfl))) Via.refl e0 B0.2.1 (g := (mkF m 21 #[.val (.ref a1), .val (.int p2), .val (.long q3), .second] [(.ref a1), (.ref a1)])) rfl rfl (hb hby d3_21)
  obtain ⟨_, _, ⟨T6, L6, k6, n6⟩, -, X6, ⟨Lc6, hQ6, l6, y6, z6⟩, st6⟩ := Jvm.LawKit.callS X5 hx (y := (⟨"java/lang/Math", "max", "(II)I"⟩ : MethodName)) hown (mvT hZ (hw _ (List.mem_of_getElem? (i := 23) rfl))) (mvT hZ (hw _ (List.mem_of_getElem? (i := 24) rfl))) (mvT hZ (hw _ (List.mem_of_getElem? (i := 25) rfl))) (mvT hZ (hw _ (List.mem_of_getElem? (i := 26) rfl))) (by decide) (backOf (W := 1) (rm4_t l Z a0 hw [] kp p2 h0 n0 Z0 hmi) hZ (hw _ (List.mem_of_getElem? (i := 26) rfl)) (hw _ (List.mem_of_getElem? (i := 25) rfl)) (by decide) (by decide)) (g := (mkF m 25 #[.val (.ref a1), .val (.int p2), .val (.long q3), .second] [(.int p2), (.int kp), (.ref a1)])) rfl (by rw [hml]; rfl) (argsL := [(.int kp), (.int p2)]) (rest := [(.ref a1)]) (lenOf pd_9_2 rfl) rfl (by show 2 * 0 + _ ≤ _; exact Nat.le_of_eq rfl) (hb hby d3_25) (fun _ _ => ⟨rfl, e5, (by decide : 0 + 0 ≤ _), (by decide : 0 + 0 ≤ _)⟩)
  dsimp only [Pt.U, Pt.locs, Pt.cells, Pt.slots] at X6 l6 y6 z6 st6 hQ6
  subst l6 y6 z6
  obtain ⟨rfl, N6q, hh6⟩ := hQ6
  have N6 := Fr.app N0 N6q
  obtain ⟨T7, h7, X7, e7, W7, st7⟩ := putF X6 hx hZ hown (host := "") (Or.inl (hw _ (List.mem_of_getElem? (i := 21) rfl))) Via.refl hh6 B0.2.1 B0.1 (Or.inl (hw _ (List.mem_of_getElem? (i := 22) rfl))) (hw _ (List.mem_of_getElem? (i := 1) rfl)) (ty := .int) (by decide) rfl rfl (g := (mkF m 28 #[.val (.ref a1), .val (.int p2), .val (.long q3), .second] [(.int p2), (.ref a1)])) rfl rfl (hb hby d3_28)
  have B7 := own_w_keep hw W7 B0
  have K7 : Keep h0 h7 [a1] := (Keep.refl h0 [a1]).wr W7 (Or.inl (List.mem_of_getElem? (i := 0) rfl))
  have N7 := Fr.snoc X7 N6 g_a1
  obtain ⟨T9, X9, e9, st9⟩ := getF X7 hx hZ hown (host := "") (Or.inl (hw _ (List.mem_of_getElem? (i := 27) rfl))) Via.refl e7 B7.2.2.2.2.2.1 (g := (mkF m 33 #[.val (.ref a1), .val (.int p2), .val (.long q3), .second] [(.ref a1), (.ref a1)])) rfl rfl (hb hby d3_33)
  obtain ⟨_, _, ⟨T10, L10, k10, n10⟩, -, X10, ⟨Lc10, hQ10, l10, y10, z10⟩, st10⟩ := Jvm.LawKit.callS X9 hx (y := (⟨"java/lang/Math", "max", "(JJ)J"⟩ : MethodName)) hown (mvT hZ (hw _ (List.mem_of_getElem? (i := 29) rfl))) (mvT hZ (hw _ (List.mem_of_getElem? (i := 30) rfl))) (mvT hZ (hw _ (List.mem_of_getElem? (i := 25) rfl))) (mvT hZ (hw _ (List.mem_of_getElem? (i := 31) rfl))) (by decide) (backOf (W := 1) (rm5_f l Z a0 hw [] km q3 h7 n0 (Nat.le_trans Z0 K7.1) hmj) hZ (hw _ (List.mem_of_getElem? (i := 31) rfl)) (hw _ (List.mem_of_getElem? (i := 25) rfl)) (by decide) (by decide)) (g := (mkF m 37 #[.val (.ref a1), .val (.int p2), .val (.long q3), .second] [(.long q3), (.long km), (.ref a1)])) rfl (by rw [hml]; rfl) (argsL := [(.long km), (.long q3)]) (rest := [(.ref a1)]) (lenOf pd_7_3 rfl) rfl (by show 2 * 0 + _ ≤ _; exact Nat.le_of_eq rfl) (hb hby d3_37) (fun _ _ => ⟨rfl, e9, (by decide : 0 + 0 ≤ _), (by decide : 0 + 0 ≤ _)⟩)
  dsimp only [Pt.U, Pt.locs, Pt.cells, Pt.slots] at X10 l10 y10 z10 st10 hQ10
  subst l10 y10 z10
  obtain ⟨rfl, N10q, hh10⟩ := hQ10
  have N10 := Fr.app N7 N10q
  obtain ⟨T11, h11, X11, e11, W11, st11⟩ := putF X10 hx hZ hown (host := "") (Or.inl (hw _ (List.mem_of_getElem? (i := 27) rfl))) Via.refl hh10 B7.2.2.2.2.2.1 B7.1 (Or.inl (hw _ (List.mem_of_getElem? (i := 28) rfl))) (hw _ (List.mem_of_getElem? (i := 1) rfl)) (ty := .long) (by decide) rfl rfl (g := (mkF m 40 #[.val (.ref a1), .val (.int p2), .val (.long q3), .second] [(.long km), (.ref a1)])) rfl rfl (hb hby d3_40)
  have B11 := own_w_keptForMillis hw W11 B7
  have K11 : Keep h0 h11 [a1] := K7.wr W11 (Or.inl (List.mem_of_getElem? (i := 0) rfl))
  have N11 := Fr.snoc X11 N10 g_a1
  obtain ⟨fs, hr, hrun, hended, hW, hsame⟩ := X11.leave (v := none) (fun _ => rfl)
  refine ⟨_, _, pre0 _ ?_, hrun, hended, _, _, rfl, ?_, ⟨_, rfl⟩, hW, hsame.mono (by decide) (by decide)⟩
  · show Steps p.tables e below (s₁.setTop (mkF m 0 #[.val (.ref a1), .val (.int p2), .val (.long q3), .second] [])) _
    refine XS.iloadN X0.here hx rfl (hb hby d3_0) rfl ?_
    show Steps p.tables e below (s₁.setTop (mkF m 1 #[.val (.ref a1), .val (.int p2), .val (.long q3), .second] [(.int p2)])) _
    refine XS.iconst X0.here hx rfl (hb hby d3_1) ?_
    show Steps p.tables e below (s₁.setTop (mkF m 2 #[.val (.ref a1), .val (.int p2), .val (.long q3), .second] [(.int (1 : Int32)), (.int p2)])) _
    refine XS.icmpYes X0.here hx rfl (pc0 := 2) (pc' := 19) rfl (hb hby d3_2) rfl (flt hc2).2.1 (by decide) (by decide) ?_
    show Steps p.tables e below (s₁.setTop (mkF m 19 #[.val (.ref a1), .val (.int p2), .val (.long q3), .second] [])) _
    refine XS.aloadN X0.here hx rfl (hb hby d3_19) rfl rfl ?_
    show Steps p.tables e below (s₁.setTop (mkF m 20 #[.val (.ref a1), .val (.int p2), .val (.long q3), .second] [(.ref a1)])) _
    refine XS.aloadN X0.here hx rfl (hb hby d3_20) rfl rfl ?_
    show Steps p.tables e below (s₁.setTop (mkF m 21 #[.val (.ref a1), .val (.int p2), .val (.long q3), .second] [(.ref a1), (.ref a1)])) _
    refine st5 _ ?_
    show Steps p.tables e below (T5.setTop (mkF m 24 #[.val (.ref a1), .val (.int p2), .val (.long q3), .second] [(.int kp), (.ref a1)])) _
    refine XS.iloadN X5.here hx rfl (hb hby d3_24) rfl ?_
    show Steps p.tables e below (T5.setTop (mkF m 25 #[.val (.ref a1), .val (.int p2), .val (.long q3), .second] [(.int p2), (.int kp), (.ref a1)])) _
    refine st6 _ ?_
    show Steps p.tables e below (T6.setTop (mkF m 28 #[.val (.ref a1), .val (.int p2), .val (.long q3), .second] [(.int p2), (.ref a1)])) _
    refine st7 _ ?_
    show Steps p.tables e below (T7.setTop (mkF m 31 #[.val (.ref a1), .val (.int p2), .val (.long q3), .second] [])) _
    refine XS.aloadN X7.here hx rfl (hb hby d3_31) rfl rfl ?_
    show Steps p.tables e below (T7.setTop (mkF m 32 #[.val (.ref a1), .val (.int p2), .val (.long q3), .second] [(.ref a1)])) _
    refine XS.aloadN X7.here hx rfl (hb hby d3_32) rfl rfl ?_
    show Steps p.tables e below (T7.setTop (mkF m 33 #[.val (.ref a1), .val (.int p2), .val (.long q3), .second] [(.ref a1), (.ref a1)])) _
    refine st9 _ ?_
    show Steps p.tables e below (T9.setTop (mkF m 36 #[.val (.ref a1), .val (.int p2), .val (.long q3), .second] [(.long km), (.ref a1)])) _
    refine XS.lloadN X9.here hx rfl (hb hby d3_36) rfl ?_
    show Steps p.tables e below (T9.setTop (mkF m 37 #[.val (.ref a1), .val (.int p2), .val (.long q3), .second] [(.long q3), (.long km), (.ref a1)])) _
    refine st10 _ ?_
    show Steps p.tables e below (T10.setTop (mkF m 40 #[.val (.ref a1), .val (.int p2), .val (.long q3), .second] [(.long km), (.ref a1)])) _
    refine st11 _ ?_
    show Steps p.tables e below (T11.setTop (mkF m 43 #[.val (.ref a1), .val (.int p2), .val (.long q3), .second] [])) _
    exact X11.returnOut hx Bd.returns (hb hby d3_43) hr
  · show QV _ _ n0 _ T11.heap _
    rw [e11]
    exact ⟨rfl, N11, K11, _, B11⟩
def own_vs (n j : Nat) (b : Int64) : List Value := List.replicate (min j n) (.long b) ++ List.replicate (n - min j n) (.long 0)
def own_n1 (n j : Nat) : Prop := ¬ ((Int32.ofNat n) < (1 : Int32)) ∧ (0 : Int32) < (Int32.ofNat (min j n)) ∧ (¬ (((((Int32.ofNat ((j - min j n) % n)) + (Int32.ofNat (min j n))) - (1 : Int32)) % (Int32.ofNat n)) < 0) ∧ ((((Int32.ofNat ((j - min j n) % n)) + (Int32.ofNat (min j n))) - (1 : Int32)) % (Int32.ofNat n)) < (Int32.ofNat n)) ∧ ((((Int32.ofNat ((j - min j n) % n)) + (Int32.ofNat (min j n))) - (1 : Int32)) % (Int32.ofNat n)).toNatClampNeg = (j - 1) % n ∧ ¬ ((0 : Int32) < (lcmpW ((1 : Int32).toInt64) (((Int32.ofNat (min j n)).toInt64) + (Int64.ofNat (j - min j n))))) ∧ ¬ ((Int32.ofNat (min j n)) < (1 : Int32)) ∧ (Int32.ofNat n) ≠ 0
def own_n2 (n j : Nat) : Prop := (Int32.ofNat (min j n)) < (Int32.ofNat n) ∧ ¬ ((Int32.ofNat (min j n)) = (Int32.ofNat n)) ∧ (¬ ((((Int32.ofNat ((j - min j n) % n)) + (Int32.ofNat (min j n))) % (Int32.ofNat n)) < 0) ∧ (((Int32.ofNat ((j - min j n) % n)) + (Int32.ofNat (min j n))) % (Int32.ofNat n)) < (Int32.ofNat n)) ∧ (((Int32.ofNat ((j - min j n) % n)) + (Int32.ofNat (min j n))) % (Int32.ofNat n)).toNatClampNeg = j % n ∧ (Int32.ofNat (min j n)) + (1 : Int32) = (Int32.ofNat (min (j + 1) n)) ∧ (Int32.ofNat ((j - min j n) % n)) = (Int32.ofNat (((j + 1) - min (j + 1) n) % n)) ∧ (Int64.ofNat (j - min j n)) = (Int64.ofNat ((j + 1) - min (j + 1) n))
def own_n3 (n j : Nat) : Prop := ¬ ((Int32.ofNat (min j n)) < (Int32.ofNat n)) ∧ ((Int32.ofNat (min j n)) - (1 : Int32)) < (Int32.ofNat n) ∧ ¬ (((Int32.ofNat (min j n)) - (1 : Int32)) = (Int32.ofNat n)) ∧ (¬ ((((((Int32.ofNat ((j - min j n) % n)) + (1 : Int32)) % (Int32.ofNat n)) + ((Int32.ofNat (min j n)) - (1 : Int32))) % (Int32.ofNat n)) < 0) ∧ (((((Int32.ofNat ((j - min j n) % n)) + (1 : Int32)) % (Int32.ofNat n)) + ((Int32.ofNat (min j n)) - (1 : Int32))) % (Int32.ofNat n)) < (Int32.ofNat n)) ∧ (((((Int32.ofNat ((j - min j n) % n)) + (1 : Int32)) % (Int32.ofNat n)) + ((Int32.ofNat (min j n)) - (1 : Int32))) % (Int32.ofNat n)).toNatClampNeg = j % n ∧ ((Int32.ofNat (min j n)) - (1 : Int32)) + (1 : Int32) = (Int32.ofNat (min (j + 1) n)) ∧ (((Int32.ofNat ((j - min j n) % n)) + (1 : Int32)) % (Int32.ofNat n)) = (Int32.ofNat (((j + 1) - min (j + 1) n) % n)) ∧ (Int64.ofNat (j - min j n)) + (1 : Int64) = (Int64.ofNat ((j + 1) - min (j + 1) n))
def own_n0 (n : Nat) : Prop := ¬ ((Int32.ofNat n) < (1 : Int32)) ∧ (0 : Int32) < (Int32.ofNat n) ∧ (Int32.ofNat n).toInt64.toInt32 = (Int32.ofNat n) ∧ ¬ ((Int32.ofNat n) < 0) ∧ (Int32.ofNat n).toNatClampNeg ≤ 8 ∧ ¬ ((0 : Int32) < (lcmpW ((Int32.ofNat n).toInt64) (16 : Int64))) ∧ (¬ ((((0 : Int32) + (0 : Int32)) % (Int32.ofNat n)) < 0) ∧ (((0 : Int32) + (0 : Int32)) % (Int32.ofNat n)) < (Int32.ofNat n)) ∧ (((0 : Int32) + (0 : Int32)) % (Int32.ofNat n)).toNatClampNeg = 0 ∧ (Int32.ofNat n) ≠ 0
theorem own_N0_0 : ∀ n < 9, 1 ≤ n → decide (¬ ((Int32.ofNat n) < (1 : Int32))) = true := by decide +kernel
theorem own_N0_1 : ∀ n < 9, 1 ≤ n → decide ((0 : Int32) < (Int32.ofNat n)) = true := by decide +kernel
theorem own_N0_2 : ∀ n < 9, 1 ≤ n → decide ((Int32.ofNat n).toInt64.toInt32 = (Int32.ofNat n)) = true := by decide +kernel
theorem own_N0_3 : ∀ n < 9, 1 ≤ n → decide (¬ ((Int32.ofNat n) < 0)) = true := by decide +kernel
theorem own_N0_4 : ∀ n < 9, 1 ≤ n → decide ((Int32.ofNat n).toNatClampNeg ≤ 8) = true := by decide +kernel
theorem own_N0_5 : ∀ n < 9, 1 ≤ n → decide (¬ ((0 : Int32) < (lcmpW ((Int32.ofNat n).toInt64) (16 : Int64)))) = true := by decide +kernel
theorem own_N0_6 : ∀ n < 9, 1 ≤ n → decide ((¬ ((((0 : Int32) + (0 : Int32)) % (Int32.ofNat n)) < 0) ∧ (((0 : Int32) + (0 : Int32)) % (Int32.ofNat n)) < (Int32.ofNat n))) = true := by decide +kernel
theorem own_N0_7 : ∀ n < 9, 1 ≤ n → decide ((((0 : Int32) + (0 : Int32)) % (Int32.ofNat n)).toNatClampNeg = 0) = true := by decide +kernel
theorem own_N0_8 : ∀ n < 9, 1 ≤ n → decide ((Int32.ofNat n) ≠ 0) = true := by decide +kernel
theorem own_N0 : ∀ n < 9, 1 ≤ n → own_n0 n := fun n hn h1 => ⟨of_decide_eq_true (own_N0_0 n hn h1), of_decide_eq_true (own_N0_1 n hn h1), of_decide_eq_true (own_N0_2 n hn h1), of_decide_eq_true (own_N0_3 n hn h1), of_decide_eq_true (own_N0_4 n hn h1), of_decide_eq_true (own_N0_5 n hn h1), of_decide_eq_true (own_N0_6 n hn h1), of_decide_eq_true (own_N0_7 n hn h1), of_decide_eq_true (own_N0_8 n hn h1)⟩
theorem own_N1_0 : ∀ n < 9, ∀ j < 7, 1 ≤ n → 1 ≤ j → decide (¬ ((Int32.ofNat n) < (1 : Int32))) = true := by decide +kernel
theorem own_N1_1 : ∀ n < 9, ∀ j < 7, 1 ≤ n → 1 ≤ j → decide ((0 : Int32) < (Int32.ofNat (min j n))) = true := by decide +kernel
theorem own_N1_2 : ∀ n < 9, ∀ j < 7, 1 ≤ n → 1 ≤ j → decide ((¬ (((((Int32.ofNat ((j - min j n) % n)) + (Int32.ofNat (min j n))) - (1 : Int32)) % (Int32.ofNat n)) < 0) ∧ ((((Int32.ofNat ((j - min j n) % n)) + (Int32.ofNat (min j n))) - (1 : Int32)) % (Int32.ofNat n)) < (Int32.ofNat n))) = true := by decide +kernel
theorem own_N1_3 : ∀ n < 9, ∀ j < 7, 1 ≤ n → 1 ≤ j → decide (((((Int32.ofNat ((j - min j n) % n)) + (Int32.ofNat (min j n))) - (1 : Int32)) % (Int32.ofNat n)).toNatClampNeg = (j - 1) % n) = true := by decide +kernel
theorem own_N1_4 : ∀ n < 9, ∀ j < 7, 1 ≤ n → 1 ≤ j → decide (¬ ((0 : Int32) < (lcmpW ((1 : Int32).toInt64) (((Int32.ofNat (min j n)).toInt64) + (Int64.ofNat (j - min j n)))))) = true := by decide +kernel
theorem own_N1_5 : ∀ n < 9, ∀ j < 7, 1 ≤ n → 1 ≤ j → decide (¬ ((Int32.ofNat (min j n)) < (1 : Int32))) = true := by decide +kernel
theorem own_N1_6 : ∀ n < 9, ∀ j < 7, 1 ≤ n → 1 ≤ j → decide ((Int32.ofNat n) ≠ 0) = true := by decide +kernel
theorem own_N1 : ∀ n < 9, ∀ j < 7, 1 ≤ n → 1 ≤ j → own_n1 n j := fun n hn j hj h1 h2 => ⟨of_decide_eq_true (own_N1_0 n hn j hj h1 h2), of_decide_eq_true (own_N1_1 n hn j hj h1 h2), of_decide_eq_true (own_N1_2 n hn j hj h1 h2), of_decide_eq_true (own_N1_3 n hn j hj h1 h2), of_decide_eq_true (own_N1_4 n hn j hj h1 h2), of_decide_eq_true (own_N1_5 n hn j hj h1 h2), of_decide_eq_true (own_N1_6 n hn j hj h1 h2)⟩
theorem own_N2_0 : ∀ n < 9, ∀ j < 7, 1 ≤ n → 1 ≤ j → j < n → decide ((Int32.ofNat (min j n)) < (Int32.ofNat n)) = true := by decide +kernel
theorem own_N2_1 : ∀ n < 9, ∀ j < 7, 1 ≤ n → 1 ≤ j → j < n → decide (¬ ((Int32.ofNat (min j n)) = (Int32.ofNat n))) = true := by decide +kernel
theorem own_N2_2 : ∀ n < 9, ∀ j < 7, 1 ≤ n → 1 ≤ j → j < n → decide ((¬ ((((Int32.ofNat ((j - min j n) % n)) + (Int32.ofNat (min j n))) % (Int32.ofNat n)) < 0) ∧ (((Int32.ofNat ((j - min j n) % n)) + (Int32.ofNat (min j n))) % (Int32.ofNat n)) < (Int32.ofNat n))) = true := by decide +kernel
theorem own_N2_3 : ∀ n < 9, ∀ j < 7, 1 ≤ n → 1 ≤ j → j < n → decide ((((Int32.ofNat ((j - min j n) % n)) + (Int32.ofNat (min j n))) % (Int32.ofNat n)).toNatClampNeg = j % n) = true := by decide +kernel
theorem own_N2_4 : ∀ n < 9, ∀ j < 7, 1 ≤ n → 1 ≤ j → j < n → decide ((Int32.ofNat (min j n)) + (1 : Int32) = (Int32.ofNat (min (j + 1) n))) = true := by decide +kernel
theorem own_N2_5 : ∀ n < 9, ∀ j < 7, 1 ≤ n → 1 ≤ j → j < n → decide ((Int32.ofNat ((j - min j n) % n)) = (Int32.ofNat (((j + 1) - min (j + 1) n) % n))) = true := by decide +kernel
theorem own_N2_6 : ∀ n < 9, ∀ j < 7, 1 ≤ n → 1 ≤ j → j < n → decide ((Int64.ofNat (j - min j n)) = (Int64.ofNat ((j + 1) - min (j + 1) n))) = true := by decide +kernel
theorem own_N2 : ∀ n < 9, ∀ j < 7, 1 ≤ n → 1 ≤ j → j < n → own_n2 n j := fun n hn j hj h1 h2 h3 => ⟨of_decide_eq_true (own_N2_0 n hn j hj h1 h2 h3), of_decide_eq_true (own_N2_1 n hn j hj h1 h2 h3), of_decide_eq_true (own_N2_2 n hn j hj h1 h2 h3), of_decide_eq_true (own_N2_3 n hn j hj h1 h2 h3), of_decide_eq_true (own_N2_4 n hn j hj h1 h2 h3), of_decide_eq_true (own_N2_5 n hn j hj h1 h2 h3), of_decide_eq_true (own_N2_6 n hn j hj h1 h2 h3)⟩
theorem own_N3_0 : ∀ n < 9, ∀ j < 7, 1 ≤ n → 1 ≤ j → ¬ (j < n) → decide (¬ ((Int32.ofNat (min j n)) < (Int32.ofNat n))) = true := by decide +kernel
theorem own_N3_1 : ∀ n < 9, ∀ j < 7, 1 ≤ n → 1 ≤ j → ¬ (j < n) → decide (((Int32.ofNat (min j n)) - (1 : Int32)) < (Int32.ofNat n)) = true := by decide +kernel
theorem own_N3_2 : ∀ n < 9, ∀ j < 7, 1 ≤ n → 1 ≤ j → ¬ (j < n) → decide (¬ (((Int32.ofNat (min j n)) - (1 : Int32)) = (Int32.ofNat n))) = true := by decide +kernel
theorem own_N3_3 : ∀ n < 9, ∀ j < 7, 1 ≤ n → 1 ≤ j → ¬ (j < n) → decide ((¬ ((((((Int32.ofNat ((j - min j n) % n)) + (1 : Int32)) % (Int32.ofNat n)) + ((Int32.ofNat (min j n)) - (1 : Int32))) % (Int32.ofNat n)) < 0) ∧ (((((Int32.ofNat ((j - min j n) % n)) + (1 : Int32)) % (Int32.ofNat n)) + ((Int32.ofNat (min j n)) - (1 : Int32))) % (Int32.ofNat n)) < (Int32.ofNat n))) = true := by decide +kernel
theorem own_N3_4 : ∀ n < 9, ∀ j < 7, 1 ≤ n → 1 ≤ j → ¬ (j < n) → decide ((((((Int32.ofNat ((j - min j n) % n)) + (1 : Int32)) % (Int32.ofNat n)) + ((Int32.ofNat (min j n)) - (1 : Int32))) % (Int32.ofNat n)).toNatClampNeg = j % n) = true := by decide +kernel
theorem own_N3_5 : ∀ n < 9, ∀ j < 7, 1 ≤ n → 1 ≤ j → ¬ (j < n) → decide (((Int32.ofNat (min j n)) - (1 : Int32)) + (1 : Int32) = (Int32.ofNat (min (j + 1) n))) = true := by decide +kernel
theorem own_N3_6 : ∀ n < 9, ∀ j < 7, 1 ≤ n → 1 ≤ j → ¬ (j < n) → decide ((((Int32.ofNat ((j - min j n) % n)) + (1 : Int32)) % (Int32.ofNat n)) = (Int32.ofNat (((j + 1) - min (j + 1) n) % n))) = true := by decide +kernel
theorem own_N3_7 : ∀ n < 9, ∀ j < 7, 1 ≤ n → 1 ≤ j → ¬ (j < n) → decide ((Int64.ofNat (j - min j n)) + (1 : Int64) = (Int64.ofNat ((j + 1) - min (j + 1) n))) = true := by decide +kernel
theorem own_N3 : ∀ n < 9, ∀ j < 7, 1 ≤ n → 1 ≤ j → ¬ (j < n) → own_n3 n j := fun n hn j hj h1 h2 h3 => ⟨of_decide_eq_true (own_N3_0 n hn j hj h1 h2 h3), of_decide_eq_true (own_N3_1 n hn j hj h1 h2 h3), of_decide_eq_true (own_N3_2 n hn j hj h1 h2 h3), of_decide_eq_true (own_N3_3 n hn j hj h1 h2 h3), of_decide_eq_true (own_N3_4 n hn j hj h1 h2 h3), of_decide_eq_true (own_N3_5 n hn j hj h1 h2 h3), of_decide_eq_true (own_N3_6 n hn j hj h1 h2 h3), of_decide_eq_true (own_N3_7 n hn j hj h1 h2 h3)⟩
theorem own_cases8 {n : Nat} (h1 : 1 ≤ n) (h2 : n < 9) : n = 1 ∨ n = 2 ∨ n = 3 ∨ n = 4 ∨ n = 5 ∨ n = 6 ∨ n = 7 ∨ n = 8 := by omega
theorem own_cases6 {j : Nat} (h1 : 1 ≤ j) (h2 : j < 7) : j = 1 ∨ j = 2 ∨ j = 3 ∨ j = 4 ∨ j = 5 ∨ j = 6 := by omega
theorem own_vs0 {n : Nat} (h1 : 1 ≤ n) (h2 : n < 9) (b : Int64) : (List.replicate n (Value.long 0)).set 0 (.long b) = own_vs n 1 b ∧ 0 < (List.replicate n (Value.long 0)).length := by
  rcases own_cases8 h1 h2 with rfl | rfl | rfl | rfl | rfl | rfl | rfl | rfl <;> exact ⟨rfl, by simp⟩
theorem own_vs1 {n j : Nat} (h1 : 1 ≤ n) (h2 : n < 9) (h3 : 1 ≤ j) (h4 : j < 7) (b : Int64) : (own_vs n j b).getD ((j - 1) % n) (.long 0) = .long b ∧ (own_vs n j b).set (j % n) (.long b) = own_vs n (j + 1) b ∧ j % n < (own_vs n j b).length := by
  rcases own_cases8 h1 h2 with rfl | rfl | rfl | rfl | rfl | rfl | rfl | rfl <;> rcases own_cases6 h3 h4 with rfl | rfl | rfl | rfl | rfl | rfl <;> exact ⟨rfl, rfl, Nat.le_of_ble_eq_true rfl⟩
def GSx (Z : State) (h : Heap) (g : Addr) (n j : Nat) (b : Int64) (n0 : Nat) : Prop := ∃ (km : Int64) (ar : Addr), GB Z h g (Int32.ofNat n) (Int32.ofNat (min j n)) (Int32.ofNat ((j - min j n) % n)) (Int64.ofNat (j - min j n)) km (.ref ar) ∧ ((j = 0 ∧ ∃ cl : Cell, Arr Z h ar cl .long ∧ cl.slots.size = 0) ∨ (1 ≤ j ∧ n0 ≤ ar ∧ ar ≠ g ∧ ∃ kA : ClassId, Arv Z h ar kA .long (Int32.ofNat n) (own_vs n j b) (.long 0)))
theorem GSx.exa {Z : State} {h : Heap} {g : Addr} {n j : Nat} {b : Int64} {n0 : Nat} (G : GSx Z h g n j b n0) : Exa Z h g "com/example/throttl/throttl/Grants" := by
  obtain ⟨_, _, B, -⟩ := G
  exact B.1
theorem own_addC (l : Launch) (Z : State) (a0 : Array Value) (hw : ∀ d ∈ tables_1, d.before a0 Z = true) (g : Addr) (b : Int64) (n j : Nat) (hn1 : 1 ≤ n) (hn8 : n < 9) (hj : j < 7) (h0 : Heap) (n0 : Nat) (Z0 : n0 ≤ h0.size) (g_a1 : n0 ≤ g) (G : GSx Z h0 g n j b n0) : MetFree l (⟨"com/example/throttl/throttl/Grants", "add", "(J)V"⟩ : MethodName) (head1 (Jvm.Cond.code (⟨"com/example/throttl/throttl/Grants", "add", "(J)V"⟩ : MethodName) prog_3_method_7_code 3 none :: []) ({ frames := 2, cells := 1, slots := 8, locals := 60 } : Room)) (fun a U => a = #[(.ref g), (.long b)] ∧ Z.Warmed39 U.vm ∧ U.heap = h0) (fun _ _ _ _ _ => True) (fun _ U o U' => ∃ v L, o = .returned v ∧ QV none (fun h => h0.size ≤ h.size ∧ GSx Z h g n (j + 1) b n0) n0 v U'.heap L ∧ FrameEnd U o U' L ({ frames := 2, cells := 1, slots := 8, locals := 60 } : Room).cells ({ frames := 2, cells := 1, slots := 8, locals := 60 } : Room).slots) := by
  obtain ⟨km, ar, B, hA⟩ := G
  rcases hA with ⟨rfl, cl, Ar, hcl⟩ | ⟨hj1, g_ar, ne_ar, kA, V⟩
  · obtain ⟨c1, c2, c3, c4, c5, c6, c7, c8, c9⟩ := own_N0 n hn8 hn1
    obtain ⟨v1, v2⟩ := own_vs0 hn1 hn8 b
    have m0 : min 0 n = 0 := Nat.zero_min n
    have B' : GB Z h0 g (Int32.ofNat n) (0 : Int32) (0 : Int32) (0 : Int64) km (.ref ar) := by
      rw [m0, Nat.sub_self, Nat.zero_mod] at B
      exact B
    refine rm6_first l Z a0 hw [] g b (Int32.ofNat n) (0 : Int64) km ar cl n h0 n0 Z0 B' Ar hcl (by decide) g_a1 c3 c4 c5 (by decide) c6 c7 c8 v2 (fun h => h0.size ≤ h.size ∧ GSx Z h g n (0 + 1) b n0) (fun h ar' kA hs q1 q2 B1 V1 => ⟨hs, km, ar', ?_, Or.inr ⟨Nat.le_refl _, q1, q2, kA, v1 ▸ V1⟩⟩) c1 (by decide) c2 rfl c9
    have m1 : min (0 + 1) n = 1 := Nat.min_eq_left hn1
    rw [m1, Nat.zero_add, Nat.sub_self, Nat.zero_mod]
    exact B1
  · obtain ⟨d1, d2, d3, d4, d5, d6, d7⟩ := own_N1 n hn8 j hj hn1 hj1
    obtain ⟨v1, v2, v3⟩ := own_vs1 hn1 hn8 hj1 hj b
    by_cases hjn : j < n
    · obtain ⟨e1, e2, e3, e4, e5, e6, e7⟩ := own_N2 n hn8 j hj hn1 hj1 hjn
      refine rm6_more l Z a0 hw [] g b (Int32.ofNat n) (Int32.ofNat (min j n)) (Int32.ofNat ((j - min j n) % n)) (Int64.ofNat (j - min j n)) km ar kA (Int32.ofNat n) (own_vs n j b) (j % n) h0 n0 Z0 B V g_a1 g_ar ne_ar d3 (by rw [d4]; exact v1) d5 d6 (by decide) d7 e3 e4 v3 (fun h => h0.size ≤ h.size ∧ GSx Z h g n (j + 1) b n0) (fun h hs B1 V1 => ⟨hs, km, ar, ?_, Or.inr ⟨Nat.le_add_left 1 j, g_ar, ne_ar, kA, v2 ▸ V1⟩⟩) d1 d2 e1 e2 d7
      rw [← e5, ← e6, ← e7]
      exact B1
    · obtain ⟨e1, e2, e3, e4, e5, e6, e7, e8⟩ := own_N3 n hn8 j hj hn1 hj1 hjn
      refine rm6_full l Z a0 hw [] g b (Int32.ofNat n) (Int32.ofNat (min j n)) (Int32.ofNat ((j - min j n) % n)) (Int64.ofNat (j - min j n)) km ar kA (Int32.ofNat n) (own_vs n j b) (j % n) h0 n0 Z0 B V g_a1 g_ar ne_ar d3 (by rw [d4]; exact v1) d5 d6 (by decide) d7 e4 e5 v3 (fun h => h0.size ≤ h.size ∧ GSx Z h g n (j + 1) b n0) (fun h hs B1 V1 => ⟨hs, km, ar, ?_, Or.inr ⟨Nat.le_add_left 1 j, g_ar, ne_ar, kA, v2 ▸ V1⟩⟩) d1 d2 e1 d7 e2 e3 d7
      rw [← e6, ← e7, ← e8]
      exact B1
theorem own_keepC (l : Launch) (Z : State) (a0 : Array Value) (hw : ∀ d ∈ tables_1, d.before a0 Z = true) (g : Addr) (p2 : Int32) (q3 : Int64) (kp : Int32) (sz : Int32) (od : Int32) (fg : Int64) (km : Int64) (iv : Value) (h0 : Heap) (n0 : Nat) (Z0 : n0 ≤ h0.size) (B0 : GB Z h0 g kp sz od fg km iv) (g_a1 : n0 ≤ g) (hmi : kp < p2) (hc2 : ¬ (p2 < (1 : Int32))) : MetFree l (⟨"com/example/throttl/throttl/Grants", "keepFor", "(IJ)V"⟩ : MethodName) (head1 (Jvm.Cond.code (⟨"com/example/throttl/throttl/Grants", "keepFor", "(IJ)V"⟩ : MethodName) prog_3_method_3_code 4 none :: []) ({ frames := 1, cells := 0, slots := 0, locals := 32 } : Room)) (fun a U => a = #[(.ref g), (.int p2), (.long q3)] ∧ Z.Warmed39 U.vm ∧ U.heap = h0) (fun _ _ _ _ _ => True) (fun _ U o U' => ∃ v L, o = .returned v ∧ QV none (fun h => Keep h0 h [g] ∧ ∃ km, GB Z h g p2 sz od fg km iv) n0 v U'.heap L ∧ FrameEnd U o U' L ({ frames := 1, cells := 0, slots := 0, locals := 32 } : Room).cells ({ frames := 1, cells := 0, slots := 0, locals := 32 } : Room).slots) := by
  by_cases q : (lcmpW km q3) < (0 : Int32)
  · exact rm3_t l Z a0 hw [] g p2 q3 kp sz od fg km iv h0 n0 Z0 B0 g_a1 hmi q hc2
  · exact rm3_f l Z a0 hw [] g p2 q3 kp sz od fg km iv h0 n0 Z0 B0 g_a1 hmi q hc2
def own_has (x k : Int32) : Int32 := if k < x then 0 else 1
theorem own_sum : ∀ n < 9, ∀ j < 8, 1 ≤ n → ((Int32.ofNat (min j n)).toInt64) + (Int64.ofNat (j - min j n)) = (Int32.ofNat j).toInt64 := by decide +kernel
theorem own_gt (x k : Int32) : (0 : Int32) < (lcmpW (x.toInt64) (k.toInt64)) ↔ k < x := by
  rw [lw_gt, Int64.lt_iff_toInt_lt, Int32.lt_iff_toInt_lt, Int32.toInt_toInt64, Int32.toInt_toInt64]
theorem own_hasC (l : Launch) (Z : State) (a0 : Array Value) (hw : ∀ d ∈ tables_1, d.before a0 Z = true) (g : Addr) (x : Int32) (b : Int64) (n j : Nat) (hn1 : 1 ≤ n) (hn8 : n < 9) (hj : j < 8) (h0 : Heap) (n0 : Nat) (Z0 : n0 ≤ h0.size) (G : GSx Z h0 g n j b n0) : MetFree l (⟨"com/example/throttl/throttl/Grants", "hasNthMostRecent", "(I)Z"⟩ : MethodName) (head1 (Jvm.Cond.code (⟨"com/example/throttl/throttl/Grants", "hasNthMostRecent", "(I)Z"⟩ : MethodName) prog_3_method_5_code 2 (some .boolean) :: []) ({ frames := 0, cells := 0, slots := 0, locals := 0 } : Room)) (fun a U => a = #[(.ref g), (.int x)] ∧ Z.Warmed39 U.vm ∧ U.heap = h0) (fun _ _ _ _ _ => True) (fun _ U o U' => ∃ v L, o = .returned v ∧ QV (some (.int (own_has x (Int32.ofNat j)))) (fun h => h = h0) n0 v U'.heap L ∧ FrameEnd U o U' L ({ frames := 0, cells := 0, slots := 0, locals := 0 } : Room).cells ({ frames := 0, cells := 0, slots := 0, locals := 0 } : Room).slots) := by
  obtain ⟨km, ar, B, -⟩ := G
  have e := own_sum n hn8 j hj hn1
  have r := own_gt x (Int32.ofNat j)
  rw [← e] at r
  by_cases q : (Int32.ofNat j) < x
  · have v : own_has x (Int32.ofNat j) = 0 := if_pos q
    rw [v]
    exact rm10_t l Z a0 hw [] g x _ _ _ _ km (.ref ar) h0 n0 Z0 B (r.mpr q)
  · have v : own_has x (Int32.ofNat j) = 1 := if_neg q
    rw [v]
    exact rm10_f l Z a0 hw [] g x _ _ _ _ km (.ref ar) h0 n0 Z0 B (fun z => q (r.mp z))
theorem os0_14_own_a_f {z0 : Value} {s1 : Slot} {s2 : Slot} {s3 : Slot} {s4 : Slot} {s5 : Slot} {s6 : Slot} {s7 : Slot} {s8 : Slot} {s9 : Slot} {s10 : Slot} {s11 : Slot} {v : Int32} (h : One s7) : storeLocals #[.val z0, s1, s2, s3, s4, s5, s6, s7, s8, s9, s10, s11] 7 (.int v) = some #[.val z0, s1, s2, s3, s4, s5, s6, .val (.int v), s8, s9, s10, s11] := by
  rcases h with rfl | ⟨w, rfl, hw⟩
  · rfl
  · cases w <;> first | rfl | (simp [Value.category] at hw)
set_option maxRecDepth 65536 in
set_option maxHeartbeats 40000000 in
theorem own_a_f {p : Program} {l : Launch} {e : Env} {R : Room} {s : State} {m : MethodId} {args : Array Value} {below : List Frame} {meth : Method} {c : Code} {T0 : State} {locs : List Loc} {cells slots : Nat} {Z : State} {a0 : Array Value} {h0 : Heap} (i0 : Int32) (s1 : Slot) (s2 : Slot) (s3 : Slot) (s4 : Slot) (s5 : Slot) (s6 : Slot) (s7 : Slot) (s8 : Slot) (s9 : Slot) (s10 : Slot) (s11 : Slot)
    (X0 : Stand p l e R s m args below meth c T0 locs cells slots) (hx : p.tables.exec = Jvm.exec) (hZ : Z.Warmed39 s.vm) (hw : ∀ d ∈ tables_1, d.before a0 Z = true) (hby : c.code = code) (hml : c.maxLocals = 12) (hown : s.vm.findClass "com/example/throttl/throttl/GrantsHasNthMostRecentPinLaw" = some m.cls) (e0 : T0.heap = h0) (hs7 : One s7) (hc1 : (0 : Int32) < i0) :
    ∀ target, Steps p.tables e below (T0.setTop (mkF m 16 #[.val (.int i0), s1, s2, s3, s4, s5, s6, .val (.int i0), s8, s9, s10, s11] [])) target → Steps p.tables e below (T0.setTop (mkF m 0 #[.val (.int i0), s1, s2, s3, s4, s5, s6, s7, s8, s9, s10, s11] [])) target := by

  intro target kt
  show Steps p.tables e below (T0.setTop (mkF m 0 #[.val (.int i0), s1, s2, s3, s4, s5, s6, s7, s8, s9, s10, s11] [])) _
  refine XS.iloadN X0.here hx rfl (hb hby at_0) rfl ?_
  show Steps p.tables e below (T0.setTop (mkF m 1 #[.val (.int i0), s1, s2, s3, s4, s5, s6, s7, s8, s9, s10, s11] [(.int i0)])) _
  refine XS.ifNo X0.here hx rfl (hb hby at_1) rfl ((if0 _ _).trans (tlt hc1).2.2.2) ?_
  show Steps p.tables e below (T0.setTop (mkF m 4 #[.val (.int i0), s1, s2, s3, s4, s5, s6, s7, s8, s9, s10, s11] [])) _
  refine XS.iloadN X0.here hx rfl (hb hby at_4) rfl ?_
  show Steps p.tables e below (T0.setTop (mkF m 5 #[.val (.int i0), s1, s2, s3, s4, s5, s6, s7, s8, s9, s10, s11] [(.int i0)])) _
  refine XS.goto X0.here hx rfl (pc0 := 5) (pc' := 14) rfl (hb hby at_5) (by decide) (by decide) ?_
  show Steps p.tables e below (T0.setTop (mkF m 14 #[.val (.int i0), s1, s2, s3, s4, s5, s6, s7, s8, s9, s10, s11] [(.int i0)])) _
  refine XS.istore X0.here hx rfl (hb hby at_14) rfl (l' := #[.val (.int i0), s1, s2, s3, s4, s5, s6, .val (.int i0), s8, s9, s10, s11]) (os0_14_own_a_f hs7) ?_
  exact kt
theorem os0_14_own_a_t {z0 : Value} {s1 : Slot} {s2 : Slot} {s3 : Slot} {s4 : Slot} {s5 : Slot} {s6 : Slot} {s7 : Slot} {s8 : Slot} {s9 : Slot} {s10 : Slot} {s11 : Slot} {v : Int32} (h : One s7) : storeLocals #[.val z0, s1, s2, s3, s4, s5, s6, s7, s8, s9, s10, s11] 7 (.int v) = some #[.val z0, s1, s2, s3, s4, s5, s6, .val (.int v), s8, s9, s10, s11] := by
  rcases h with rfl | ⟨w, rfl, hw⟩
  · rfl
  · cases w <;> first | rfl | (simp [Value.category] at hw)
set_option maxRecDepth 65536 in
set_option maxHeartbeats 40000000 in
theorem own_a_t {p : Program} {l : Launch} {e : Env} {R : Room} {s : State} {m : MethodId} {args : Array Value} {below : List Frame} {meth : Method} {c : Code} {T0 : State} {locs : List Loc} {cells slots : Nat} {Z : State} {a0 : Array Value} {h0 : Heap} (i0 : Int32) (s1 : Slot) (s2 : Slot) (s3 : Slot) (s4 : Slot) (s5 : Slot) (s6 : Slot) (s7 : Slot) (s8 : Slot) (s9 : Slot) (s10 : Slot) (s11 : Slot)
    (X0 : Stand p l e R s m args below meth c T0 locs cells slots) (hx : p.tables.exec = Jvm.exec) (hZ : Z.Warmed39 s.vm) (hw : ∀ d ∈ tables_1, d.before a0 Z = true) (hby : c.code = code) (hml : c.maxLocals = 12) (hown : s.vm.findClass "com/example/throttl/throttl/GrantsHasNthMostRecentPinLaw" = some m.cls) (e0 : T0.heap = h0) (hs7 : One s7) (hc1 : ¬ ((0 : Int32) < i0)) :
    ∀ target, Steps p.tables e below (T0.setTop (mkF m 16 #[.val (.int i0), s1, s2, s3, s4, s5, s6, .val (.int ((1 : Int32) + (i0 &&& (15 : Int32)))), s8, s9, s10, s11] [])) target → Steps p.tables e below (T0.setTop (mkF m 0 #[.val (.int i0), s1, s2, s3, s4, s5, s6, s7, s8, s9, s10, s11] [])) target := by

  intro target kt
  show Steps p.tables e below (T0.setTop (mkF m 0 #[.val (.int i0), s1, s2, s3, s4, s5, s6, s7, s8, s9, s10, s11] [])) _
  refine XS.iloadN X0.here hx rfl (hb hby at_0) rfl ?_
  show Steps p.tables e below (T0.setTop (mkF m 1 #[.val (.int i0), s1, s2, s3, s4, s5, s6, s7, s8, s9, s10, s11] [(.int i0)])) _
  refine XS.ifYes X0.here hx rfl (pc0 := 1) (pc' := 8) rfl (hb hby at_1) rfl ((if0 _ _).trans (flt hc1).2.2.2) (by decide) (by decide) ?_
  show Steps p.tables e below (T0.setTop (mkF m 8 #[.val (.int i0), s1, s2, s3, s4, s5, s6, s7, s8, s9, s10, s11] [])) _
  refine XS.iconst X0.here hx rfl (hb hby at_8) ?_
  show Steps p.tables e below (T0.setTop (mkF m 9 #[.val (.int i0), s1, s2, s3, s4, s5, s6, s7, s8, s9, s10, s11] [(.int (1 : Int32))])) _
  refine XS.iloadN X0.here hx rfl (hb hby at_9) rfl ?_
  show Steps p.tables e below (T0.setTop (mkF m 10 #[.val (.int i0), s1, s2, s3, s4, s5, s6, s7, s8, s9, s10, s11] [(.int i0), (.int (1 : Int32))])) _
  refine XS.bipush X0.here hx rfl (hb hby at_10) ?_
  show Steps p.tables e below (T0.setTop (mkF m 12 #[.val (.int i0), s1, s2, s3, s4, s5, s6, s7, s8, s9, s10, s11] [(.int (15 : Int32)), (.int i0), (.int (1 : Int32))])) _
  refine XS.iand X0.here hx rfl (hb hby at_12) rfl ?_
  show Steps p.tables e below (T0.setTop (mkF m 13 #[.val (.int i0), s1, s2, s3, s4, s5, s6, s7, s8, s9, s10, s11] [(.int (i0 &&& (15 : Int32))), (.int (1 : Int32))])) _
  refine XS.iadd X0.here hx rfl (hb hby at_13) rfl ?_
  show Steps p.tables e below (T0.setTop (mkF m 14 #[.val (.int i0), s1, s2, s3, s4, s5, s6, s7, s8, s9, s10, s11] [(.int ((1 : Int32) + (i0 &&& (15 : Int32))))])) _
  refine XS.istore X0.here hx rfl (hb hby at_14) rfl (l' := #[.val (.int i0), s1, s2, s3, s4, s5, s6, .val (.int ((1 : Int32) + (i0 &&& (15 : Int32)))), s8, s9, s10, s11]) (os0_14_own_a_t hs7) ?_
  exact kt
theorem os0_144_own_e_f {s0 : Slot} {s1 : Slot} {s2 : Slot} {s3 : Slot} {s4 : Slot} {s5 : Slot} {s6 : Slot} {z7 : Value} {z8 : Value} {s9 : Slot} {s10 : Slot} {s11 : Slot} {v : Int32} (h : One s11) : storeLocals #[s0, s1, s2, s3, s4, s5, s6, .val z7, .val z8, s9, s10, s11] 11 (.int v) = some #[s0, s1, s2, s3, s4, s5, s6, .val z7, .val z8, s9, s10, .val (.int v)] := by
  rcases h with rfl | ⟨w, rfl, hw⟩
  · rfl
  · cases w <;> first | rfl | (simp [Value.category] at hw)
set_option maxRecDepth 65536 in
set_option maxHeartbeats 40000000 in
theorem own_e_f {p : Program} {l : Launch} {e : Env} {R : Room} {s : State} {m : MethodId} {args : Array Value} {below : List Frame} {meth : Method} {c : Code} {T0 : State} {locs : List Loc} {cells slots : Nat} {Z : State} {a0 : Array Value} {h0 : Heap} (s0 : Slot) (s1 : Slot) (s2 : Slot) (s3 : Slot) (s4 : Slot) (s5 : Slot) (s6 : Slot) (i7 : Int32) (i8 : Int32) (s9 : Slot) (s10 : Slot) (s11 : Slot)
    (X0 : Stand p l e R s m args below meth c T0 locs cells slots) (hx : p.tables.exec = Jvm.exec) (hZ : Z.Warmed39 s.vm) (hw : ∀ d ∈ tables_1, d.before a0 Z = true) (hby : c.code = code) (hml : c.maxLocals = 12) (hown : s.vm.findClass "com/example/throttl/throttl/GrantsHasNthMostRecentPinLaw" = some m.cls) (e0 : T0.heap = h0) (hs11 : One s11) (hc136 : ¬ (i8 < i7)) :
    ∀ target, Steps p.tables e below (T0.setTop (mkF m 146 #[s0, s1, s2, s3, s4, s5, s6, .val (.int i7), .val (.int i8), s9, s10, .val (.int (1 : Int32))] [])) target → Steps p.tables e below (T0.setTop (mkF m 132 #[s0, s1, s2, s3, s4, s5, s6, .val (.int i7), .val (.int i8), s9, s10, s11] [])) target := by

  intro target kt
  show Steps p.tables e below (T0.setTop (mkF m 132 #[s0, s1, s2, s3, s4, s5, s6, .val (.int i7), .val (.int i8), s9, s10, s11] [])) _
  refine XS.iload X0.here hx rfl (hb hby at_132) rfl ?_
  show Steps p.tables e below (T0.setTop (mkF m 134 #[s0, s1, s2, s3, s4, s5, s6, .val (.int i7), .val (.int i8), s9, s10, s11] [(.int i7)])) _
  refine XS.iload X0.here hx rfl (hb hby at_134) rfl ?_
  show Steps p.tables e below (T0.setTop (mkF m 136 #[s0, s1, s2, s3, s4, s5, s6, .val (.int i7), .val (.int i8), s9, s10, s11] [(.int i8), (.int i7)])) _
  refine XS.icmpNo X0.here hx rfl (hb hby at_136) rfl (flt hc136).2.2.1 ?_
  show Steps p.tables e below (T0.setTop (mkF m 139 #[s0, s1, s2, s3, s4, s5, s6, .val (.int i7), .val (.int i8), s9, s10, s11] [])) _
  refine XS.iconst X0.here hx rfl (hb hby at_139) ?_
  show Steps p.tables e below (T0.setTop (mkF m 140 #[s0, s1, s2, s3, s4, s5, s6, .val (.int i7), .val (.int i8), s9, s10, s11] [(.int (1 : Int32))])) _
  refine XS.goto X0.here hx rfl (pc0 := 140) (pc' := 144) rfl (hb hby at_140) (by decide) (by decide) ?_
  show Steps p.tables e below (T0.setTop (mkF m 144 #[s0, s1, s2, s3, s4, s5, s6, .val (.int i7), .val (.int i8), s9, s10, s11] [(.int (1 : Int32))])) _
  refine XS.istore X0.here hx rfl (hb hby at_144) rfl (l' := #[s0, s1, s2, s3, s4, s5, s6, .val (.int i7), .val (.int i8), s9, s10, .val (.int (1 : Int32))]) (os0_144_own_e_f hs11) ?_
  exact kt
theorem os0_144_own_e_t {s0 : Slot} {s1 : Slot} {s2 : Slot} {s3 : Slot} {s4 : Slot} {s5 : Slot} {s6 : Slot} {z7 : Value} {z8 : Value} {s9 : Slot} {s10 : Slot} {s11 : Slot} {v : Int32} (h : One s11) : storeLocals #[s0, s1, s2, s3, s4, s5, s6, .val z7, .val z8, s9, s10, s11] 11 (.int v) = some #[s0, s1, s2, s3, s4, s5, s6, .val z7, .val z8, s9, s10, .val (.int v)] := by
  rcases h with rfl | ⟨w, rfl, hw⟩
  · rfl
  · cases w <;> first | rfl | (simp [Value.category] at hw)
set_option maxRecDepth 65536 in
set_option maxHeartbeats 40000000 in
theorem own_e_t {p : Program} {l : Launch} {e : Env} {R : Room} {s : State} {m : MethodId} {args : Array Value} {below : List Frame} {meth : Method} {c : Code} {T0 : State} {locs : List Loc} {cells slots : Nat} {Z : State} {a0 : Array Value} {h0 : Heap} (s0 : Slot) (s1 : Slot) (s2 : Slot) (s3 : Slot) (s4 : Slot) (s5 : Slot) (s6 : Slot) (i7 : Int32) (i8 : Int32) (s9 : Slot) (s10 : Slot) (s11 : Slot)
    (X0 : Stand p l e R s m args below meth c T0 locs cells slots) (hx : p.tables.exec = Jvm.exec) (hZ : Z.Warmed39 s.vm) (hw : ∀ d ∈ tables_1, d.before a0 Z = true) (hby : c.code = code) (hml : c.maxLocals = 12) (hown : s.vm.findClass "com/example/throttl/throttl/GrantsHasNthMostRecentPinLaw" = some m.cls) (e0 : T0.heap = h0) (hs11 : One s11) (hc136 : i8 < i7) :
    ∀ target, Steps p.tables e below (T0.setTop (mkF m 146 #[s0, s1, s2, s3, s4, s5, s6, .val (.int i7), .val (.int i8), s9, s10, .val (.int (0 : Int32))] [])) target → Steps p.tables e below (T0.setTop (mkF m 132 #[s0, s1, s2, s3, s4, s5, s6, .val (.int i7), .val (.int i8), s9, s10, s11] [])) target := by

  intro target kt
  show Steps p.tables e below (T0.setTop (mkF m 132 #[s0, s1, s2, s3, s4, s5, s6, .val (.int i7), .val (.int i8), s9, s10, s11] [])) _
  refine XS.iload X0.here hx rfl (hb hby at_132) rfl ?_
  show Steps p.tables e below (T0.setTop (mkF m 134 #[s0, s1, s2, s3, s4, s5, s6, .val (.int i7), .val (.int i8), s9, s10, s11] [(.int i7)])) _
  refine XS.iload X0.here hx rfl (hb hby at_134) rfl ?_
  show Steps p.tables e below (T0.setTop (mkF m 136 #[s0, s1, s2, s3, s4, s5, s6, .val (.int i7), .val (.int i8), s9, s10, s11] [(.int i8), (.int i7)])) _
  refine XS.icmpYes X0.here hx rfl (pc0 := 136) (pc' := 143) rfl (hb hby at_136) rfl (tlt hc136).2.2.1 (by decide) (by decide) ?_
  show Steps p.tables e below (T0.setTop (mkF m 143 #[s0, s1, s2, s3, s4, s5, s6, .val (.int i7), .val (.int i8), s9, s10, s11] [])) _
  refine XS.iconst X0.here hx rfl (hb hby at_143) ?_
  show Steps p.tables e below (T0.setTop (mkF m 144 #[s0, s1, s2, s3, s4, s5, s6, .val (.int i7), .val (.int i8), s9, s10, s11] [(.int (0 : Int32))])) _
  refine XS.istore X0.here hx rfl (hb hby at_144) rfl (l' := #[s0, s1, s2, s3, s4, s5, s6, .val (.int i7), .val (.int i8), s9, s10, .val (.int (0 : Int32))]) (os0_144_own_e_t hs11) ?_
  exact kt
def own_x (p1 : Int32) : Int32 := if (0 : Int32) < p1 then p1 else ((1 : Int32) + (p1 &&& (15 : Int32)))
theorem own_segA {p : Program} {l : Launch} {e : Env} {R : Room} {s : State} {m : MethodId} {args : Array Value} {below : List Frame} {meth : Method} {c : Code} {T0 : State} {locs : List Loc} {cells slots : Nat} {Z : State} {a0 : Array Value} {h0 : Heap} (p1 p2 p3 : Int32) (q4 q5 : Int64) (X0 : Stand p l e R s m args below meth c T0 locs cells slots) (hx : p.tables.exec = Jvm.exec) (hZ : Z.Warmed39 s.vm) (hw : ∀ d ∈ tables_1, d.before a0 Z = true) (hby : c.code = code) (hml : c.maxLocals = 12) (hown : s.vm.findClass "com/example/throttl/throttl/GrantsHasNthMostRecentPinLaw" = some m.cls) (e0 : T0.heap = h0) : ∀ target, Steps p.tables e below (T0.setTop (mkF m 16 #[.val (.int p1), .val (.int p2), .val (.int p3), .val (.long q4), .second, .val (.long q5), .second, .val (.int (own_x p1)), .unset, .unset, .unset, .unset] [])) target → Steps p.tables e below (T0.setTop (mkF m 0 #[.val (.int p1), .val (.int p2), .val (.int p3), .val (.long q4), .second, .val (.long q5), .second, .unset, .unset, .unset, .unset, .unset] [])) target := by
  intro target k
  by_cases q : (0 : Int32) < p1
  · have ee : own_x p1 = p1 := if_pos q
    rw [ee] at k
    exact own_a_f _ _ _ _ _ _ _ _ _ _ _ _ X0 hx hZ hw hby hml hown e0 One.u q _ k
  · have ee : own_x p1 = ((1 : Int32) + (p1 &&& (15 : Int32))) := if_neg q
    rw [ee] at k
    exact own_a_t _ _ _ _ _ _ _ _ _ _ _ _ X0 hx hZ hw hby hml hown e0 One.u q _ k
theorem own_segE {p : Program} {l : Launch} {e : Env} {R : Room} {s : State} {m : MethodId} {args : Array Value} {below : List Frame} {meth : Method} {c : Code} {T0 : State} {locs : List Loc} {cells slots : Nat} {Z : State} {a0 : Array Value} {h0 : Heap} (p1 p2 p3 : Int32) (q4 q5 : Int64) (x k cl : Int32) (g : Addr) (X0 : Stand p l e R s m args below meth c T0 locs cells slots) (hx : p.tables.exec = Jvm.exec) (hZ : Z.Warmed39 s.vm) (hw : ∀ d ∈ tables_1, d.before a0 Z = true) (hby : c.code = code) (hml : c.maxLocals = 12) (hown : s.vm.findClass "com/example/throttl/throttl/GrantsHasNthMostRecentPinLaw" = some m.cls) (e0 : T0.heap = h0) : ∀ target, Steps p.tables e below (T0.setTop (mkF m 146 #[.val (.int p1), .val (.int p2), .val (.int p3), .val (.long q4), .second, .val (.long q5), .second, .val (.int x), .val (.int k), .val (.int cl), .val (.ref g), .val (.int (own_has x k))] [])) target → Steps p.tables e below (T0.setTop (mkF m 132 #[.val (.int p1), .val (.int p2), .val (.int p3), .val (.long q4), .second, .val (.long q5), .second, .val (.int x), .val (.int k), .val (.int cl), .val (.ref g), .unset] [])) target := by
  intro target kt
  by_cases q : k < x
  · have ee : own_has x k = 0 := if_pos q
    rw [ee] at kt
    exact own_e_t _ _ _ _ _ _ _ _ _ _ _ _ X0 hx hZ hw hby hml hown e0 One.u q _ kt
  · have ee : own_has x k = 1 := if_neg q
    rw [ee] at kt
    exact own_e_f _ _ _ _ _ _ _ _ _ _ _ _ X0 hx hZ hw hby hml hown e0 One.u q _ kt
theorem own_pdJ : parseMethodDescriptor "(J)V" = some ⟨[.long], none⟩ := by decide +kernel
set_option maxRecDepth 65536 in
set_option maxHeartbeats 40000000 in
theorem own_s0_t {p : Program} {l : Launch} {e : Env} {R : Room} {s : State} {m : MethodId} {args : Array Value} {below : List Frame} {meth : Method} {c : Code} {T0 : State} {locs : List Loc} {cells slots : Nat} {Z : State} {a0 : Array Value} {h0 : Heap} (s0 : Slot) (s1 : Slot) (s2 : Slot) (s3 : Slot) (s4 : Slot) (s5 : Slot) (s6 : Slot) (s7 : Slot) (i8 : Int32) (s9 : Slot) (s10 : Slot) (s11 : Slot)
    (X0 : Stand p l e R s m args below meth c T0 locs cells slots) (hx : p.tables.exec = Jvm.exec) (hZ : Z.Warmed39 s.vm) (hw : ∀ d ∈ tables_1, d.before a0 Z = true) (hby : c.code = code) (hml : c.maxLocals = 12) (hown : s.vm.findClass "com/example/throttl/throttl/GrantsHasNthMostRecentPinLaw" = some m.cls) (e0 : T0.heap = h0) (hc50 : ¬ ((0 : Int32) < i8)) :
    ∀ target, Steps p.tables e below (T0.setTop (mkF m 59 #[s0, s1, s2, s3, s4, s5, s6, s7, .val (.int i8), s9, s10, s11] [])) target → Steps p.tables e below (T0.setTop (mkF m 48 #[s0, s1, s2, s3, s4, s5, s6, s7, .val (.int i8), s9, s10, s11] [])) target := by

  intro target kt
  show Steps p.tables e below (T0.setTop (mkF m 48 #[s0, s1, s2, s3, s4, s5, s6, s7, .val (.int i8), s9, s10, s11] [])) _
  refine XS.iload X0.here hx rfl (hb hby at_48) rfl ?_
  show Steps p.tables e below (T0.setTop (mkF m 50 #[s0, s1, s2, s3, s4, s5, s6, s7, .val (.int i8), s9, s10, s11] [(.int i8)])) _
  refine XS.ifYes X0.here hx rfl (pc0 := 50) (pc' := 59) rfl (hb hby at_50) rfl ((if0 _ _).trans (flt hc50).2.2.2) (by decide) (by decide) ?_
  exact kt
set_option maxRecDepth 65536 in
set_option maxHeartbeats 40000000 in
theorem own_s0 {p : Program} {l : Launch} {e : Env} {s : State} {m : MethodId} {args : Array Value} {below : List Frame} {meth : Method} {c : Code} {T0 : State} {locs : List Loc} {cells slots : Nat} {Z : State} {a0 : Array Value} (p1 p2 p3 : Int32) (q4 q5 : Int64) (x k cl : Int32) (g : Addr) (n0 n : Nat) (X0 : Stand p l e room_1 s m args below meth c T0 locs cells slots) (hx : p.tables.exec = Jvm.exec) (hZ : Z.Warmed39 s.vm) (hw : ∀ d ∈ tables_1, d.before a0 Z = true) (hby : c.code = code) (hml : c.maxLocals = 12) (hown : s.vm.findClass "com/example/throttl/throttl/GrantsHasNthMostRecentPinLaw" = some m.cls) (hn1 : 1 ≤ n) (hn8 : n < 9) (Z0 : n0 ≤ T0.heap.size) (g_g : n0 ≤ g) (N0 : Fr n0 locs) (hcells : cells + 1 ≤ room_1.cells) (hslots : slots + 8 ≤ room_1.slots) (G : GSx Z T0.heap g n 0 q4 n0) (hc50 : (0 : Int32) < k) :
    ∃ (T' : State) (locs' : List Loc), Stand p l e room_1 s m args below meth c T' locs' (cells + 1) (slots + 8) ∧ Fr n0 locs' ∧ n0 ≤ T'.heap.size ∧ GSx Z T'.heap g n (0 + 1) q4 n0 ∧ ∀ target, Steps p.tables e below (T'.setTop (mkF m 59 #[.val (.int p1), .val (.int p2), .val (.int p3), .val (.long q4), .second, .val (.long q5), .second, .val (.int x), .val (.int k), .val (.int cl), .val (.ref g), .unset] [])) target → Steps p.tables e below (T0.setTop (mkF m 48 #[.val (.int p1), .val (.int p2), .val (.int p3), .val (.long q4), .second, .val (.long q5), .second, .val (.int x), .val (.int k), .val (.int cl), .val (.ref g), .unset] [])) target := by
  obtain ⟨cq6, kq6, q6a, q6b, q6c⟩ := isOf hZ rfl G.exa
  obtain ⟨_, _, ⟨T6, L6, k6, n6⟩, -, X6, ⟨Lc6, hQ6, l6, y6, z6⟩, st6⟩ := X0.virtualBack hx (y := (⟨"com/example/throttl/throttl/Grants", "add", "(J)V"⟩ : MethodName)) (z := (⟨"com/example/throttl/throttl/Grants", "add", "(J)V"⟩ : MethodName)) hown (mvT hZ (hw _ (List.mem_of_getElem? (i := 32) rfl))) (mvT hZ (hw _ (List.mem_of_getElem? (i := 33) rfl))) (notFace_of_selects (args := #[]) (mvT hZ (hw _ (List.mem_of_getElem? (i := 35) rfl)))) (mvT hZ (hw _ (List.mem_of_getElem? (i := 35) rfl))) (mvT hZ (hw _ (List.mem_of_getElem? (i := 34) rfl))) (by decide) (backOf (W := 0) (own_addC l Z a0 hw g q4 n 0 hn1 hn8 (by decide) T0.heap n0 Z0 g_g G) hZ (hw _ (List.mem_of_getElem? (i := 36) rfl)) (hw _ (List.mem_of_getElem? (i := 2) rfl)) (by decide) (by decide)) q6a q6c (g := (mkF m 56 #[.val (.int p1), .val (.int p2), .val (.int p3), .val (.long q4), .second, .val (.long q5), .second, .val (.int x), .val (.int k), .val (.int cl), .val (.ref g), .unset] [(.long q4), (.ref g)])) rfl (by rw [hml]; rfl) (Steps.refl _) (argsL := [(.long q4)]) (rest := []) (lenOf own_pdJ rfl) rfl (by show 2 * 0 + _ ≤ _; exact Nat.le_of_eq rfl) (hb hby at_56) (fun _ _ => ⟨rfl, rfl, hcells, hslots⟩)
  dsimp only [Pt.U, Pt.locs, Pt.cells, Pt.slots] at X6 l6 y6 z6 st6 hQ6
  subst l6 y6 z6
  obtain ⟨rfl, N6q, hsz, G1⟩ := hQ6
  have N6 := Fr.app N0 N6q
  refine ⟨T6, _, X6, N6, Nat.le_trans Z0 hsz, G1, fun target kt => ?_⟩
  show Steps p.tables e below (T0.setTop (mkF m 48 #[.val (.int p1), .val (.int p2), .val (.int p3), .val (.long q4), .second, .val (.long q5), .second, .val (.int x), .val (.int k), .val (.int cl), .val (.ref g), .unset] [])) _
  refine XS.iload X0.here hx rfl (hb hby at_48) rfl ?_
  show Steps p.tables e below (T0.setTop (mkF m 50 #[.val (.int p1), .val (.int p2), .val (.int p3), .val (.long q4), .second, .val (.long q5), .second, .val (.int x), .val (.int k), .val (.int cl), .val (.ref g), .unset] [(.int k)])) _
  refine XS.ifNo X0.here hx rfl (hb hby at_50) rfl ((if0 _ _).trans (tlt hc50).2.2.2) ?_
  show Steps p.tables e below (T0.setTop (mkF m 53 #[.val (.int p1), .val (.int p2), .val (.int p3), .val (.long q4), .second, .val (.long q5), .second, .val (.int x), .val (.int k), .val (.int cl), .val (.ref g), .unset] [])) _
  refine XS.aload X0.here hx rfl (hb hby at_53) rfl rfl ?_
  show Steps p.tables e below (T0.setTop (mkF m 55 #[.val (.int p1), .val (.int p2), .val (.int p3), .val (.long q4), .second, .val (.long q5), .second, .val (.int x), .val (.int k), .val (.int cl), .val (.ref g), .unset] [(.ref g)])) _
  refine XS.lloadN X0.here hx rfl (hb hby at_55) rfl ?_
  show Steps p.tables e below (T0.setTop (mkF m 56 #[.val (.int p1), .val (.int p2), .val (.int p3), .val (.long q4), .second, .val (.long q5), .second, .val (.int x), .val (.int k), .val (.int cl), .val (.ref g), .unset] [(.long q4), (.ref g)])) _
  refine st6.trans ?_
  exact kt
set_option maxRecDepth 65536 in
set_option maxHeartbeats 40000000 in
theorem own_s1_t {p : Program} {l : Launch} {e : Env} {R : Room} {s : State} {m : MethodId} {args : Array Value} {below : List Frame} {meth : Method} {c : Code} {T0 : State} {locs : List Loc} {cells slots : Nat} {Z : State} {a0 : Array Value} {h0 : Heap} (s0 : Slot) (s1 : Slot) (s2 : Slot) (s3 : Slot) (s4 : Slot) (s5 : Slot) (s6 : Slot) (s7 : Slot) (i8 : Int32) (s9 : Slot) (s10 : Slot) (s11 : Slot)
    (X0 : Stand p l e R s m args below meth c T0 locs cells slots) (hx : p.tables.exec = Jvm.exec) (hZ : Z.Warmed39 s.vm) (hw : ∀ d ∈ tables_1, d.before a0 Z = true) (hby : c.code = code) (hml : c.maxLocals = 12) (hown : s.vm.findClass "com/example/throttl/throttl/GrantsHasNthMostRecentPinLaw" = some m.cls) (e0 : T0.heap = h0) (hc62 : ¬ ((1 : Int32) < i8)) :
    ∀ target, Steps p.tables e below (T0.setTop (mkF m 71 #[s0, s1, s2, s3, s4, s5, s6, s7, .val (.int i8), s9, s10, s11] [])) target → Steps p.tables e below (T0.setTop (mkF m 59 #[s0, s1, s2, s3, s4, s5, s6, s7, .val (.int i8), s9, s10, s11] [])) target := by

  intro target kt
  show Steps p.tables e below (T0.setTop (mkF m 59 #[s0, s1, s2, s3, s4, s5, s6, s7, .val (.int i8), s9, s10, s11] [])) _
  refine XS.iload X0.here hx rfl (hb hby at_59) rfl ?_
  show Steps p.tables e below (T0.setTop (mkF m 61 #[s0, s1, s2, s3, s4, s5, s6, s7, .val (.int i8), s9, s10, s11] [(.int i8)])) _
  refine XS.iconst X0.here hx rfl (hb hby at_61) ?_
  show Steps p.tables e below (T0.setTop (mkF m 62 #[s0, s1, s2, s3, s4, s5, s6, s7, .val (.int i8), s9, s10, s11] [(.int (1 : Int32)), (.int i8)])) _
  refine XS.icmpYes X0.here hx rfl (pc0 := 62) (pc' := 71) rfl (hb hby at_62) rfl (flt hc62).2.2.2 (by decide) (by decide) ?_
  exact kt
set_option maxRecDepth 65536 in
set_option maxHeartbeats 40000000 in
theorem own_s1 {p : Program} {l : Launch} {e : Env} {s : State} {m : MethodId} {args : Array Value} {below : List Frame} {meth : Method} {c : Code} {T0 : State} {locs : List Loc} {cells slots : Nat} {Z : State} {a0 : Array Value} (p1 p2 p3 : Int32) (q4 q5 : Int64) (x k cl : Int32) (g : Addr) (n0 n : Nat) (X0 : Stand p l e room_1 s m args below meth c T0 locs cells slots) (hx : p.tables.exec = Jvm.exec) (hZ : Z.Warmed39 s.vm) (hw : ∀ d ∈ tables_1, d.before a0 Z = true) (hby : c.code = code) (hml : c.maxLocals = 12) (hown : s.vm.findClass "com/example/throttl/throttl/GrantsHasNthMostRecentPinLaw" = some m.cls) (hn1 : 1 ≤ n) (hn8 : n < 9) (Z0 : n0 ≤ T0.heap.size) (g_g : n0 ≤ g) (N0 : Fr n0 locs) (hcells : cells + 1 ≤ room_1.cells) (hslots : slots + 8 ≤ room_1.slots) (G : GSx Z T0.heap g n 1 q4 n0) (hc62 : (1 : Int32) < k) :
    ∃ (T' : State) (locs' : List Loc), Stand p l e room_1 s m args below meth c T' locs' (cells + 1) (slots + 8) ∧ Fr n0 locs' ∧ n0 ≤ T'.heap.size ∧ GSx Z T'.heap g n (1 + 1) q4 n0 ∧ ∀ target, Steps p.tables e below (T'.setTop (mkF m 71 #[.val (.int p1), .val (.int p2), .val (.int p3), .val (.long q4), .second, .val (.long q5), .second, .val (.int x), .val (.int k), .val (.int cl), .val (.ref g), .unset] [])) target → Steps p.tables e below (T0.setTop (mkF m 59 #[.val (.int p1), .val (.int p2), .val (.int p3), .val (.long q4), .second, .val (.long q5), .second, .val (.int x), .val (.int k), .val (.int cl), .val (.ref g), .unset] [])) target := by
  obtain ⟨cq6, kq6, q6a, q6b, q6c⟩ := isOf hZ rfl G.exa
  obtain ⟨_, _, ⟨T6, L6, k6, n6⟩, -, X6, ⟨Lc6, hQ6, l6, y6, z6⟩, st6⟩ := X0.virtualBack hx (y := (⟨"com/example/throttl/throttl/Grants", "add", "(J)V"⟩ : MethodName)) (z := (⟨"com/example/throttl/throttl/Grants", "add", "(J)V"⟩ : MethodName)) hown (mvT hZ (hw _ (List.mem_of_getElem? (i := 32) rfl))) (mvT hZ (hw _ (List.mem_of_getElem? (i := 33) rfl))) (notFace_of_selects (args := #[]) (mvT hZ (hw _ (List.mem_of_getElem? (i := 35) rfl)))) (mvT hZ (hw _ (List.mem_of_getElem? (i := 35) rfl))) (mvT hZ (hw _ (List.mem_of_getElem? (i := 34) rfl))) (by decide) (backOf (W := 0) (own_addC l Z a0 hw g q4 n 1 hn1 hn8 (by decide) T0.heap n0 Z0 g_g G) hZ (hw _ (List.mem_of_getElem? (i := 36) rfl)) (hw _ (List.mem_of_getElem? (i := 2) rfl)) (by decide) (by decide)) q6a q6c (g := (mkF m 68 #[.val (.int p1), .val (.int p2), .val (.int p3), .val (.long q4), .second, .val (.long q5), .second, .val (.int x), .val (.int k), .val (.int cl), .val (.ref g), .unset] [(.long q4), (.ref g)])) rfl (by rw [hml]; rfl) (Steps.refl _) (argsL := [(.long q4)]) (rest := []) (lenOf own_pdJ rfl) rfl (by show 2 * 0 + _ ≤ _; exact Nat.le_of_eq rfl) (hb hby at_68) (fun _ _ => ⟨rfl, rfl, hcells, hslots⟩)
  dsimp only [Pt.U, Pt.locs, Pt.cells, Pt.slots] at X6 l6 y6 z6 st6 hQ6
  subst l6 y6 z6
  obtain ⟨rfl, N6q, hsz, G1⟩ := hQ6
  have N6 := Fr.app N0 N6q
  refine ⟨T6, _, X6, N6, Nat.le_trans Z0 hsz, G1, fun target kt => ?_⟩
  show Steps p.tables e below (T0.setTop (mkF m 59 #[.val (.int p1), .val (.int p2), .val (.int p3), .val (.long q4), .second, .val (.long q5), .second, .val (.int x), .val (.int k), .val (.int cl), .val (.ref g), .unset] [])) _
  refine XS.iload X0.here hx rfl (hb hby at_59) rfl ?_
  show Steps p.tables e below (T0.setTop (mkF m 61 #[.val (.int p1), .val (.int p2), .val (.int p3), .val (.long q4), .second, .val (.long q5), .second, .val (.int x), .val (.int k), .val (.int cl), .val (.ref g), .unset] [(.int k)])) _
  refine XS.iconst X0.here hx rfl (hb hby at_61) ?_
  show Steps p.tables e below (T0.setTop (mkF m 62 #[.val (.int p1), .val (.int p2), .val (.int p3), .val (.long q4), .second, .val (.long q5), .second, .val (.int x), .val (.int k), .val (.int cl), .val (.ref g), .unset] [(.int (1 : Int32)), (.int k)])) _
  refine XS.icmpNo X0.here hx rfl (hb hby at_62) rfl (tlt hc62).2.2.2 ?_
  show Steps p.tables e below (T0.setTop (mkF m 65 #[.val (.int p1), .val (.int p2), .val (.int p3), .val (.long q4), .second, .val (.long q5), .second, .val (.int x), .val (.int k), .val (.int cl), .val (.ref g), .unset] [])) _
  refine XS.aload X0.here hx rfl (hb hby at_65) rfl rfl ?_
  show Steps p.tables e below (T0.setTop (mkF m 67 #[.val (.int p1), .val (.int p2), .val (.int p3), .val (.long q4), .second, .val (.long q5), .second, .val (.int x), .val (.int k), .val (.int cl), .val (.ref g), .unset] [(.ref g)])) _
  refine XS.lloadN X0.here hx rfl (hb hby at_67) rfl ?_
  show Steps p.tables e below (T0.setTop (mkF m 68 #[.val (.int p1), .val (.int p2), .val (.int p3), .val (.long q4), .second, .val (.long q5), .second, .val (.int x), .val (.int k), .val (.int cl), .val (.ref g), .unset] [(.long q4), (.ref g)])) _
  refine st6.trans ?_
  exact kt
set_option maxRecDepth 65536 in
set_option maxHeartbeats 40000000 in
theorem own_s2_t {p : Program} {l : Launch} {e : Env} {R : Room} {s : State} {m : MethodId} {args : Array Value} {below : List Frame} {meth : Method} {c : Code} {T0 : State} {locs : List Loc} {cells slots : Nat} {Z : State} {a0 : Array Value} {h0 : Heap} (s0 : Slot) (s1 : Slot) (s2 : Slot) (s3 : Slot) (s4 : Slot) (s5 : Slot) (s6 : Slot) (s7 : Slot) (i8 : Int32) (s9 : Slot) (s10 : Slot) (s11 : Slot)
    (X0 : Stand p l e R s m args below meth c T0 locs cells slots) (hx : p.tables.exec = Jvm.exec) (hZ : Z.Warmed39 s.vm) (hw : ∀ d ∈ tables_1, d.before a0 Z = true) (hby : c.code = code) (hml : c.maxLocals = 12) (hown : s.vm.findClass "com/example/throttl/throttl/GrantsHasNthMostRecentPinLaw" = some m.cls) (e0 : T0.heap = h0) (hc74 : ¬ ((2 : Int32) < i8)) :
    ∀ target, Steps p.tables e below (T0.setTop (mkF m 83 #[s0, s1, s2, s3, s4, s5, s6, s7, .val (.int i8), s9, s10, s11] [])) target → Steps p.tables e below (T0.setTop (mkF m 71 #[s0, s1, s2, s3, s4, s5, s6, s7, .val (.int i8), s9, s10, s11] [])) target := by

  intro target kt
  show Steps p.tables e below (T0.setTop (mkF m 71 #[s0, s1, s2, s3, s4, s5, s6, s7, .val (.int i8), s9, s10, s11] [])) _
  refine XS.iload X0.here hx rfl (hb hby at_71) rfl ?_
  show Steps p.tables e below (T0.setTop (mkF m 73 #[s0, s1, s2, s3, s4, s5, s6, s7, .val (.int i8), s9, s10, s11] [(.int i8)])) _
  refine XS.iconst X0.here hx rfl (hb hby at_73) ?_
  show Steps p.tables e below (T0.setTop (mkF m 74 #[s0, s1, s2, s3, s4, s5, s6, s7, .val (.int i8), s9, s10, s11] [(.int (2 : Int32)), (.int i8)])) _
  refine XS.icmpYes X0.here hx rfl (pc0 := 74) (pc' := 83) rfl (hb hby at_74) rfl (flt hc74).2.2.2 (by decide) (by decide) ?_
  exact kt
set_option maxRecDepth 65536 in
set_option maxHeartbeats 40000000 in
theorem own_s2 {p : Program} {l : Launch} {e : Env} {s : State} {m : MethodId} {args : Array Value} {below : List Frame} {meth : Method} {c : Code} {T0 : State} {locs : List Loc} {cells slots : Nat} {Z : State} {a0 : Array Value} (p1 p2 p3 : Int32) (q4 q5 : Int64) (x k cl : Int32) (g : Addr) (n0 n : Nat) (X0 : Stand p l e room_1 s m args below meth c T0 locs cells slots) (hx : p.tables.exec = Jvm.exec) (hZ : Z.Warmed39 s.vm) (hw : ∀ d ∈ tables_1, d.before a0 Z = true) (hby : c.code = code) (hml : c.maxLocals = 12) (hown : s.vm.findClass "com/example/throttl/throttl/GrantsHasNthMostRecentPinLaw" = some m.cls) (hn1 : 1 ≤ n) (hn8 : n < 9) (Z0 : n0 ≤ T0.heap.size) (g_g : n0 ≤ g) (N0 : Fr n0 locs) (hcells : cells + 1 ≤ room_1.cells) (hslots : slots + 8 ≤ room_1.slots) (G : GSx Z T0.heap g n 2 q4 n0) (hc74 : (2 : Int32) < k) :
    ∃ (T' : State) (locs' : List Loc), Stand p l e room_1 s m args below meth c T' locs' (cells + 1) (slots + 8) ∧ Fr n0 locs' ∧ n0 ≤ T'.heap.size ∧ GSx Z T'.heap g n (2 + 1) q4 n0 ∧ ∀ target, Steps p.tables e below (T'.setTop (mkF m 83 #[.val (.int p1), .val (.int p2), .val (.int p3), .val (.long q4), .second, .val (.long q5), .second, .val (.int x), .val (.int k), .val (.int cl), .val (.ref g), .unset] [])) target → Steps p.tables e below (T0.setTop (mkF m 71 #[.val (.int p1), .val (.int p2), .val (.int p3), .val (.long q4), .second, .val (.long q5), .second, .val (.int x), .val (.int k), .val (.int cl), .val (.ref g), .unset] [])) target := by
  obtain ⟨cq6, kq6, q6a, q6b, q6c⟩ := isOf hZ rfl G.exa
  obtain ⟨_, _, ⟨T6, L6, k6, n6⟩, -, X6, ⟨Lc6, hQ6, l6, y6, z6⟩, st6⟩ := X0.virtualBack hx (y := (⟨"com/example/throttl/throttl/Grants", "add", "(J)V"⟩ : MethodName)) (z := (⟨"com/example/throttl/throttl/Grants", "add", "(J)V"⟩ : MethodName)) hown (mvT hZ (hw _ (List.mem_of_getElem? (i := 32) rfl))) (mvT hZ (hw _ (List.mem_of_getElem? (i := 33) rfl))) (notFace_of_selects (args := #[]) (mvT hZ (hw _ (List.mem_of_getElem? (i := 35) rfl)))) (mvT hZ (hw _ (List.mem_of_getElem? (i := 35) rfl))) (mvT hZ (hw _ (List.mem_of_getElem? (i := 34) rfl))) (by decide) (backOf (W := 0) (own_addC l Z a0 hw g q4 n 2 hn1 hn8 (by decide) T0.heap n0 Z0 g_g G) hZ (hw _ (List.mem_of_getElem? (i := 36) rfl)) (hw _ (List.mem_of_getElem? (i := 2) rfl)) (by decide) (by decide)) q6a q6c (g := (mkF m 80 #[.val (.int p1), .val (.int p2), .val (.int p3), .val (.long q4), .second, .val (.long q5), .second, .val (.int x), .val (.int k), .val (.int cl), .val (.ref g), .unset] [(.long q4), (.ref g)])) rfl (by rw [hml]; rfl) (Steps.refl _) (argsL := [(.long q4)]) (rest := []) (lenOf own_pdJ rfl) rfl (by show 2 * 0 + _ ≤ _; exact Nat.le_of_eq rfl) (hb hby at_80) (fun _ _ => ⟨rfl, rfl, hcells, hslots⟩)
  dsimp only [Pt.U, Pt.locs, Pt.cells, Pt.slots] at X6 l6 y6 z6 st6 hQ6
  subst l6 y6 z6
  obtain ⟨rfl, N6q, hsz, G1⟩ := hQ6
  have N6 := Fr.app N0 N6q
  refine ⟨T6, _, X6, N6, Nat.le_trans Z0 hsz, G1, fun target kt => ?_⟩
  show Steps p.tables e below (T0.setTop (mkF m 71 #[.val (.int p1), .val (.int p2), .val (.int p3), .val (.long q4), .second, .val (.long q5), .second, .val (.int x), .val (.int k), .val (.int cl), .val (.ref g), .unset] [])) _
  refine XS.iload X0.here hx rfl (hb hby at_71) rfl ?_
  show Steps p.tables e below (T0.setTop (mkF m 73 #[.val (.int p1), .val (.int p2), .val (.int p3), .val (.long q4), .second, .val (.long q5), .second, .val (.int x), .val (.int k), .val (.int cl), .val (.ref g), .unset] [(.int k)])) _
  refine XS.iconst X0.here hx rfl (hb hby at_73) ?_
  show Steps p.tables e below (T0.setTop (mkF m 74 #[.val (.int p1), .val (.int p2), .val (.int p3), .val (.long q4), .second, .val (.long q5), .second, .val (.int x), .val (.int k), .val (.int cl), .val (.ref g), .unset] [(.int (2 : Int32)), (.int k)])) _
  refine XS.icmpNo X0.here hx rfl (hb hby at_74) rfl (tlt hc74).2.2.2 ?_
  show Steps p.tables e below (T0.setTop (mkF m 77 #[.val (.int p1), .val (.int p2), .val (.int p3), .val (.long q4), .second, .val (.long q5), .second, .val (.int x), .val (.int k), .val (.int cl), .val (.ref g), .unset] [])) _
  refine XS.aload X0.here hx rfl (hb hby at_77) rfl rfl ?_
  show Steps p.tables e below (T0.setTop (mkF m 79 #[.val (.int p1), .val (.int p2), .val (.int p3), .val (.long q4), .second, .val (.long q5), .second, .val (.int x), .val (.int k), .val (.int cl), .val (.ref g), .unset] [(.ref g)])) _
  refine XS.lloadN X0.here hx rfl (hb hby at_79) rfl ?_
  show Steps p.tables e below (T0.setTop (mkF m 80 #[.val (.int p1), .val (.int p2), .val (.int p3), .val (.long q4), .second, .val (.long q5), .second, .val (.int x), .val (.int k), .val (.int cl), .val (.ref g), .unset] [(.long q4), (.ref g)])) _
  refine st6.trans ?_
  exact kt
set_option maxRecDepth 65536 in
set_option maxHeartbeats 40000000 in
theorem own_s3_t {p : Program} {l : Launch} {e : Env} {R : Room} {s : State} {m : MethodId} {args : Array Value} {below : List Frame} {meth : Method} {c : Code} {T0 : State} {locs : List Loc} {cells slots : Nat} {Z : State} {a0 : Array Value} {h0 : Heap} (s0 : Slot) (s1 : Slot) (s2 : Slot) (s3 : Slot) (s4 : Slot) (s5 : Slot) (s6 : Slot) (s7 : Slot) (i8 : Int32) (s9 : Slot) (s10 : Slot) (s11 : Slot)
    (X0 : Stand p l e R s m args below meth c T0 locs cells slots) (hx : p.tables.exec = Jvm.exec) (hZ : Z.Warmed39 s.vm) (hw : ∀ d ∈ tables_1, d.before a0 Z = true) (hby : c.code = code) (hml : c.maxLocals = 12) (hown : s.vm.findClass "com/example/throttl/throttl/GrantsHasNthMostRecentPinLaw" = some m.cls) (e0 : T0.heap = h0) (hc86 : ¬ ((3 : Int32) < i8)) :
    ∀ target, Steps p.tables e below (T0.setTop (mkF m 95 #[s0, s1, s2, s3, s4, s5, s6, s7, .val (.int i8), s9, s10, s11] [])) target → Steps p.tables e below (T0.setTop (mkF m 83 #[s0, s1, s2, s3, s4, s5, s6, s7, .val (.int i8), s9, s10, s11] [])) target := by

  intro target kt
  show Steps p.tables e below (T0.setTop (mkF m 83 #[s0, s1, s2, s3, s4, s5, s6, s7, .val (.int i8), s9, s10, s11] [])) _
  refine XS.iload X0.here hx rfl (hb hby at_83) rfl ?_
  show Steps p.tables e below (T0.setTop (mkF m 85 #[s0, s1, s2, s3, s4, s5, s6, s7, .val (.int i8), s9, s10, s11] [(.int i8)])) _
  refine XS.iconst X0.here hx rfl (hb hby at_85) ?_
  show Steps p.tables e below (T0.setTop (mkF m 86 #[s0, s1, s2, s3, s4, s5, s6, s7, .val (.int i8), s9, s10, s11] [(.int (3 : Int32)), (.int i8)])) _
  refine XS.icmpYes X0.here hx rfl (pc0 := 86) (pc' := 95) rfl (hb hby at_86) rfl (flt hc86).2.2.2 (by decide) (by decide) ?_
  exact kt
set_option maxRecDepth 65536 in
set_option maxHeartbeats 40000000 in
theorem own_s3 {p : Program} {l : Launch} {e : Env} {s : State} {m : MethodId} {args : Array Value} {below : List Frame} {meth : Method} {c : Code} {T0 : State} {locs : List Loc} {cells slots : Nat} {Z : State} {a0 : Array Value} (p1 p2 p3 : Int32) (q4 q5 : Int64) (x k cl : Int32) (g : Addr) (n0 n : Nat) (X0 : Stand p l e room_1 s m args below meth c T0 locs cells slots) (hx : p.tables.exec = Jvm.exec) (hZ : Z.Warmed39 s.vm) (hw : ∀ d ∈ tables_1, d.before a0 Z = true) (hby : c.code = code) (hml : c.maxLocals = 12) (hown : s.vm.findClass "com/example/throttl/throttl/GrantsHasNthMostRecentPinLaw" = some m.cls) (hn1 : 1 ≤ n) (hn8 : n < 9) (Z0 : n0 ≤ T0.heap.size) (g_g : n0 ≤ g) (N0 : Fr n0 locs) (hcells : cells + 1 ≤ room_1.cells) (hslots : slots + 8 ≤ room_1.slots) (G : GSx Z T0.heap g n 3 q4 n0) (hc86 : (3 : Int32) < k) :
    ∃ (T' : State) (locs' : List Loc), Stand p l e room_1 s m args below meth c T' locs' (cells + 1) (slots + 8) ∧ Fr n0 locs' ∧ n0 ≤ T'.heap.size ∧ GSx Z T'.heap g n (3 + 1) q4 n0 ∧ ∀ target, Steps p.tables e below (T'.setTop (mkF m 95 #[.val (.int p1), .val (.int p2), .val (.int p3), .val (.long q4), .second, .val (.long q5), .second, .val (.int x), .val (.int k), .val (.int cl), .val (.ref g), .unset] [])) target → Steps p.tables e below (T0.setTop (mkF m 83 #[.val (.int p1), .val (.int p2), .val (.int p3), .val (.long q4), .second, .val (.long q5), .second, .val (.int x), .val (.int k), .val (.int cl), .val (.ref g), .unset] [])) target := by
  obtain ⟨cq6, kq6, q6a, q6b, q6c⟩ := isOf hZ rfl G.exa
  obtain ⟨_, _, ⟨T6, L6, k6, n6⟩, -, X6, ⟨Lc6, hQ6, l6, y6, z6⟩, st6⟩ := X0.virtualBack hx (y := (⟨"com/example/throttl/throttl/Grants", "add", "(J)V"⟩ : MethodName)) (z := (⟨"com/example/throttl/throttl/Grants", "add", "(J)V"⟩ : MethodName)) hown (mvT hZ (hw _ (List.mem_of_getElem? (i := 32) rfl))) (mvT hZ (hw _ (List.mem_of_getElem? (i := 33) rfl))) (notFace_of_selects (args := #[]) (mvT hZ (hw _ (List.mem_of_getElem? (i := 35) rfl)))) (mvT hZ (hw _ (List.mem_of_getElem? (i := 35) rfl))) (mvT hZ (hw _ (List.mem_of_getElem? (i := 34) rfl))) (by decide) (backOf (W := 0) (own_addC l Z a0 hw g q4 n 3 hn1 hn8 (by decide) T0.heap n0 Z0 g_g G) hZ (hw _ (List.mem_of_getElem? (i := 36) rfl)) (hw _ (List.mem_of_getElem? (i := 2) rfl)) (by decide) (by decide)) q6a q6c (g := (mkF m 92 #[.val (.int p1), .val (.int p2), .val (.int p3), .val (.long q4), .second, .val (.long q5), .second, .val (.int x), .val (.int k), .val (.int cl), .val (.ref g), .unset] [(.long q4), (.ref g)])) rfl (by rw [hml]; rfl) (Steps.refl _) (argsL := [(.long q4)]) (rest := []) (lenOf own_pdJ rfl) rfl (by show 2 * 0 + _ ≤ _; exact Nat.le_of_eq rfl) (hb hby at_92) (fun _ _ => ⟨rfl, rfl, hcells, hslots⟩)
  dsimp only [Pt.U, Pt.locs, Pt.cells, Pt.slots] at X6 l6 y6 z6 st6 hQ6
  subst l6 y6 z6
  obtain ⟨rfl, N6q, hsz, G1⟩ := hQ6
  have N6 := Fr.app N0 N6q
  refine ⟨T6, _, X6, N6, Nat.le_trans Z0 hsz, G1, fun target kt => ?_⟩
  show Steps p.tables e below (T0.setTop (mkF m 83 #[.val (.int p1), .val (.int p2), .val (.int p3), .val (.long q4), .second, .val (.long q5), .second, .val (.int x), .val (.int k), .val (.int cl), .val (.ref g), .unset] [])) _
  refine XS.iload X0.here hx rfl (hb hby at_83) rfl ?_
  show Steps p.tables e below (T0.setTop (mkF m 85 #[.val (.int p1), .val (.int p2), .val (.int p3), .val (.long q4), .second, .val (.long q5), .second, .val (.int x), .val (.int k), .val (.int cl), .val (.ref g), .unset] [(.int k)])) _
  refine XS.iconst X0.here hx rfl (hb hby at_85) ?_
  show Steps p.tables e below (T0.setTop (mkF m 86 #[.val (.int p1), .val (.int p2), .val (.int p3), .val (.long q4), .second, .val (.long q5), .second, .val (.int x), .val (.int k), .val (.int cl), .val (.ref g), .unset] [(.int (3 : Int32)), (.int k)])) _
  refine XS.icmpNo X0.here hx rfl (hb hby at_86) rfl (tlt hc86).2.2.2 ?_
  show Steps p.tables e below (T0.setTop (mkF m 89 #[.val (.int p1), .val (.int p2), .val (.int p3), .val (.long q4), .second, .val (.long q5), .second, .val (.int x), .val (.int k), .val (.int cl), .val (.ref g), .unset] [])) _
  refine XS.aload X0.here hx rfl (hb hby at_89) rfl rfl ?_
  show Steps p.tables e below (T0.setTop (mkF m 91 #[.val (.int p1), .val (.int p2), .val (.int p3), .val (.long q4), .second, .val (.long q5), .second, .val (.int x), .val (.int k), .val (.int cl), .val (.ref g), .unset] [(.ref g)])) _
  refine XS.lloadN X0.here hx rfl (hb hby at_91) rfl ?_
  show Steps p.tables e below (T0.setTop (mkF m 92 #[.val (.int p1), .val (.int p2), .val (.int p3), .val (.long q4), .second, .val (.long q5), .second, .val (.int x), .val (.int k), .val (.int cl), .val (.ref g), .unset] [(.long q4), (.ref g)])) _
  refine st6.trans ?_
  exact kt
set_option maxRecDepth 65536 in
set_option maxHeartbeats 40000000 in
theorem own_s4_t {p : Program} {l : Launch} {e : Env} {R : Room} {s : State} {m : MethodId} {args : Array Value} {below : List Frame} {meth : Method} {c : Code} {T0 : State} {locs : List Loc} {cells slots : Nat} {Z : State} {a0 : Array Value} {h0 : Heap} (s0 : Slot) (s1 : Slot) (s2 : Slot) (s3 : Slot) (s4 : Slot) (s5 : Slot) (s6 : Slot) (s7 : Slot) (i8 : Int32) (s9 : Slot) (s10 : Slot) (s11 : Slot)
    (X0 : Stand p l e R s m args below meth c T0 locs cells slots) (hx : p.tables.exec = Jvm.exec) (hZ : Z.Warmed39 s.vm) (hw : ∀ d ∈ tables_1, d.before a0 Z = true) (hby : c.code = code) (hml : c.maxLocals = 12) (hown : s.vm.findClass "com/example/throttl/throttl/GrantsHasNthMostRecentPinLaw" = some m.cls) (e0 : T0.heap = h0) (hc98 : ¬ ((4 : Int32) < i8)) :
    ∀ target, Steps p.tables e below (T0.setTop (mkF m 107 #[s0, s1, s2, s3, s4, s5, s6, s7, .val (.int i8), s9, s10, s11] [])) target → Steps p.tables e below (T0.setTop (mkF m 95 #[s0, s1, s2, s3, s4, s5, s6, s7, .val (.int i8), s9, s10, s11] [])) target := by

  intro target kt
  show Steps p.tables e below (T0.setTop (mkF m 95 #[s0, s1, s2, s3, s4, s5, s6, s7, .val (.int i8), s9, s10, s11] [])) _
  refine XS.iload X0.here hx rfl (hb hby at_95) rfl ?_
  show Steps p.tables e below (T0.setTop (mkF m 97 #[s0, s1, s2, s3, s4, s5, s6, s7, .val (.int i8), s9, s10, s11] [(.int i8)])) _
  refine XS.iconst X0.here hx rfl (hb hby at_97) ?_
  show Steps p.tables e below (T0.setTop (mkF m 98 #[s0, s1, s2, s3, s4, s5, s6, s7, .val (.int i8), s9, s10, s11] [(.int (4 : Int32)), (.int i8)])) _
  refine XS.icmpYes X0.here hx rfl (pc0 := 98) (pc' := 107) rfl (hb hby at_98) rfl (flt hc98).2.2.2 (by decide) (by decide) ?_
  exact kt
set_option maxRecDepth 65536 in
set_option maxHeartbeats 40000000 in
theorem own_s4 {p : Program} {l : Launch} {e : Env} {s : State} {m : MethodId} {args : Array Value} {below : List Frame} {meth : Method} {c : Code} {T0 : State} {locs : List Loc} {cells slots : Nat} {Z : State} {a0 : Array Value} (p1 p2 p3 : Int32) (q4 q5 : Int64) (x k cl : Int32) (g : Addr) (n0 n : Nat) (X0 : Stand p l e room_1 s m args below meth c T0 locs cells slots) (hx : p.tables.exec = Jvm.exec) (hZ : Z.Warmed39 s.vm) (hw : ∀ d ∈ tables_1, d.before a0 Z = true) (hby : c.code = code) (hml : c.maxLocals = 12) (hown : s.vm.findClass "com/example/throttl/throttl/GrantsHasNthMostRecentPinLaw" = some m.cls) (hn1 : 1 ≤ n) (hn8 : n < 9) (Z0 : n0 ≤ T0.heap.size) (g_g : n0 ≤ g) (N0 : Fr n0 locs) (hcells : cells + 1 ≤ room_1.cells) (hslots : slots + 8 ≤ room_1.slots) (G : GSx Z T0.heap g n 4 q4 n0) (hc98 : (4 : Int32) < k) :
    ∃ (T' : State) (locs' : List Loc), Stand p l e room_1 s m args below meth c T' locs' (cells + 1) (slots + 8) ∧ Fr n0 locs' ∧ n0 ≤ T'.heap.size ∧ GSx Z T'.heap g n (4 + 1) q4 n0 ∧ ∀ target, Steps p.tables e below (T'.setTop (mkF m 107 #[.val (.int p1), .val (.int p2), .val (.int p3), .val (.long q4), .second, .val (.long q5), .second, .val (.int x), .val (.int k), .val (.int cl), .val (.ref g), .unset] [])) target → Steps p.tables e below (T0.setTop (mkF m 95 #[.val (.int p1), .val (.int p2), .val (.int p3), .val (.long q4), .second, .val (.long q5), .second, .val (.int x), .val (.int k), .val (.int cl), .val (.ref g), .unset] [])) target := by
  obtain ⟨cq6, kq6, q6a, q6b, q6c⟩ := isOf hZ rfl G.exa
  obtain ⟨_, _, ⟨T6, L6, k6, n6⟩, -, X6, ⟨Lc6, hQ6, l6, y6, z6⟩, st6⟩ := X0.virtualBack hx (y := (⟨"com/example/throttl/throttl/Grants", "add", "(J)V"⟩ : MethodName)) (z := (⟨"com/example/throttl/throttl/Grants", "add", "(J)V"⟩ : MethodName)) hown (mvT hZ (hw _ (List.mem_of_getElem? (i := 32) rfl))) (mvT hZ (hw _ (List.mem_of_getElem? (i := 33) rfl))) (notFace_of_selects (args := #[]) (mvT hZ (hw _ (List.mem_of_getElem? (i := 35) rfl)))) (mvT hZ (hw _ (List.mem_of_getElem? (i := 35) rfl))) (mvT hZ (hw _ (List.mem_of_getElem? (i := 34) rfl))) (by decide) (backOf (W := 0) (own_addC l Z a0 hw g q4 n 4 hn1 hn8 (by decide) T0.heap n0 Z0 g_g G) hZ (hw _ (List.mem_of_getElem? (i := 36) rfl)) (hw _ (List.mem_of_getElem? (i := 2) rfl)) (by decide) (by decide)) q6a q6c (g := (mkF m 104 #[.val (.int p1), .val (.int p2), .val (.int p3), .val (.long q4), .second, .val (.long q5), .second, .val (.int x), .val (.int k), .val (.int cl), .val (.ref g), .unset] [(.long q4), (.ref g)])) rfl (by rw [hml]; rfl) (Steps.refl _) (argsL := [(.long q4)]) (rest := []) (lenOf own_pdJ rfl) rfl (by show 2 * 0 + _ ≤ _; exact Nat.le_of_eq rfl) (hb hby at_104) (fun _ _ => ⟨rfl, rfl, hcells, hslots⟩)
  dsimp only [Pt.U, Pt.locs, Pt.cells, Pt.slots] at X6 l6 y6 z6 st6 hQ6
  subst l6 y6 z6
  obtain ⟨rfl, N6q, hsz, G1⟩ := hQ6
  have N6 := Fr.app N0 N6q
  refine ⟨T6, _, X6, N6, Nat.le_trans Z0 hsz, G1, fun target kt => ?_⟩
  show Steps p.tables e below (T0.setTop (mkF m 95 #[.val (.int p1), .val (.int p2), .val (.int p3), .val (.long q4), .second, .val (.long q5), .second, .val (.int x), .val (.int k), .val (.int cl), .val (.ref g), .unset] [])) _
  refine XS.iload X0.here hx rfl (hb hby at_95) rfl ?_
  show Steps p.tables e below (T0.setTop (mkF m 97 #[.val (.int p1), .val (.int p2), .val (.int p3), .val (.long q4), .second, .val (.long q5), .second, .val (.int x), .val (.int k), .val (.int cl), .val (.ref g), .unset] [(.int k)])) _
  refine XS.iconst X0.here hx rfl (hb hby at_97) ?_
  show Steps p.tables e below (T0.setTop (mkF m 98 #[.val (.int p1), .val (.int p2), .val (.int p3), .val (.long q4), .second, .val (.long q5), .second, .val (.int x), .val (.int k), .val (.int cl), .val (.ref g), .unset] [(.int (4 : Int32)), (.int k)])) _
  refine XS.icmpNo X0.here hx rfl (hb hby at_98) rfl (tlt hc98).2.2.2 ?_
  show Steps p.tables e below (T0.setTop (mkF m 101 #[.val (.int p1), .val (.int p2), .val (.int p3), .val (.long q4), .second, .val (.long q5), .second, .val (.int x), .val (.int k), .val (.int cl), .val (.ref g), .unset] [])) _
  refine XS.aload X0.here hx rfl (hb hby at_101) rfl rfl ?_
  show Steps p.tables e below (T0.setTop (mkF m 103 #[.val (.int p1), .val (.int p2), .val (.int p3), .val (.long q4), .second, .val (.long q5), .second, .val (.int x), .val (.int k), .val (.int cl), .val (.ref g), .unset] [(.ref g)])) _
  refine XS.lloadN X0.here hx rfl (hb hby at_103) rfl ?_
  show Steps p.tables e below (T0.setTop (mkF m 104 #[.val (.int p1), .val (.int p2), .val (.int p3), .val (.long q4), .second, .val (.long q5), .second, .val (.int x), .val (.int k), .val (.int cl), .val (.ref g), .unset] [(.long q4), (.ref g)])) _
  refine st6.trans ?_
  exact kt
set_option maxRecDepth 65536 in
set_option maxHeartbeats 40000000 in
theorem own_s5_t {p : Program} {l : Launch} {e : Env} {R : Room} {s : State} {m : MethodId} {args : Array Value} {below : List Frame} {meth : Method} {c : Code} {T0 : State} {locs : List Loc} {cells slots : Nat} {Z : State} {a0 : Array Value} {h0 : Heap} (s0 : Slot) (s1 : Slot) (s2 : Slot) (s3 : Slot) (s4 : Slot) (s5 : Slot) (s6 : Slot) (s7 : Slot) (i8 : Int32) (s9 : Slot) (s10 : Slot) (s11 : Slot)
    (X0 : Stand p l e R s m args below meth c T0 locs cells slots) (hx : p.tables.exec = Jvm.exec) (hZ : Z.Warmed39 s.vm) (hw : ∀ d ∈ tables_1, d.before a0 Z = true) (hby : c.code = code) (hml : c.maxLocals = 12) (hown : s.vm.findClass "com/example/throttl/throttl/GrantsHasNthMostRecentPinLaw" = some m.cls) (e0 : T0.heap = h0) (hc110 : ¬ ((5 : Int32) < i8)) :
    ∀ target, Steps p.tables e below (T0.setTop (mkF m 119 #[s0, s1, s2, s3, s4, s5, s6, s7, .val (.int i8), s9, s10, s11] [])) target → Steps p.tables e below (T0.setTop (mkF m 107 #[s0, s1, s2, s3, s4, s5, s6, s7, .val (.int i8), s9, s10, s11] [])) target := by

  intro target kt
  show Steps p.tables e below (T0.setTop (mkF m 107 #[s0, s1, s2, s3, s4, s5, s6, s7, .val (.int i8), s9, s10, s11] [])) _
  refine XS.iload X0.here hx rfl (hb hby at_107) rfl ?_
  show Steps p.tables e below (T0.setTop (mkF m 109 #[s0, s1, s2, s3, s4, s5, s6, s7, .val (.int i8), s9, s10, s11] [(.int i8)])) _
  refine XS.iconst X0.here hx rfl (hb hby at_109) ?_
  show Steps p.tables e below (T0.setTop (mkF m 110 #[s0, s1, s2, s3, s4, s5, s6, s7, .val (.int i8), s9, s10, s11] [(.int (5 : Int32)), (.int i8)])) _
  refine XS.icmpYes X0.here hx rfl (pc0 := 110) (pc' := 119) rfl (hb hby at_110) rfl (flt hc110).2.2.2 (by decide) (by decide) ?_
  exact kt
set_option maxRecDepth 65536 in
set_option maxHeartbeats 40000000 in
theorem own_s5 {p : Program} {l : Launch} {e : Env} {s : State} {m : MethodId} {args : Array Value} {below : List Frame} {meth : Method} {c : Code} {T0 : State} {locs : List Loc} {cells slots : Nat} {Z : State} {a0 : Array Value} (p1 p2 p3 : Int32) (q4 q5 : Int64) (x k cl : Int32) (g : Addr) (n0 n : Nat) (X0 : Stand p l e room_1 s m args below meth c T0 locs cells slots) (hx : p.tables.exec = Jvm.exec) (hZ : Z.Warmed39 s.vm) (hw : ∀ d ∈ tables_1, d.before a0 Z = true) (hby : c.code = code) (hml : c.maxLocals = 12) (hown : s.vm.findClass "com/example/throttl/throttl/GrantsHasNthMostRecentPinLaw" = some m.cls) (hn1 : 1 ≤ n) (hn8 : n < 9) (Z0 : n0 ≤ T0.heap.size) (g_g : n0 ≤ g) (N0 : Fr n0 locs) (hcells : cells + 1 ≤ room_1.cells) (hslots : slots + 8 ≤ room_1.slots) (G : GSx Z T0.heap g n 5 q4 n0) (hc110 : (5 : Int32) < k) :
    ∃ (T' : State) (locs' : List Loc), Stand p l e room_1 s m args below meth c T' locs' (cells + 1) (slots + 8) ∧ Fr n0 locs' ∧ n0 ≤ T'.heap.size ∧ GSx Z T'.heap g n (5 + 1) q4 n0 ∧ ∀ target, Steps p.tables e below (T'.setTop (mkF m 119 #[.val (.int p1), .val (.int p2), .val (.int p3), .val (.long q4), .second, .val (.long q5), .second, .val (.int x), .val (.int k), .val (.int cl), .val (.ref g), .unset] [])) target → Steps p.tables e below (T0.setTop (mkF m 107 #[.val (.int p1), .val (.int p2), .val (.int p3), .val (.long q4), .second, .val (.long q5), .second, .val (.int x), .val (.int k), .val (.int cl), .val (.ref g), .unset] [])) target := by
  obtain ⟨cq6, kq6, q6a, q6b, q6c⟩ := isOf hZ rfl G.exa
  obtain ⟨_, _, ⟨T6, L6, k6, n6⟩, -, X6, ⟨Lc6, hQ6, l6, y6, z6⟩, st6⟩ := X0.virtualBack hx (y := (⟨"com/example/throttl/throttl/Grants", "add", "(J)V"⟩ : MethodName)) (z := (⟨"com/example/throttl/throttl/Grants", "add", "(J)V"⟩ : MethodName)) hown (mvT hZ (hw _ (List.mem_of_getElem? (i := 32) rfl))) (mvT hZ (hw _ (List.mem_of_getElem? (i := 33) rfl))) (notFace_of_selects (args := #[]) (mvT hZ (hw _ (List.mem_of_getElem? (i := 35) rfl)))) (mvT hZ (hw _ (List.mem_of_getElem? (i := 35) rfl))) (mvT hZ (hw _ (List.mem_of_getElem? (i := 34) rfl))) (by decide) (backOf (W := 0) (own_addC l Z a0 hw g q4 n 5 hn1 hn8 (by decide) T0.heap n0 Z0 g_g G) hZ (hw _ (List.mem_of_getElem? (i := 36) rfl)) (hw _ (List.mem_of_getElem? (i := 2) rfl)) (by decide) (by decide)) q6a q6c (g := (mkF m 116 #[.val (.int p1), .val (.int p2), .val (.int p3), .val (.long q4), .second, .val (.long q5), .second, .val (.int x), .val (.int k), .val (.int cl), .val (.ref g), .unset] [(.long q4), (.ref g)])) rfl (by rw [hml]; rfl) (Steps.refl _) (argsL := [(.long q4)]) (rest := []) (lenOf own_pdJ rfl) rfl (by show 2 * 0 + _ ≤ _; exact Nat.le_of_eq rfl) (hb hby at_116) (fun _ _ => ⟨rfl, rfl, hcells, hslots⟩)
  dsimp only [Pt.U, Pt.locs, Pt.cells, Pt.slots] at X6 l6 y6 z6 st6 hQ6
  subst l6 y6 z6
  obtain ⟨rfl, N6q, hsz, G1⟩ := hQ6
  have N6 := Fr.app N0 N6q
  refine ⟨T6, _, X6, N6, Nat.le_trans Z0 hsz, G1, fun target kt => ?_⟩
  show Steps p.tables e below (T0.setTop (mkF m 107 #[.val (.int p1), .val (.int p2), .val (.int p3), .val (.long q4), .second, .val (.long q5), .second, .val (.int x), .val (.int k), .val (.int cl), .val (.ref g), .unset] [])) _
  refine XS.iload X0.here hx rfl (hb hby at_107) rfl ?_
  show Steps p.tables e below (T0.setTop (mkF m 109 #[.val (.int p1), .val (.int p2), .val (.int p3), .val (.long q4), .second, .val (.long q5), .second, .val (.int x), .val (.int k), .val (.int cl), .val (.ref g), .unset] [(.int k)])) _
  refine XS.iconst X0.here hx rfl (hb hby at_109) ?_
  show Steps p.tables e below (T0.setTop (mkF m 110 #[.val (.int p1), .val (.int p2), .val (.int p3), .val (.long q4), .second, .val (.long q5), .second, .val (.int x), .val (.int k), .val (.int cl), .val (.ref g), .unset] [(.int (5 : Int32)), (.int k)])) _
  refine XS.icmpNo X0.here hx rfl (hb hby at_110) rfl (tlt hc110).2.2.2 ?_
  show Steps p.tables e below (T0.setTop (mkF m 113 #[.val (.int p1), .val (.int p2), .val (.int p3), .val (.long q4), .second, .val (.long q5), .second, .val (.int x), .val (.int k), .val (.int cl), .val (.ref g), .unset] [])) _
  refine XS.aload X0.here hx rfl (hb hby at_113) rfl rfl ?_
  show Steps p.tables e below (T0.setTop (mkF m 115 #[.val (.int p1), .val (.int p2), .val (.int p3), .val (.long q4), .second, .val (.long q5), .second, .val (.int x), .val (.int k), .val (.int cl), .val (.ref g), .unset] [(.ref g)])) _
  refine XS.lloadN X0.here hx rfl (hb hby at_115) rfl ?_
  show Steps p.tables e below (T0.setTop (mkF m 116 #[.val (.int p1), .val (.int p2), .val (.int p3), .val (.long q4), .second, .val (.long q5), .second, .val (.int x), .val (.int k), .val (.int cl), .val (.ref g), .unset] [(.long q4), (.ref g)])) _
  refine st6.trans ?_
  exact kt
set_option maxRecDepth 65536 in
set_option maxHeartbeats 40000000 in
theorem own_s6_t {p : Program} {l : Launch} {e : Env} {R : Room} {s : State} {m : MethodId} {args : Array Value} {below : List Frame} {meth : Method} {c : Code} {T0 : State} {locs : List Loc} {cells slots : Nat} {Z : State} {a0 : Array Value} {h0 : Heap} (s0 : Slot) (s1 : Slot) (s2 : Slot) (s3 : Slot) (s4 : Slot) (s5 : Slot) (s6 : Slot) (s7 : Slot) (i8 : Int32) (s9 : Slot) (s10 : Slot) (s11 : Slot)
    (X0 : Stand p l e R s m args below meth c T0 locs cells slots) (hx : p.tables.exec = Jvm.exec) (hZ : Z.Warmed39 s.vm) (hw : ∀ d ∈ tables_1, d.before a0 Z = true) (hby : c.code = code) (hml : c.maxLocals = 12) (hown : s.vm.findClass "com/example/throttl/throttl/GrantsHasNthMostRecentPinLaw" = some m.cls) (e0 : T0.heap = h0) (hc123 : ¬ ((6 : Int32) < i8)) :
    ∀ target, Steps p.tables e below (T0.setTop (mkF m 132 #[s0, s1, s2, s3, s4, s5, s6, s7, .val (.int i8), s9, s10, s11] [])) target → Steps p.tables e below (T0.setTop (mkF m 119 #[s0, s1, s2, s3, s4, s5, s6, s7, .val (.int i8), s9, s10, s11] [])) target := by

  intro target kt
  show Steps p.tables e below (T0.setTop (mkF m 119 #[s0, s1, s2, s3, s4, s5, s6, s7, .val (.int i8), s9, s10, s11] [])) _
  refine XS.iload X0.here hx rfl (hb hby at_119) rfl ?_
  show Steps p.tables e below (T0.setTop (mkF m 121 #[s0, s1, s2, s3, s4, s5, s6, s7, .val (.int i8), s9, s10, s11] [(.int i8)])) _
  refine XS.bipush X0.here hx rfl (hb hby at_121) ?_
  show Steps p.tables e below (T0.setTop (mkF m 123 #[s0, s1, s2, s3, s4, s5, s6, s7, .val (.int i8), s9, s10, s11] [(.int (6 : Int32)), (.int i8)])) _
  refine XS.icmpYes X0.here hx rfl (pc0 := 123) (pc' := 132) rfl (hb hby at_123) rfl (flt hc123).2.2.2 (by decide) (by decide) ?_
  exact kt
set_option maxRecDepth 65536 in
set_option maxHeartbeats 40000000 in
theorem own_s6 {p : Program} {l : Launch} {e : Env} {s : State} {m : MethodId} {args : Array Value} {below : List Frame} {meth : Method} {c : Code} {T0 : State} {locs : List Loc} {cells slots : Nat} {Z : State} {a0 : Array Value} (p1 p2 p3 : Int32) (q4 q5 : Int64) (x k cl : Int32) (g : Addr) (n0 n : Nat) (X0 : Stand p l e room_1 s m args below meth c T0 locs cells slots) (hx : p.tables.exec = Jvm.exec) (hZ : Z.Warmed39 s.vm) (hw : ∀ d ∈ tables_1, d.before a0 Z = true) (hby : c.code = code) (hml : c.maxLocals = 12) (hown : s.vm.findClass "com/example/throttl/throttl/GrantsHasNthMostRecentPinLaw" = some m.cls) (hn1 : 1 ≤ n) (hn8 : n < 9) (Z0 : n0 ≤ T0.heap.size) (g_g : n0 ≤ g) (N0 : Fr n0 locs) (hcells : cells + 1 ≤ room_1.cells) (hslots : slots + 8 ≤ room_1.slots) (G : GSx Z T0.heap g n 6 q4 n0) (hc123 : (6 : Int32) < k) :
    ∃ (T' : State) (locs' : List Loc), Stand p l e room_1 s m args below meth c T' locs' (cells + 1) (slots + 8) ∧ Fr n0 locs' ∧ n0 ≤ T'.heap.size ∧ GSx Z T'.heap g n (6 + 1) q4 n0 ∧ ∀ target, Steps p.tables e below (T'.setTop (mkF m 132 #[.val (.int p1), .val (.int p2), .val (.int p3), .val (.long q4), .second, .val (.long q5), .second, .val (.int x), .val (.int k), .val (.int cl), .val (.ref g), .unset] [])) target → Steps p.tables e below (T0.setTop (mkF m 119 #[.val (.int p1), .val (.int p2), .val (.int p3), .val (.long q4), .second, .val (.long q5), .second, .val (.int x), .val (.int k), .val (.int cl), .val (.ref g), .unset] [])) target := by
  obtain ⟨cq6, kq6, q6a, q6b, q6c⟩ := isOf hZ rfl G.exa
  obtain ⟨_, _, ⟨T6, L6, k6, n6⟩, -, X6, ⟨Lc6, hQ6, l6, y6, z6⟩, st6⟩ := X0.virtualBack hx (y := (⟨"com/example/throttl/throttl/Grants", "add", "(J)V"⟩ : MethodName)) (z := (⟨"com/example/throttl/throttl/Grants", "add", "(J)V"⟩ : MethodName)) hown (mvT hZ (hw _ (List.mem_of_getElem? (i := 32) rfl))) (mvT hZ (hw _ (List.mem_of_getElem? (i := 33) rfl))) (notFace_of_selects (args := #[]) (mvT hZ (hw _ (List.mem_of_getElem? (i := 35) rfl)))) (mvT hZ (hw _ (List.mem_of_getElem? (i := 35) rfl))) (mvT hZ (hw _ (List.mem_of_getElem? (i := 34) rfl))) (by decide) (backOf (W := 0) (own_addC l Z a0 hw g q4 n 6 hn1 hn8 (by decide) T0.heap n0 Z0 g_g G) hZ (hw _ (List.mem_of_getElem? (i := 36) rfl)) (hw _ (List.mem_of_getElem? (i := 2) rfl)) (by decide) (by decide)) q6a q6c (g := (mkF m 129 #[.val (.int p1), .val (.int p2), .val (.int p3), .val (.long q4), .second, .val (.long q5), .second, .val (.int x), .val (.int k), .val (.int cl), .val (.ref g), .unset] [(.long q4), (.ref g)])) rfl (by rw [hml]; rfl) (Steps.refl _) (argsL := [(.long q4)]) (rest := []) (lenOf own_pdJ rfl) rfl (by show 2 * 0 + _ ≤ _; exact Nat.le_of_eq rfl) (hb hby at_129) (fun _ _ => ⟨rfl, rfl, hcells, hslots⟩)
  dsimp only [Pt.U, Pt.locs, Pt.cells, Pt.slots] at X6 l6 y6 z6 st6 hQ6
  subst l6 y6 z6
  obtain ⟨rfl, N6q, hsz, G1⟩ := hQ6
  have N6 := Fr.app N0 N6q
  refine ⟨T6, _, X6, N6, Nat.le_trans Z0 hsz, G1, fun target kt => ?_⟩
  show Steps p.tables e below (T0.setTop (mkF m 119 #[.val (.int p1), .val (.int p2), .val (.int p3), .val (.long q4), .second, .val (.long q5), .second, .val (.int x), .val (.int k), .val (.int cl), .val (.ref g), .unset] [])) _
  refine XS.iload X0.here hx rfl (hb hby at_119) rfl ?_
  show Steps p.tables e below (T0.setTop (mkF m 121 #[.val (.int p1), .val (.int p2), .val (.int p3), .val (.long q4), .second, .val (.long q5), .second, .val (.int x), .val (.int k), .val (.int cl), .val (.ref g), .unset] [(.int k)])) _
  refine XS.bipush X0.here hx rfl (hb hby at_121) ?_
  show Steps p.tables e below (T0.setTop (mkF m 123 #[.val (.int p1), .val (.int p2), .val (.int p3), .val (.long q4), .second, .val (.long q5), .second, .val (.int x), .val (.int k), .val (.int cl), .val (.ref g), .unset] [(.int (6 : Int32)), (.int k)])) _
  refine XS.icmpNo X0.here hx rfl (hb hby at_123) rfl (tlt hc123).2.2.2 ?_
  show Steps p.tables e below (T0.setTop (mkF m 126 #[.val (.int p1), .val (.int p2), .val (.int p3), .val (.long q4), .second, .val (.long q5), .second, .val (.int x), .val (.int k), .val (.int cl), .val (.ref g), .unset] [])) _
  refine XS.aload X0.here hx rfl (hb hby at_126) rfl rfl ?_
  show Steps p.tables e below (T0.setTop (mkF m 128 #[.val (.int p1), .val (.int p2), .val (.int p3), .val (.long q4), .second, .val (.long q5), .second, .val (.int x), .val (.int k), .val (.int cl), .val (.ref g), .unset] [(.ref g)])) _
  refine XS.lloadN X0.here hx rfl (hb hby at_128) rfl ?_
  show Steps p.tables e below (T0.setTop (mkF m 129 #[.val (.int p1), .val (.int p2), .val (.int p3), .val (.long q4), .second, .val (.long q5), .second, .val (.int x), .val (.int k), .val (.int cl), .val (.ref g), .unset] [(.long q4), (.ref g)])) _
  refine st6.trans ?_
  exact kt
theorem own_lt_yes : ∀ i < 8, ∀ kk < 8, i < kk → (Int32.ofNat i) < (Int32.ofNat kk) := by decide +kernel
theorem own_lt_no : ∀ i < 8, ∀ kk < 8, ¬ (i < kk) → ¬ ((Int32.ofNat i) < (Int32.ofNat kk)) := by decide +kernel
theorem own_and7 (a : Int32) : ∃ k, k < 8 ∧ (a &&& (7 : Int32)) = Int32.ofNat k := by
  have e := Jvm.Kit.i32_mask a (7 : Int32) (k := 3) (by decide) (by decide)
  refine ⟨(a.toInt % 2 ^ 3).toNat, by omega, ?_⟩
  rw [← Int32.toInt_inj, e]
  have q : (a.toInt % 2 ^ 3).toNat < 2 ^ 31 := by omega
  rw [Int32.toInt_ofNat_small q]
  omega
theorem own_one : ∀ k < 8, (1 : Int32) + Int32.ofNat k = Int32.ofNat (k + 1) := by decide +kernel
theorem own_kp : ∀ n < 9, 1 ≤ n → (0 : Int32) < Int32.ofNat n ∧ ¬ (Int32.ofNat n < (1 : Int32)) := by decide +kernel
def own_step (i : Nat) (kk : Nat) : Nat := min i kk
set_option maxRecDepth 65536 in
set_option maxHeartbeats 40000000 in
theorem own_segs {p : Program} {l : Launch} {e : Env} {s : State} {m : MethodId} {args : Array Value} {below : List Frame} {meth : Method} {c : Code} {T0 : State} {locs : List Loc} {Z : State} {a0 : Array Value} (p1 p2 p3 : Int32) (q4 q5 : Int64) (x cl : Int32) (g : Addr) (n0 n kk : Nat) (X0 : Stand p l e room_1 s m args below meth c T0 locs 1 7) (hx : p.tables.exec = Jvm.exec) (hZ : Z.Warmed39 s.vm) (hw : ∀ d ∈ tables_1, d.before a0 Z = true) (hby : c.code = code) (hml : c.maxLocals = 12) (hown : s.vm.findClass "com/example/throttl/throttl/GrantsHasNthMostRecentPinLaw" = some m.cls) (hn1 : 1 ≤ n) (hn8 : n < 9) (hk8 : kk < 8) (Z0 : n0 ≤ T0.heap.size) (g_g : n0 ≤ g) (N0 : Fr n0 locs) (G : GSx Z T0.heap g n 0 q4 n0) :
    ∃ (T' : State) (locs' : List Loc), Stand p l e room_1 s m args below meth c T' locs' 8 63 ∧ Fr n0 locs' ∧ n0 ≤ T'.heap.size ∧ GSx Z T'.heap g n kk q4 n0 ∧ ∀ target, Steps p.tables e below (T'.setTop (mkF m 132 #[.val (.int p1), .val (.int p2), .val (.int p3), .val (.long q4), .second, .val (.long q5), .second, .val (.int x), .val (.int (Int32.ofNat kk)), .val (.int cl), .val (.ref g), .unset] [])) target → Steps p.tables e below (T0.setTop (mkF m 48 #[.val (.int p1), .val (.int p2), .val (.int p3), .val (.long q4), .second, .val (.long q5), .second, .val (.int x), .val (.int (Int32.ofNat kk)), .val (.int cl), .val (.ref g), .unset] [])) target := by
  have base : ∃ (T' : State) (locs' : List Loc), Stand p l e room_1 s m args below meth c T' locs' 1 7 ∧ Fr n0 locs' ∧ n0 ≤ T'.heap.size ∧ GSx Z T'.heap g n (min 0 kk) q4 n0 ∧ ∀ target, Steps p.tables e below (T'.setTop (mkF m 48 #[.val (.int p1), .val (.int p2), .val (.int p3), .val (.long q4), .second, .val (.long q5), .second, .val (.int x), .val (.int (Int32.ofNat kk)), .val (.int cl), .val (.ref g), .unset] [])) target → Steps p.tables e below (T0.setTop (mkF m 48 #[.val (.int p1), .val (.int p2), .val (.int p3), .val (.long q4), .second, .val (.long q5), .second, .val (.int x), .val (.int (Int32.ofNat kk)), .val (.int cl), .val (.ref g), .unset] [])) target := ⟨T0, locs, X0, N0, Z0, by rw [Nat.zero_min]; exact G, fun _ k => k⟩
  have sg0 : ∃ (T' : State) (locs' : List Loc), Stand p l e room_1 s m args below meth c T' locs' 2 15 ∧ Fr n0 locs' ∧ n0 ≤ T'.heap.size ∧ GSx Z T'.heap g n (min 1 kk) q4 n0 ∧ ∀ target, Steps p.tables e below (T'.setTop (mkF m 59 #[.val (.int p1), .val (.int p2), .val (.int p3), .val (.long q4), .second, .val (.long q5), .second, .val (.int x), .val (.int (Int32.ofNat kk)), .val (.int cl), .val (.ref g), .unset] [])) target → Steps p.tables e below (T0.setTop (mkF m 48 #[.val (.int p1), .val (.int p2), .val (.int p3), .val (.long q4), .second, .val (.long q5), .second, .val (.int x), .val (.int (Int32.ofNat kk)), .val (.int cl), .val (.ref g), .unset] [])) target := by
    obtain ⟨T1, L1, X1, N1, Z1, G1, st1⟩ := base
    by_cases q : 0 < kk
    · have m0 : min 0 kk = 0 := Nat.min_eq_left (Nat.le_of_lt q)
      have m1 : min 1 kk = 0 + 1 := Nat.min_eq_left q
      rw [m0] at G1
      rw [m1]
      obtain ⟨T2, L2, X2, N2, Z2, G2, st2⟩ := own_s0 p1 p2 p3 q4 q5 x (Int32.ofNat kk) cl g n0 n X1 hx hZ hw hby hml hown hn1 hn8 Z1 g_g N1 (by decide) (by decide) G1 (own_lt_yes 0 (by decide) kk hk8 q)
      exact ⟨T2, L2, X2, N2, Z2, G2, fun t k => st1 t (st2 t k)⟩
    · have m0 : min 0 kk = kk := Nat.min_eq_right (Nat.le_of_not_lt q)
      have m1 : min 1 kk = kk := Nat.min_eq_right (Nat.le_trans (Nat.le_of_not_lt q) (by decide))
      rw [m0] at G1
      rw [m1]
      exact ⟨T1, L1, X1.more (by decide) (by decide), N1, Z1, G1, fun t k => st1 t (own_s0_t _ _ _ _ _ _ _ _ _ _ _ _ X1 hx hZ hw hby hml hown rfl (own_lt_no 0 (by decide) kk hk8 q) t k)⟩
  have sg1 : ∃ (T' : State) (locs' : List Loc), Stand p l e room_1 s m args below meth c T' locs' 3 23 ∧ Fr n0 locs' ∧ n0 ≤ T'.heap.size ∧ GSx Z T'.heap g n (min 2 kk) q4 n0 ∧ ∀ target, Steps p.tables e below (T'.setTop (mkF m 71 #[.val (.int p1), .val (.int p2), .val (.int p3), .val (.long q4), .second, .val (.long q5), .second, .val (.int x), .val (.int (Int32.ofNat kk)), .val (.int cl), .val (.ref g), .unset] [])) target → Steps p.tables e below (T0.setTop (mkF m 48 #[.val (.int p1), .val (.int p2), .val (.int p3), .val (.long q4), .second, .val (.long q5), .second, .val (.int x), .val (.int (Int32.ofNat kk)), .val (.int cl), .val (.ref g), .unset] [])) target := by
    obtain ⟨T1, L1, X1, N1, Z1, G1, st1⟩ := sg0
    by_cases q : 1 < kk
    · have m0 : min 1 kk = 1 := Nat.min_eq_left (Nat.le_of_lt q)
      have m1 : min 2 kk = 1 + 1 := Nat.min_eq_left q
      rw [m0] at G1
      rw [m1]
      obtain ⟨T2, L2, X2, N2, Z2, G2, st2⟩ := own_s1 p1 p2 p3 q4 q5 x (Int32.ofNat kk) cl g n0 n X1 hx hZ hw hby hml hown hn1 hn8 Z1 g_g N1 (by decide) (by decide) G1 (own_lt_yes 1 (by decide) kk hk8 q)
      exact ⟨T2, L2, X2, N2, Z2, G2, fun t k => st1 t (st2 t k)⟩
    · have m0 : min 1 kk = kk := Nat.min_eq_right (Nat.le_of_not_lt q)
      have m1 : min 2 kk = kk := Nat.min_eq_right (Nat.le_trans (Nat.le_of_not_lt q) (by decide))
      rw [m0] at G1
      rw [m1]
      exact ⟨T1, L1, X1.more (by decide) (by decide), N1, Z1, G1, fun t k => st1 t (own_s1_t _ _ _ _ _ _ _ _ _ _ _ _ X1 hx hZ hw hby hml hown rfl (own_lt_no 1 (by decide) kk hk8 q) t k)⟩
  have sg2 : ∃ (T' : State) (locs' : List Loc), Stand p l e room_1 s m args below meth c T' locs' 4 31 ∧ Fr n0 locs' ∧ n0 ≤ T'.heap.size ∧ GSx Z T'.heap g n (min 3 kk) q4 n0 ∧ ∀ target, Steps p.tables e below (T'.setTop (mkF m 83 #[.val (.int p1), .val (.int p2), .val (.int p3), .val (.long q4), .second, .val (.long q5), .second, .val (.int x), .val (.int (Int32.ofNat kk)), .val (.int cl), .val (.ref g), .unset] [])) target → Steps p.tables e below (T0.setTop (mkF m 48 #[.val (.int p1), .val (.int p2), .val (.int p3), .val (.long q4), .second, .val (.long q5), .second, .val (.int x), .val (.int (Int32.ofNat kk)), .val (.int cl), .val (.ref g), .unset] [])) target := by
    obtain ⟨T1, L1, X1, N1, Z1, G1, st1⟩ := sg1
    by_cases q : 2 < kk
    · have m0 : min 2 kk = 2 := Nat.min_eq_left (Nat.le_of_lt q)
      have m1 : min 3 kk = 2 + 1 := Nat.min_eq_left q
      rw [m0] at G1
      rw [m1]
      obtain ⟨T2, L2, X2, N2, Z2, G2, st2⟩ := own_s2 p1 p2 p3 q4 q5 x (Int32.ofNat kk) cl g n0 n X1 hx hZ hw hby hml hown hn1 hn8 Z1 g_g N1 (by decide) (by decide) G1 (own_lt_yes 2 (by decide) kk hk8 q)
      exact ⟨T2, L2, X2, N2, Z2, G2, fun t k => st1 t (st2 t k)⟩
    · have m0 : min 2 kk = kk := Nat.min_eq_right (Nat.le_of_not_lt q)
      have m1 : min 3 kk = kk := Nat.min_eq_right (Nat.le_trans (Nat.le_of_not_lt q) (by decide))
      rw [m0] at G1
      rw [m1]
      exact ⟨T1, L1, X1.more (by decide) (by decide), N1, Z1, G1, fun t k => st1 t (own_s2_t _ _ _ _ _ _ _ _ _ _ _ _ X1 hx hZ hw hby hml hown rfl (own_lt_no 2 (by decide) kk hk8 q) t k)⟩
  have sg3 : ∃ (T' : State) (locs' : List Loc), Stand p l e room_1 s m args below meth c T' locs' 5 39 ∧ Fr n0 locs' ∧ n0 ≤ T'.heap.size ∧ GSx Z T'.heap g n (min 4 kk) q4 n0 ∧ ∀ target, Steps p.tables e below (T'.setTop (mkF m 95 #[.val (.int p1), .val (.int p2), .val (.int p3), .val (.long q4), .second, .val (.long q5), .second, .val (.int x), .val (.int (Int32.ofNat kk)), .val (.int cl), .val (.ref g), .unset] [])) target → Steps p.tables e below (T0.setTop (mkF m 48 #[.val (.int p1), .val (.int p2), .val (.int p3), .val (.long q4), .second, .val (.long q5), .second, .val (.int x), .val (.int (Int32.ofNat kk)), .val (.int cl), .val (.ref g), .unset] [])) target := by
    obtain ⟨T1, L1, X1, N1, Z1, G1, st1⟩ := sg2
    by_cases q : 3 < kk
    · have m0 : min 3 kk = 3 := Nat.min_eq_left (Nat.le_of_lt q)
      have m1 : min 4 kk = 3 + 1 := Nat.min_eq_left q
      rw [m0] at G1
      rw [m1]
      obtain ⟨T2, L2, X2, N2, Z2, G2, st2⟩ := own_s3 p1 p2 p3 q4 q5 x (Int32.ofNat kk) cl g n0 n X1 hx hZ hw hby hml hown hn1 hn8 Z1 g_g N1 (by decide) (by decide) G1 (own_lt_yes 3 (by decide) kk hk8 q)
      exact ⟨T2, L2, X2, N2, Z2, G2, fun t k => st1 t (st2 t k)⟩
    · have m0 : min 3 kk = kk := Nat.min_eq_right (Nat.le_of_not_lt q)
      have m1 : min 4 kk = kk := Nat.min_eq_right (Nat.le_trans (Nat.le_of_not_lt q) (by decide))
      rw [m0] at G1
      rw [m1]
      exact ⟨T1, L1, X1.more (by decide) (by decide), N1, Z1, G1, fun t k => st1 t (own_s3_t _ _ _ _ _ _ _ _ _ _ _ _ X1 hx hZ hw hby hml hown rfl (own_lt_no 3 (by decide) kk hk8 q) t k)⟩
  have sg4 : ∃ (T' : State) (locs' : List Loc), Stand p l e room_1 s m args below meth c T' locs' 6 47 ∧ Fr n0 locs' ∧ n0 ≤ T'.heap.size ∧ GSx Z T'.heap g n (min 5 kk) q4 n0 ∧ ∀ target, Steps p.tables e below (T'.setTop (mkF m 107 #[.val (.int p1), .val (.int p2), .val (.int p3), .val (.long q4), .second, .val (.long q5), .second, .val (.int x), .val (.int (Int32.ofNat kk)), .val (.int cl), .val (.ref g), .unset] [])) target → Steps p.tables e below (T0.setTop (mkF m 48 #[.val (.int p1), .val (.int p2), .val (.int p3), .val (.long q4), .second, .val (.long q5), .second, .val (.int x), .val (.int (Int32.ofNat kk)), .val (.int cl), .val (.ref g), .unset] [])) target := by
    obtain ⟨T1, L1, X1, N1, Z1, G1, st1⟩ := sg3
    by_cases q : 4 < kk
    · have m0 : min 4 kk = 4 := Nat.min_eq_left (Nat.le_of_lt q)
      have m1 : min 5 kk = 4 + 1 := Nat.min_eq_left q
      rw [m0] at G1
      rw [m1]
      obtain ⟨T2, L2, X2, N2, Z2, G2, st2⟩ := own_s4 p1 p2 p3 q4 q5 x (Int32.ofNat kk) cl g n0 n X1 hx hZ hw hby hml hown hn1 hn8 Z1 g_g N1 (by decide) (by decide) G1 (own_lt_yes 4 (by decide) kk hk8 q)
      exact ⟨T2, L2, X2, N2, Z2, G2, fun t k => st1 t (st2 t k)⟩
    · have m0 : min 4 kk = kk := Nat.min_eq_right (Nat.le_of_not_lt q)
      have m1 : min 5 kk = kk := Nat.min_eq_right (Nat.le_trans (Nat.le_of_not_lt q) (by decide))
      rw [m0] at G1
      rw [m1]
      exact ⟨T1, L1, X1.more (by decide) (by decide), N1, Z1, G1, fun t k => st1 t (own_s4_t _ _ _ _ _ _ _ _ _ _ _ _ X1 hx hZ hw hby hml hown rfl (own_lt_no 4 (by decide) kk hk8 q) t k)⟩
  have sg5 : ∃ (T' : State) (locs' : List Loc), Stand p l e room_1 s m args below meth c T' locs' 7 55 ∧ Fr n0 locs' ∧ n0 ≤ T'.heap.size ∧ GSx Z T'.heap g n (min 6 kk) q4 n0 ∧ ∀ target, Steps p.tables e below (T'.setTop (mkF m 119 #[.val (.int p1), .val (.int p2), .val (.int p3), .val (.long q4), .second, .val (.long q5), .second, .val (.int x), .val (.int (Int32.ofNat kk)), .val (.int cl), .val (.ref g), .unset] [])) target → Steps p.tables e below (T0.setTop (mkF m 48 #[.val (.int p1), .val (.int p2), .val (.int p3), .val (.long q4), .second, .val (.long q5), .second, .val (.int x), .val (.int (Int32.ofNat kk)), .val (.int cl), .val (.ref g), .unset] [])) target := by
    obtain ⟨T1, L1, X1, N1, Z1, G1, st1⟩ := sg4
    by_cases q : 5 < kk
    · have m0 : min 5 kk = 5 := Nat.min_eq_left (Nat.le_of_lt q)
      have m1 : min 6 kk = 5 + 1 := Nat.min_eq_left q
      rw [m0] at G1
      rw [m1]
      obtain ⟨T2, L2, X2, N2, Z2, G2, st2⟩ := own_s5 p1 p2 p3 q4 q5 x (Int32.ofNat kk) cl g n0 n X1 hx hZ hw hby hml hown hn1 hn8 Z1 g_g N1 (by decide) (by decide) G1 (own_lt_yes 5 (by decide) kk hk8 q)
      exact ⟨T2, L2, X2, N2, Z2, G2, fun t k => st1 t (st2 t k)⟩
    · have m0 : min 5 kk = kk := Nat.min_eq_right (Nat.le_of_not_lt q)
      have m1 : min 6 kk = kk := Nat.min_eq_right (Nat.le_trans (Nat.le_of_not_lt q) (by decide))
      rw [m0] at G1
      rw [m1]
      exact ⟨T1, L1, X1.more (by decide) (by decide), N1, Z1, G1, fun t k => st1 t (own_s5_t _ _ _ _ _ _ _ _ _ _ _ _ X1 hx hZ hw hby hml hown rfl (own_lt_no 5 (by decide) kk hk8 q) t k)⟩
  have sg6 : ∃ (T' : State) (locs' : List Loc), Stand p l e room_1 s m args below meth c T' locs' 8 63 ∧ Fr n0 locs' ∧ n0 ≤ T'.heap.size ∧ GSx Z T'.heap g n (min 7 kk) q4 n0 ∧ ∀ target, Steps p.tables e below (T'.setTop (mkF m 132 #[.val (.int p1), .val (.int p2), .val (.int p3), .val (.long q4), .second, .val (.long q5), .second, .val (.int x), .val (.int (Int32.ofNat kk)), .val (.int cl), .val (.ref g), .unset] [])) target → Steps p.tables e below (T0.setTop (mkF m 48 #[.val (.int p1), .val (.int p2), .val (.int p3), .val (.long q4), .second, .val (.long q5), .second, .val (.int x), .val (.int (Int32.ofNat kk)), .val (.int cl), .val (.ref g), .unset] [])) target := by
    obtain ⟨T1, L1, X1, N1, Z1, G1, st1⟩ := sg5
    by_cases q : 6 < kk
    · have m0 : min 6 kk = 6 := Nat.min_eq_left (Nat.le_of_lt q)
      have m1 : min 7 kk = 6 + 1 := Nat.min_eq_left q
      rw [m0] at G1
      rw [m1]
      obtain ⟨T2, L2, X2, N2, Z2, G2, st2⟩ := own_s6 p1 p2 p3 q4 q5 x (Int32.ofNat kk) cl g n0 n X1 hx hZ hw hby hml hown hn1 hn8 Z1 g_g N1 (by decide) (by decide) G1 (own_lt_yes 6 (by decide) kk hk8 q)
      exact ⟨T2, L2, X2, N2, Z2, G2, fun t k => st1 t (st2 t k)⟩
    · have m0 : min 6 kk = kk := Nat.min_eq_right (Nat.le_of_not_lt q)
      have m1 : min 7 kk = kk := Nat.min_eq_right (Nat.le_trans (Nat.le_of_not_lt q) (by decide))
      rw [m0] at G1
      rw [m1]
      exact ⟨T1, L1, X1.more (by decide) (by decide), N1, Z1, G1, fun t k => st1 t (own_s6_t _ _ _ _ _ _ _ _ _ _ _ _ X1 hx hZ hw hby hml hown rfl (own_lt_no 6 (by decide) kk hk8 q) t k)⟩
  obtain ⟨T1, L1, X1, N1, Z1, G1, st1⟩ := sg6
  have m7 : min (6 + 1) kk = kk := Nat.min_eq_right (Nat.le_of_lt_succ hk8)
  rw [m7] at G1
  exact ⟨T1, L1, X1, N1, Z1, G1, st1⟩
theorem pn_0 : plainName "com/example/throttl/throttl/GrantsHasNthMostRecentPinLaw" = true := by first | (simp [plainName, overriddenIn]; done) | decide +kernel
theorem pd_0_1 : parseMethodDescriptor "(IJ)V" = some ⟨[.int, .long], none⟩ := by decide +kernel
theorem ef_0 (m : MethodId) (x0 : Int32) (x1 : Int32) (x2 : Int32) (x3 : Int64) (x4 : Int64) : entryFrame m #[(.int x0), (.int x1), (.int x2), (.long x3), (.long x4)] maxLocals = mkF m 0 #[.val (.int x0), .val (.int x1), .val (.int x2), .val (.long x3), .second, .val (.long x4), .second, .unset, .unset, .unset, .unset, .unset] [] := by first | (simp [entryFrame, mkF, argsToLocals, Value.category, maxLocals]; done) | rfl
def Q0 (Z : State) (p1 : Int32) (p2 : Int32) (p3 : Int32) (q4 : Int64) (q5 : Int64) (h0 : Heap) (n0 : Nat) (v : Option Value) (h : Heap) (L : List Loc) : Prop := v = some (.int (1 : Int32)) ∧ Fr n0 L
set_option maxRecDepth 65536 in
set_option maxHeartbeats 40000000 in
theorem rm0 (l : Launch) (Z : State) (a0 : Array Value) (hw : ∀ d ∈ tables_1, d.before a0 Z = true) (ws : List Jvm.Cond) (p1 : Int32) (p2 : Int32) (p3 : Int32) (q4 : Int64) (q5 : Int64) (st : Addr) (cl_st : Cell) (n kk : Nat) (h0 : Heap) (n0 : Nat) (Z0 : n0 ≤ h0.size) (S_NO_STORAGE : Sta Z h0 "com/example/throttl/throttl/Grants" "NO_STORAGE" "[J" (.ref st)) (Ar_st : Arr Z h0 st cl_st .long) (S_st : cl_st.slots.size = 0) (hn1 : 1 ≤ n) (hn8 : n < 9) (hk8 : kk < 8) (hkk : (p2 &&& (7 : Int32)) = Int32.ofNat kk) (hnn : (1 : Int32) + (p3 &&& (7 : Int32)) = Int32.ofNat n) :
    MetFree l x (head1 (Jvm.Cond.code x code maxLocals ret :: ws) room_1) (fun a U => a = #[(.int p1), (.int p2), (.int p3), (.long q4), (.long q5)] ∧ Z.Warmed39 U.vm ∧ U.heap = h0) (fun _ _ _ _ _ => True) (fun _ U o U' => ∃ v L, o = .returned v ∧ Q0 Z p1 p2 p3 q4 q5 h0 n0 v U'.heap L ∧ FrameEnd U o U' L room_1.cells room_1.slots) := by
  refine MetFree.of_bodySF (plainFor_of_name pn_0) hisR ?_
  intro p e s m args below meth c s₁ Bd hml0 hP hK
  obtain ⟨rfl, hZ, hh⟩ := hP
  have hx := Bd.exec
  have hby := Bd.bytes
  have hml : c.maxLocals = 12 := hml0
  have hown : s.vm.findClass "com/example/throttl/throttl/GrantsHasNthMostRecentPinLaw" = some m.cls := findClass_of_methodNamed Bd.named
  have hnm := (name_of_methodNamed Bd.named Bd.method).1
  have X0 : Stand p l e room_1 s m #[(.int p1), (.int p2), (.int p3), (.long q4), (.long q5)] below meth c s₁ [] 0 0 := Stand.of_body Bd
  have e0 : s₁.heap = h0 := by rw [← hh, Bd.state]; rfl
  have N0 := Fr.nil n0
  have pre0 : ∀ t, Steps p.tables e below (s₁.setTop (mkF m 0 #[.val (.int p1), .val (.int p2), .val (.int p3), .val (.long q4), .second, .val (.long q5), .second, .unset, .unset, .unset, .unset, .unset] [])) t → Steps p.tables e below (s₁.setTop (entryFrame m #[(.int p1), (.int p2), (.int p3), (.long q4), (.long q5)] maxLocals)) t := fun t k => castTop (ef_0 m p1 p2 p3 q4 q5) k
  obtain ⟨T6, h6, X6, e6, E6, A6, D6, -, st6⟩ := newO X0 hx hZ hown (hw _ (List.mem_of_getElem? (i := 0) rfl)) (hw _ (List.mem_of_getElem? (i := 1) rfl)) (hw _ (List.mem_of_getElem? (i := 2) rfl)) e0 (g := (mkF m 30 #[.val (.int p1), .val (.int p2), .val (.int p3), .val (.long q4), .second, .val (.long q5), .second, .val (.int (own_x p1)), .val (.int (p2 &&& (7 : Int32))), .val (.int ((1 : Int32) + (p3 &&& (7 : Int32)))), .unset, .unset] [])) rfl (hb hby at_30) (by decide) (by decide)
  obtain ⟨b6, g6⟩ : ∃ z, z = h0.size := ⟨_, rfl⟩
  rw [← g6] at A6 D6 st6
  have F_instants_b6 : Fld Z h6 b6 "com/example/throttl/throttl/Grants" "instants" "[J" .null := D6 (Or.inl (hw _ (List.mem_of_getElem? (i := 12) rfl))) (ty := (.array .long)) (by decide)
  have F_due_b6 : Fld Z h6 b6 "com/example/throttl/throttl/Grants" "due" "J" (.long (0 : Int64)) := D6 (Or.inl (hw _ (List.mem_of_getElem? (i := 15) rfl))) (ty := .long) (by decide)
  have F_keep_b6 : Fld Z h6 b6 "com/example/throttl/throttl/Grants" "keep" "I" (.int (0 : Int32)) := D6 (Or.inl (hw _ (List.mem_of_getElem? (i := 22) rfl))) (ty := .int) (by decide)
  have F_keptForMillis_b6 : Fld Z h6 b6 "com/example/throttl/throttl/Grants" "keptForMillis" "J" (.long (0 : Int64)) := D6 (Or.inl (hw _ (List.mem_of_getElem? (i := 28) rfl))) (ty := .long) (by decide)
  have F_size_b6 : Fld Z h6 b6 "com/example/throttl/throttl/Grants" "size" "I" (.int (0 : Int32)) := D6 (Or.inl (hw _ (List.mem_of_getElem? (i := 38) rfl))) (ty := .int) (by decide)
  have F_oldest_b6 : Fld Z h6 b6 "com/example/throttl/throttl/Grants" "oldest" "I" (.int (0 : Int32)) := D6 (Or.inl (hw _ (List.mem_of_getElem? (i := 50) rfl))) (ty := .int) (by decide)
  have F_forgotten_b6 : Fld Z h6 b6 "com/example/throttl/throttl/Grants" "forgotten" "J" (.long (0 : Int64)) := D6 (Or.inl (hw _ (List.mem_of_getElem? (i := 62) rfl))) (ty := .long) (by decide)
  have E_b6 := A6
  have g_b6 : n0 ≤ b6 := Nat.le_trans Z0 (Nat.le_of_eq g6.symm)
  have sz_b6 : h0.size ≤ b6 := (Nat.le_trans (Keep.refl h0 []).1 (Nat.le_of_eq g6.symm))
  have K6 : Keep h0 h6 [] := (Keep.refl h0 []).ext E6
  have Z6 : n0 ≤ h6.size := Nat.le_trans Z0 E6.1
  have B6 : GB Z h6 b6 0 0 0 0 0 .null := ⟨A6, F_keep_b6, F_size_b6, F_oldest_b6, F_forgotten_b6, F_keptForMillis_b6, F_instants_b6⟩
  obtain ⟨_, _, ⟨T7, L7, k7, n7⟩, -, X7, ⟨Lc7, hQ7, l7, y7, z7⟩, st7⟩ := X6.specialBack hx (y := (⟨"com/example/throttl/throttl/Grants", "<init>", "()V"⟩ : MethodName)) rfl hown (mvT hZ (hw _ (List.mem_of_getElem? (i := 3) rfl))) (mvT hZ (hw _ (List.mem_of_getElem? (i := 4) rfl))) (mvT hZ (hw _ (List.mem_of_getElem? (i := 5) rfl))) (by decide) (backOf (W := 1) (rm1 l Z a0 hw [] b6 0 0 0 0 0 st h6 n0 Z6 B6 F_due_b6 g_b6 (S_NO_STORAGE.ext E6)) hZ (hw _ (List.mem_of_getElem? (i := 5) rfl)) (hw _ (List.mem_of_getElem? (i := 2) rfl)) (by decide) (by decide)) (g := (mkF m 34 #[.val (.int p1), .val (.int p2), .val (.int p3), .val (.long q4), .second, .val (.long q5), .second, .val (.int (own_x p1)), .val (.int (p2 &&& (7 : Int32))), .val (.int ((1 : Int32) + (p3 &&& (7 : Int32)))), .unset, .unset] [(.ref b6), (.ref b6)])) rfl (by rw [hml]; rfl) (Steps.refl _) (a := b6) (argsL := []) (rest := [(.ref b6)]) (lenOf pd_6_0_first rfl) rfl (by show 2 * 0 + _ ≤ _; exact Nat.le_of_eq rfl) (hb hby at_34) (fun _ _ => ⟨rfl, e6, (by decide : 1 + 0 ≤ _), (by decide : 7 + 0 ≤ _)⟩)
  dsimp only [Pt.U, Pt.locs, Pt.cells, Pt.slots] at X7 l7 y7 z7 st7 hQ7
  subst l7 y7 z7
  obtain ⟨rfl, N7q, KK7, B7⟩ := hQ7
  have Z7 : n0 ≤ T7.heap.size := Nat.le_trans Z6 KK7.1
  have N7 := Fr.app N0 N7q
  obtain ⟨cq8, kq8, q8a, q8b, q8c⟩ := isOf hZ rfl B7.1
  obtain ⟨_, _, ⟨T8, L8, k8, n8⟩, -, X8, ⟨Lc8, hQ8, l8, y8, z8⟩, st8⟩ := X7.virtualBack hx (y := (⟨"com/example/throttl/throttl/Grants", "keepFor", "(IJ)V"⟩ : MethodName)) (z := (⟨"com/example/throttl/throttl/Grants", "keepFor", "(IJ)V"⟩ : MethodName)) hown (mvT hZ (hw _ (List.mem_of_getElem? (i := 16) rfl))) (mvT hZ (hw _ (List.mem_of_getElem? (i := 17) rfl))) (notFace_of_selects (args := #[]) (mvT hZ (hw _ (List.mem_of_getElem? (i := 19) rfl)))) (mvT hZ (hw _ (List.mem_of_getElem? (i := 19) rfl))) (mvT hZ (hw _ (List.mem_of_getElem? (i := 18) rfl))) (by decide) (backOf (W := 0) (own_keepC l Z a0 hw b6 ((1 : Int32) + (p3 &&& (7 : Int32))) q5 0 0 0 0 0 (.ref st) T7.heap n0 Z7 B7 g_b6 (by rw [hnn]; exact (own_kp n hn8 hn1).1) (by rw [hnn]; exact (own_kp n hn8 hn1).2)) hZ (hw _ (List.mem_of_getElem? (i := 20) rfl)) (hw _ (List.mem_of_getElem? (i := 2) rfl)) (by decide) (by decide)) q8a q8c (g := (mkF m 45 #[.val (.int p1), .val (.int p2), .val (.int p3), .val (.long q4), .second, .val (.long q5), .second, .val (.int (own_x p1)), .val (.int (p2 &&& (7 : Int32))), .val (.int ((1 : Int32) + (p3 &&& (7 : Int32)))), .val (.ref b6), .unset] [(.long q5), (.int ((1 : Int32) + (p3 &&& (7 : Int32)))), (.ref b6)])) rfl (by rw [hml]; rfl) (Steps.refl _) (argsL := [(.int ((1 : Int32) + (p3 &&& (7 : Int32)))), (.long q5)]) (rest := []) (lenOf pd_0_1 rfl) rfl (by show 2 * 0 + _ ≤ _; exact Nat.le_of_eq rfl) (hb hby at_45) (fun _ _ => ⟨rfl, rfl, (by decide : 1 + 0 ≤ _), (by decide : 7 + 0 ≤ _)⟩)
  dsimp only [Pt.U, Pt.locs, Pt.cells, Pt.slots] at X8 l8 y8 z8 st8 hQ8
  subst l8 y8 z8
  obtain ⟨rfl, N8q, KK8, km8, B8⟩ := hQ8
  have Z8 : n0 ≤ T8.heap.size := Nat.le_trans Z7 KK8.1
  have ne_st : st ∉ [b6] := ninS (Nat.ne_of_lt (Nat.lt_of_lt_of_le Ar_st.lt sz_b6)) nin0
  have Ar8 : Arr Z T8.heap st cl_st .long := ⟨KK8.2.1 _ _ (KK7.2.1 _ _ (E6.2 _ _ Ar_st.1) ne_st) ne_st, Ar_st.2⟩
  have G8 : GSx Z T8.heap b6 n 0 q4 n0 := by
    refine ⟨km8, st, ?_, Or.inl ⟨rfl, cl_st, Ar8, S_st⟩⟩
    rw [Nat.zero_min, Nat.sub_self, Nat.zero_mod, ← hnn]
    exact B8
  have N8 := Fr.app N7 N8q
  obtain ⟨TL, LL, XL, NL, ZL, GL, stL⟩ := own_segs p1 p2 p3 q4 q5 (own_x p1) ((1 : Int32) + (p3 &&& (7 : Int32))) b6 n0 n kk X8 hx hZ hw hby hml hown hn1 hn8 hk8 Z8 g_b6 N8 G8
  rw [← hkk] at stL
  have hasC := own_hasC l Z a0 hw b6 (own_x p1) q4 n kk hn1 hn8 hk8 TL.heap n0 ZL GL
  rw [← hkk] at hasC
  obtain ⟨cq9, kq9, q9a, q9b, q9c⟩ := isOf hZ rfl GL.exa
  obtain ⟨_, _, ⟨T9, L9, k9, n9⟩, -, X9, ⟨Lc9, hQ9, l9, y9, z9⟩, st9⟩ := XL.virtualBack hx (y := (⟨"com/example/throttl/throttl/Grants", "hasNthMostRecent", "(I)Z"⟩ : MethodName)) (z := (⟨"com/example/throttl/throttl/Grants", "hasNthMostRecent", "(I)Z"⟩ : MethodName)) hown (mvT hZ (hw _ (List.mem_of_getElem? (i := 66) rfl))) (mvT hZ (hw _ (List.mem_of_getElem? (i := 57) rfl))) (notFace_of_selects (args := #[]) (mvT hZ (hw _ (List.mem_of_getElem? (i := 59) rfl)))) (mvT hZ (hw _ (List.mem_of_getElem? (i := 59) rfl))) (mvT hZ (hw _ (List.mem_of_getElem? (i := 58) rfl))) (by decide) (backOf (W := 0) (hasC) hZ (hw _ (List.mem_of_getElem? (i := 60) rfl)) (hw _ (List.mem_of_getElem? (i := 2) rfl)) (by decide) (by decide)) q9a q9c (g := (mkF m 150 #[.val (.int p1), .val (.int p2), .val (.int p3), .val (.long q4), .second, .val (.long q5), .second, .val (.int (own_x p1)), .val (.int (p2 &&& (7 : Int32))), .val (.int ((1 : Int32) + (p3 &&& (7 : Int32)))), .val (.ref b6), .val (.int (own_has (own_x p1) (p2 &&& (7 : Int32))))] [(.int (own_x p1)), (.ref b6)])) rfl (by rw [hml]; rfl) (Steps.refl _) (argsL := [(.int (own_x p1))]) (rest := []) (lenOf pd_9_6 rfl) rfl (by show 2 * 0 + _ ≤ _; exact Nat.le_of_eq rfl) (hb hby at_150) (fun _ _ => ⟨rfl, rfl, (by decide : 8 + 0 ≤ _), (by decide : 63 + 0 ≤ _)⟩)
  dsimp only [Pt.U, Pt.locs, Pt.cells, Pt.slots] at X9 l9 y9 z9 st9 hQ9
  subst l9 y9 z9
  obtain ⟨rfl, N9q, hh9⟩ := hQ9
  have N9 := Fr.app NL N9q
  obtain ⟨fs, hr, hrun, hended, hW, hsame⟩ := X9.leave (v := some (.int (1 : Int32))) (fun h => by rw [Bd.returns] at h; cases h)
  refine ⟨_, _, pre0 _ ?_, hrun, hended, _, _, rfl, ?_, ⟨_, rfl⟩, hW, hsame.mono (by decide) (by decide)⟩
  · show Steps p.tables e below (s₁.setTop (mkF m 0 #[.val (.int p1), .val (.int p2), .val (.int p3), .val (.long q4), .second, .val (.long q5), .second, .unset, .unset, .unset, .unset, .unset] [])) _
    refine own_segA p1 p2 p3 q4 q5 X0 hx hZ hw hby hml hown e0 _ ?_
    show Steps p.tables e below (s₁.setTop (mkF m 16 #[.val (.int p1), .val (.int p2), .val (.int p3), .val (.long q4), .second, .val (.long q5), .second, .val (.int (own_x p1)), .unset, .unset, .unset, .unset] [])) _
    refine XS.iloadN X0.here hx rfl (hb hby at_16) rfl ?_
    show Steps p.tables e below (s₁.setTop (mkF m 17 #[.val (.int p1), .val (.int p2), .val (.int p3), .val (.long q4), .second, .val (.long q5), .second, .val (.int (own_x p1)), .unset, .unset, .unset, .unset] [(.int p2)])) _
    refine XS.bipush X0.here hx rfl (hb hby at_17) ?_
    show Steps p.tables e below (s₁.setTop (mkF m 19 #[.val (.int p1), .val (.int p2), .val (.int p3), .val (.long q4), .second, .val (.long q5), .second, .val (.int (own_x p1)), .unset, .unset, .unset, .unset] [(.int (7 : Int32)), (.int p2)])) _
    refine XS.iand X0.here hx rfl (hb hby at_19) rfl ?_
    show Steps p.tables e below (s₁.setTop (mkF m 20 #[.val (.int p1), .val (.int p2), .val (.int p3), .val (.long q4), .second, .val (.long q5), .second, .val (.int (own_x p1)), .unset, .unset, .unset, .unset] [(.int (p2 &&& (7 : Int32)))])) _
    refine XS.istore X0.here hx rfl (hb hby at_20) rfl (l' := #[.val (.int p1), .val (.int p2), .val (.int p3), .val (.long q4), .second, .val (.long q5), .second, .val (.int (own_x p1)), .val (.int (p2 &&& (7 : Int32))), .unset, .unset, .unset]) rfl ?_
    show Steps p.tables e below (s₁.setTop (mkF m 22 #[.val (.int p1), .val (.int p2), .val (.int p3), .val (.long q4), .second, .val (.long q5), .second, .val (.int (own_x p1)), .val (.int (p2 &&& (7 : Int32))), .unset, .unset, .unset] [])) _
    refine XS.iconst X0.here hx rfl (hb hby at_22) ?_
    show Steps p.tables e below (s₁.setTop (mkF m 23 #[.val (.int p1), .val (.int p2), .val (.int p3), .val (.long q4), .second, .val (.long q5), .second, .val (.int (own_x p1)), .val (.int (p2 &&& (7 : Int32))), .unset, .unset, .unset] [(.int (1 : Int32))])) _
    refine XS.iloadN X0.here hx rfl (hb hby at_23) rfl ?_
    show Steps p.tables e below (s₁.setTop (mkF m 24 #[.val (.int p1), .val (.int p2), .val (.int p3), .val (.long q4), .second, .val (.long q5), .second, .val (.int (own_x p1)), .val (.int (p2 &&& (7 : Int32))), .unset, .unset, .unset] [(.int p3), (.int (1 : Int32))])) _
    refine XS.bipush X0.here hx rfl (hb hby at_24) ?_
    show Steps p.tables e below (s₁.setTop (mkF m 26 #[.val (.int p1), .val (.int p2), .val (.int p3), .val (.long q4), .second, .val (.long q5), .second, .val (.int (own_x p1)), .val (.int (p2 &&& (7 : Int32))), .unset, .unset, .unset] [(.int (7 : Int32)), (.int p3), (.int (1 : Int32))])) _
    refine XS.iand X0.here hx rfl (hb hby at_26) rfl ?_
    show Steps p.tables e below (s₁.setTop (mkF m 27 #[.val (.int p1), .val (.int p2), .val (.int p3), .val (.long q4), .second, .val (.long q5), .second, .val (.int (own_x p1)), .val (.int (p2 &&& (7 : Int32))), .unset, .unset, .unset] [(.int (p3 &&& (7 : Int32))), (.int (1 : Int32))])) _
    refine XS.iadd X0.here hx rfl (hb hby at_27) rfl ?_
    show Steps p.tables e below (s₁.setTop (mkF m 28 #[.val (.int p1), .val (.int p2), .val (.int p3), .val (.long q4), .second, .val (.long q5), .second, .val (.int (own_x p1)), .val (.int (p2 &&& (7 : Int32))), .unset, .unset, .unset] [(.int ((1 : Int32) + (p3 &&& (7 : Int32))))])) _
    refine XS.istore X0.here hx rfl (hb hby at_28) rfl (l' := #[.val (.int p1), .val (.int p2), .val (.int p3), .val (.long q4), .second, .val (.long q5), .second, .val (.int (own_x p1)), .val (.int (p2 &&& (7 : Int32))), .val (.int ((1 : Int32) + (p3 &&& (7 : Int32)))), .unset, .unset]) rfl ?_
    show Steps p.tables e below (s₁.setTop (mkF m 30 #[.val (.int p1), .val (.int p2), .val (.int p3), .val (.long q4), .second, .val (.long q5), .second, .val (.int (own_x p1)), .val (.int (p2 &&& (7 : Int32))), .val (.int ((1 : Int32) + (p3 &&& (7 : Int32)))), .unset, .unset] [])) _
    refine st6 _ ?_
    show Steps p.tables e below (T6.setTop (mkF m 33 #[.val (.int p1), .val (.int p2), .val (.int p3), .val (.long q4), .second, .val (.long q5), .second, .val (.int (own_x p1)), .val (.int (p2 &&& (7 : Int32))), .val (.int ((1 : Int32) + (p3 &&& (7 : Int32)))), .unset, .unset] [(.ref b6)])) _
    refine XS.dup X6.here hx rfl (hb hby at_33) rfl rfl ?_
    show Steps p.tables e below (T6.setTop (mkF m 34 #[.val (.int p1), .val (.int p2), .val (.int p3), .val (.long q4), .second, .val (.long q5), .second, .val (.int (own_x p1)), .val (.int (p2 &&& (7 : Int32))), .val (.int ((1 : Int32) + (p3 &&& (7 : Int32)))), .unset, .unset] [(.ref b6), (.ref b6)])) _
    refine st7.trans ?_
    show Steps p.tables e below (T7.setTop (mkF m 37 #[.val (.int p1), .val (.int p2), .val (.int p3), .val (.long q4), .second, .val (.long q5), .second, .val (.int (own_x p1)), .val (.int (p2 &&& (7 : Int32))), .val (.int ((1 : Int32) + (p3 &&& (7 : Int32)))), .unset, .unset] [(.ref b6)])) _
    refine XS.astore X7.here hx rfl (hb hby at_37) rfl rfl (l' := #[.val (.int p1), .val (.int p2), .val (.int p3), .val (.long q4), .second, .val (.long q5), .second, .val (.int (own_x p1)), .val (.int (p2 &&& (7 : Int32))), .val (.int ((1 : Int32) + (p3 &&& (7 : Int32)))), .val (.ref b6), .unset]) rfl ?_
    show Steps p.tables e below (T7.setTop (mkF m 39 #[.val (.int p1), .val (.int p2), .val (.int p3), .val (.long q4), .second, .val (.long q5), .second, .val (.int (own_x p1)), .val (.int (p2 &&& (7 : Int32))), .val (.int ((1 : Int32) + (p3 &&& (7 : Int32)))), .val (.ref b6), .unset] [])) _
    refine XS.aload X7.here hx rfl (hb hby at_39) rfl rfl ?_
    show Steps p.tables e below (T7.setTop (mkF m 41 #[.val (.int p1), .val (.int p2), .val (.int p3), .val (.long q4), .second, .val (.long q5), .second, .val (.int (own_x p1)), .val (.int (p2 &&& (7 : Int32))), .val (.int ((1 : Int32) + (p3 &&& (7 : Int32)))), .val (.ref b6), .unset] [(.ref b6)])) _
    refine XS.iload X7.here hx rfl (hb hby at_41) rfl ?_
    show Steps p.tables e below (T7.setTop (mkF m 43 #[.val (.int p1), .val (.int p2), .val (.int p3), .val (.long q4), .second, .val (.long q5), .second, .val (.int (own_x p1)), .val (.int (p2 &&& (7 : Int32))), .val (.int ((1 : Int32) + (p3 &&& (7 : Int32)))), .val (.ref b6), .unset] [(.int ((1 : Int32) + (p3 &&& (7 : Int32)))), (.ref b6)])) _
    refine XS.lload X7.here hx rfl (hb hby at_43) rfl ?_
    show Steps p.tables e below (T7.setTop (mkF m 45 #[.val (.int p1), .val (.int p2), .val (.int p3), .val (.long q4), .second, .val (.long q5), .second, .val (.int (own_x p1)), .val (.int (p2 &&& (7 : Int32))), .val (.int ((1 : Int32) + (p3 &&& (7 : Int32)))), .val (.ref b6), .unset] [(.long q5), (.int ((1 : Int32) + (p3 &&& (7 : Int32)))), (.ref b6)])) _
    refine st8.trans ?_
    show Steps p.tables e below (T8.setTop (mkF m 48 #[.val (.int p1), .val (.int p2), .val (.int p3), .val (.long q4), .second, .val (.long q5), .second, .val (.int (own_x p1)), .val (.int (p2 &&& (7 : Int32))), .val (.int ((1 : Int32) + (p3 &&& (7 : Int32)))), .val (.ref b6), .unset] [])) _
    refine stL _ ?_
    show Steps p.tables e below (TL.setTop (mkF m 132 #[.val (.int p1), .val (.int p2), .val (.int p3), .val (.long q4), .second, .val (.long q5), .second, .val (.int (own_x p1)), .val (.int (p2 &&& (7 : Int32))), .val (.int ((1 : Int32) + (p3 &&& (7 : Int32)))), .val (.ref b6), .unset] [])) _
    refine own_segE p1 p2 p3 q4 q5 (own_x p1) (p2 &&& (7 : Int32)) ((1 : Int32) + (p3 &&& (7 : Int32))) b6 XL hx hZ hw hby hml hown rfl _ ?_
    show Steps p.tables e below (TL.setTop (mkF m 146 #[.val (.int p1), .val (.int p2), .val (.int p3), .val (.long q4), .second, .val (.long q5), .second, .val (.int (own_x p1)), .val (.int (p2 &&& (7 : Int32))), .val (.int ((1 : Int32) + (p3 &&& (7 : Int32)))), .val (.ref b6), .val (.int (own_has (own_x p1) (p2 &&& (7 : Int32))))] [])) _
    refine XS.aload XL.here hx rfl (hb hby at_146) rfl rfl ?_
    show Steps p.tables e below (TL.setTop (mkF m 148 #[.val (.int p1), .val (.int p2), .val (.int p3), .val (.long q4), .second, .val (.long q5), .second, .val (.int (own_x p1)), .val (.int (p2 &&& (7 : Int32))), .val (.int ((1 : Int32) + (p3 &&& (7 : Int32)))), .val (.ref b6), .val (.int (own_has (own_x p1) (p2 &&& (7 : Int32))))] [(.ref b6)])) _
    refine XS.iload XL.here hx rfl (hb hby at_148) rfl ?_
    show Steps p.tables e below (TL.setTop (mkF m 150 #[.val (.int p1), .val (.int p2), .val (.int p3), .val (.long q4), .second, .val (.long q5), .second, .val (.int (own_x p1)), .val (.int (p2 &&& (7 : Int32))), .val (.int ((1 : Int32) + (p3 &&& (7 : Int32)))), .val (.ref b6), .val (.int (own_has (own_x p1) (p2 &&& (7 : Int32))))] [(.int (own_x p1)), (.ref b6)])) _
    refine st9.trans ?_
    show Steps p.tables e below (T9.setTop (mkF m 153 #[.val (.int p1), .val (.int p2), .val (.int p3), .val (.long q4), .second, .val (.long q5), .second, .val (.int (own_x p1)), .val (.int (p2 &&& (7 : Int32))), .val (.int ((1 : Int32) + (p3 &&& (7 : Int32)))), .val (.ref b6), .val (.int (own_has (own_x p1) (p2 &&& (7 : Int32))))] [(.int (own_has (own_x p1) (p2 &&& (7 : Int32))))])) _
    refine XS.iload X9.here hx rfl (hb hby at_153) rfl ?_
    show Steps p.tables e below (T9.setTop (mkF m 155 #[.val (.int p1), .val (.int p2), .val (.int p3), .val (.long q4), .second, .val (.long q5), .second, .val (.int (own_x p1)), .val (.int (p2 &&& (7 : Int32))), .val (.int ((1 : Int32) + (p3 &&& (7 : Int32)))), .val (.ref b6), .val (.int (own_has (own_x p1) (p2 &&& (7 : Int32))))] [(.int (own_has (own_x p1) (p2 &&& (7 : Int32)))), (.int (own_has (own_x p1) (p2 &&& (7 : Int32))))])) _
    refine XS.icmpNo X9.here hx rfl (hb hby at_155) rfl (teq (rfl : (own_has (own_x p1) (p2 &&& (7 : Int32))) = (own_has (own_x p1) (p2 &&& (7 : Int32))))).2 ?_
    show Steps p.tables e below (T9.setTop (mkF m 158 #[.val (.int p1), .val (.int p2), .val (.int p3), .val (.long q4), .second, .val (.long q5), .second, .val (.int (own_x p1)), .val (.int (p2 &&& (7 : Int32))), .val (.int ((1 : Int32) + (p3 &&& (7 : Int32)))), .val (.ref b6), .val (.int (own_has (own_x p1) (p2 &&& (7 : Int32))))] [])) _
    refine XS.iconst X9.here hx rfl (hb hby at_158) ?_
    show Steps p.tables e below (T9.setTop (mkF m 159 #[.val (.int p1), .val (.int p2), .val (.int p3), .val (.long q4), .second, .val (.long q5), .second, .val (.int (own_x p1)), .val (.int (p2 &&& (7 : Int32))), .val (.int ((1 : Int32) + (p3 &&& (7 : Int32)))), .val (.ref b6), .val (.int (own_has (own_x p1) (p2 &&& (7 : Int32))))] [(.int (1 : Int32))])) _
    refine XS.goto X9.here hx rfl (pc0 := 159) (pc' := 163) rfl (hb hby at_159) (by decide) (by decide) ?_
    show Steps p.tables e below (T9.setTop (mkF m 163 #[.val (.int p1), .val (.int p2), .val (.int p3), .val (.long q4), .second, .val (.long q5), .second, .val (.int (own_x p1)), .val (.int (p2 &&& (7 : Int32))), .val (.int ((1 : Int32) + (p3 &&& (7 : Int32)))), .val (.ref b6), .val (.int (own_has (own_x p1) (p2 &&& (7 : Int32))))] [(.int (1 : Int32))])) _
    exact retN X9 hx (t := .boolean) Bd.returns (by simp) (hb hby at_163) hr
  · show Q0 Z p1 p2 p3 q4 q5 h0 n0 _ T9.heap _
    exact ⟨rfl, N9⟩
theorem own_len0 {args : Array Value} {Z : State} {t : Term} {a : Addr} {cl : Cell} {ty : FieldType} (ev : t.eval args Z none [] Z = some (.ref a)) (A : Arr Z Z.heap a cl ty) (h : (Cond.eq (Term.length t) (Term.int 0)).value args Z none Z [] = some true) : cl.slots.size = 0 := by
  obtain ⟨x, y, e1, e2, k1, k2⟩ := cmp_v (Or.inl h)
  have hAt := A.fin (Vm.Alike.refl _)
  have e3 : y = .int 0 := Option.some.inj (e2.symm.trans (Term.int_eval 0))
  subst e3
  obtain ⟨z, rfl⟩ := k2
  have q : z = 0 := by simpa [Cond.value, e1, e2] using h
  subst q
  by_cases hlt : cl.slots.size < 2 ^ 31
  · have e4 := Value.int.inj (Option.some.inj ((len_f ev hAt hlt).symm.trans e1))
    have e5 := congrArg Int32.toInt e4
    have e7 : cl.slots.size.toInt32.toInt = (cl.slots.size : Int) := len_toInt hlt
    have e6 : (0 : Int32).toInt = 0 := by decide
    rw [e7, e6] at e5
    omega
  · simp [Term.eval, ev, hAt] at e1
    omega
set_option maxRecDepth 65536 in
set_option maxHeartbeats 40000000 in
theorem comes_1 {Post : Tables → Env → Array Value → State → Outcome → State → Prop} (hpost : ∀ tb e args s v u, (limb_1_1.after args s (.returned v) u = true ∧ limb_1_2.after args s (.returned v) u = true ∧ True) → FrameEnd s (.returned v) u (Jvm.fieldLocs frame_1_writes args s ++ Jvm.arrayLocs frame_1_arrays args s ++ Jvm.staticLocs frame_1_statics s) 16 128 → Post tb e args s (.returned v) u) :
    ArmFor flags0 classFile x code maxLocals ret World_1 tables_1 room_1 Calls_1 rest_1 Pre_1 Post := by
  intro l hfl _ _ p e ha hc hk s m args below hf hA hF happ hP
  obtain ⟨hcalls, hrest, hpre⟩ := hP
  obtain ⟨-, -, -, hnamed, -, -, -, hat⟩ := (Spec.applies_iff hf).mp happ
  obtain ⟨hg, hn⟩ := and_e (Cond.before_iff.mp (show (Jvm.Cond.and given_1 narrow_1).before args s = true from hpre))
  obtain ⟨g10, g11⟩ := and_e hg
  obtain ⟨g12, g13⟩ := and_e g11
  obtain ⟨g14, g15⟩ := and_e g13
  obtain ⟨g16, g17⟩ := and_e g15
  obtain ⟨g18, g19⟩ := and_e g17
  obtain ⟨w0, w1, w2, w3, w4, rfl⟩ : ∃ w0 w1 w2 w3 w4 : Value, args = #[w0, w1, w2, w3, w4] := by
    have hs : args.size = 5 := by simpa [Cond.value, given_1] using g10
    obtain ⟨L⟩ := args
    match L, hs with
    | [w0, w1, w2, w3, w4], _ => exact ⟨w0, w1, w2, w3, w4, rfl⟩
  have hw := fun d (hd : d ∈ tables_1) => atoms_spec (ws := Jvm.Cond.code x code maxLocals ret :: tables_1) hat d (List.mem_cons_of_mem _ hd)
  have hfit : Fit s := fun {y c} hc i hi => by
    obtain ⟨ha, rfl⟩ := Array.getElem?_eq_some_iff.mp hc
    have q := List.all_eq_true.mp ((Array.all_eq_true_iff_forall_mem.mp hF) _ (Array.getElem_mem ha)) i (List.mem_range.mpr hi)
    simpa [Array.getElem?_eq_getElem hi] using q
  obtain ⟨i0, ei0⟩ := is_v g12
  obtain rfl : w0 = (.int i0) := Option.some.inj ei0
  obtain ⟨i1, ei1⟩ := is_v g14
  obtain rfl : w1 = (.int i1) := Option.some.inj ei1
  obtain ⟨i2, ei2⟩ := is_v g16
  obtain rfl : w2 = (.int i2) := Option.some.inj ei2
  obtain ⟨i3, ei3⟩ := isL_v g18
  obtain rfl : w3 = (.long i3) := Option.some.inj ei3
  obtain ⟨i4, ei4⟩ := isL_v g19
  obtain rfl : w4 = (.long i4) := Option.some.inj ei4
  obtain ⟨pA, pL⟩ := and_e hn
  obtain ⟨st, vst⟩ := arr_v pA
  obtain ⟨cl_st, Ar_st⟩ := Arr.start vst pA
  have S_st := Sta.start vst (Or.inr ⟨(hw _ (List.mem_of_getElem? (i := 2) rfl)), (hw _ (List.mem_of_getElem? (i := 10) rfl))⟩)
  have hz : cl_st.slots.size = 0 := own_len0 vst Ar_st pL
  obtain ⟨kk, hk8, hkk⟩ := own_and7 i1
  obtain ⟨cc, hc8, hcc⟩ := own_and7 i2
  obtain ⟨n, o, h1, h2, h3, _, L, rfl, ⟨rfl, N⟩, hq⟩ := rm0 l s _ hw tables_1 i0 i1 i2 i3 i4 st cl_st (cc + 1) kk s.heap s.heap.size (Nat.le_refl _) S_st Ar_st hz (Nat.le_add_left 1 cc) (Nat.succ_lt_succ hc8) hk8 hkk (by rw [hcc]; exact own_one cc hc8) p e ha hc hk s m _ below hf ((Spec.applies_iff_loose hf).mp happ).1 ⟨rfl, State.Warmed39.refl s, rfl⟩ trivial
  refine ⟨n, _, h1, h2, h3, hpost _ _ _ _ _ _ ⟨Cond.after_iff.mpr rfl, Cond.after_iff.mpr (eq_i res_at (Term.int_eval (1)) rfl), trivial⟩ ⟨hq.1, hq.2.1, (hq.2.2.sift fun y hy => Or.inr (N y hy)).mono (by decide) (by decide)⟩⟩
theorem main_1_1 : Claimed_1_1 := comes_1 fun _ _ _ _ _ _ h hF => ⟨h.1, hF⟩
theorem main_1_2 : Claimed_1_2 := comes_1 fun _ _ _ _ _ _ h hF => ⟨h.2.1, hF⟩
end Jvm.Pilot.@@N@@
namespace Jvm.Pilot.@@N@@
open Jvm Jvm.ClassFile Sem Op Lib Jvm.Free Jvm.Stand Jvm.Pilot.@@N@@.Jvm.D
/-! MADE BY PROGRAM (witnessworld.py) out of the Statement's table words and the real class files: 12 classes; the members and pool entries that the words name. The judged class is class 1, her method 1. -/
namespace start1
open Jvm.ClassFile
def u (s : String) : CpInfo := .utf8 (stringToUtf16 s)
/-- a pool by its gaps: so many unusable entries, then the entry; so many at the end -/
def gap : Nat → List CpInfo → List CpInfo
  | 0, r => r
  | n + 1, r => .unusable :: gap n r
def poolList (es : List (Nat × CpInfo)) (last : Nat) : List CpInfo := es.foldr (fun e r => gap e.1 (e.2 :: r)) (gap last [])
def pool (es : List (Nat × CpInfo)) (last : Nat) : Array CpInfo := ⟨poolList es last⟩
def fileOf (pool : Array CpInfo) (this : Nat) (attrs : Array Attribute := #[]) (ms : Array MethodInfo := #[]) (fl : Nat := 33) (sup : Nat := 0) (ifs : Array Nat := #[]) (fds : Array FieldInfo := #[]) : ClassFile where
  minorVersion := 0
  majorVersion := 65
  constantPool := pool
  accessFlags := fl
  thisClass := this
  superClass := sup
  interfaces := ifs
  fields := fds
  methods := ms
  attributes := attrs
def plain (name : String) (sup : Option ClassId) : Class where
  name := name
  kind := .ordinary
  loader := none
  accessFlags := 33
  super := sup
  interfaces := #[]
  cf := none
  fields := #[]
  methods := #[]
  instanceTypes := #[]
  staticTypes := #[]
  resolved := #[]
  callSites := []
  init := .initialized
  statics := none
  mirror := none

def pool0 : Array CpInfo := pool [(5, u "<init>"), (0, u "()V"), (1, .class_ 10), (1, u "java/lang/Object")] 113

def k0c0 : Code := { maxStack := 0, maxLocals := 1, code := object_method_1_code, exceptionTable := #[], attributes := #[] }
def k0m0 : Method := { name := "<init>", desc := "()V", sig := { parameters := [], returnType := none }, accessFlags := 1, code := some k0c0 }
/-- java/lang/Object -/
def k0 : Class := { plain "java/lang/Object" none with
  accessFlags := 33
  interfaces := #[]
  cf := some (fileOf pool0 8 #[] #[{ accessFlags := 1, nameIndex := 5, descriptorIndex := 6, attributes := #[] }] 33 0 #[] #[])
  fields := #[]
  methods := #[k0m0]
  instanceTypes := #[]
  staticTypes := #[]
  resolved := Array.replicate 124 none
  statics := none }

def pool1 : Array CpInfo := pool [(2, .class_ 4), (0, .nameAndType 5 6), (0, u "java/lang/Object"), (0, u "<init>"), (0, u "()V"), (0, .class_ 8), (0, u "com/example/throttl/throttl/Grants"), (0, .methodref 7 3), (0, .methodref 7 11), (0, .nameAndType 12 13), (0, u "keepFor"), (0, u "(IJ)V"), (0, .methodref 7 15), (0, .nameAndType 16 17), (0, u "add"), (0, u "(J)V"), (0, .methodref 7 19), (0, .nameAndType 20 21), (0, u "hasNthMostRecent"), (0, u "(I)Z"), (0, .class_ 23), (0, u "com/example/throttl/throttl/GrantsHasNthMostRecentPinLaw"), (2, u "law"), (0, u "(IIIJJ)Z")] 3

def k1m0 : Method := { name := "<init>", desc := "()V", sig := { parameters := [], returnType := none }, accessFlags := 1, code := none }
def k1c1 : Code := { maxStack := 4, maxLocals := 12, code := code, exceptionTable := #[], attributes := #[] }
def k1m1 : Method := { name := "law", desc := "(IIIJJ)Z", sig := { parameters := [.int, .int, .int, .long, .long], returnType := some .boolean }, accessFlags := 9, code := some k1c1 }
/-- com/example/throttl/throttl/GrantsHasNthMostRecentPinLaw -/
def k1 : Class := { plain "com/example/throttl/throttl/GrantsHasNthMostRecentPinLaw" (some 0) with
  accessFlags := 49
  interfaces := #[]
  cf := some (fileOf pool1 22 #[] #[{ accessFlags := 1, nameIndex := 5, descriptorIndex := 6, attributes := #[] }, { accessFlags := 9, nameIndex := 26, descriptorIndex := 27, attributes := #[] }] 49 2 #[] #[])
  fields := #[]
  methods := #[k1m0, k1m1]
  instanceTypes := #[]
  staticTypes := #[]
  resolved := Array.replicate 31 none
  statics := none }

def pool2 : Array CpInfo := pool [(1, .methodref 2 3), (0, .class_ 4), (0, .nameAndType 5 6), (0, u "java/lang/Object"), (0, u "<init>"), (0, u "()V"), (0, .fieldref 8 9), (0, .class_ 10), (0, .nameAndType 11 12), (0, u "com/example/throttl/throttl/Grants"), (0, u "NO_STORAGE"), (0, u "[J"), (0, .fieldref 8 14), (0, .nameAndType 15 12), (0, u "instants"), (2, .long 9223372036854775807), (1, .fieldref 8 21), (0, .nameAndType 22 23), (0, u "due"), (0, u "J"), (0, .fieldref 8 25), (0, .nameAndType 26 27), (0, u "size"), (0, u "I"), (9, .fieldref 8 38), (0, .nameAndType 39 27), (0, u "keep"), (0, .methodref 41 42), (0, .class_ 43), (0, .nameAndType 44 45), (0, u "java/lang/Math"), (0, u "max"), (0, u "(II)I"), (0, .fieldref 8 47), (0, .nameAndType 48 23), (0, u "keptForMillis"), (0, .methodref 41 50), (0, .nameAndType 44 51), (0, u "(JJ)J"), (0, .methodref 8 53), (0, .nameAndType 54 55), (0, u "nthMostRecent"), (0, u "(I)J"), (0, .fieldref 8 57), (0, .nameAndType 58 23), (0, u "forgotten"), (0, .methodref 8 60), (0, .nameAndType 61 62), (0, u "hasNthMostRecent"), (0, u "(I)Z"), (6, .fieldref 8 70), (0, .nameAndType 71 27), (0, u "oldest"), (0, .methodref 41 73), (0, .nameAndType 74 45), (0, u "min"), (8, .methodref 8 84), (0, .nameAndType 85 6), (0, u "grow"), (0, .long 16), (1, .long 2), (1, .methodref 41 91), (0, .nameAndType 74 51), (0, u "INITIAL_STORAGE"), (5, u "keepFor"), (0, u "(IJ)V"), (3, u "add"), (0, u "(J)V")] 23

def k2c0 : Code := { maxStack := 3, maxLocals := 1, code := prog_3_method_1_code, exceptionTable := #[], attributes := #[] }
def k2m0 : Method := { name := "<init>", desc := "()V", sig := { parameters := [], returnType := none }, accessFlags := 0, code := some k2c0 }
def k2c1 : Code := { maxStack := 5, maxLocals := 4, code := prog_3_method_3_code, exceptionTable := #[], attributes := #[] }
def k2m1 : Method := { name := "keepFor", desc := "(IJ)V", sig := { parameters := [.int, .long], returnType := none }, accessFlags := 0, code := some k2c1 }
def k2c2 : Code := { maxStack := 6, maxLocals := 2, code := prog_3_method_5_code, exceptionTable := #[], attributes := #[] }
def k2m2 : Method := { name := "hasNthMostRecent", desc := "(I)Z", sig := { parameters := [.int], returnType := some .boolean }, accessFlags := 0, code := some k2c2 }
def k2c3 : Code := { maxStack := 4, maxLocals := 2, code := prog_3_method_6_code, exceptionTable := #[], attributes := #[] }
def k2m3 : Method := { name := "nthMostRecent", desc := "(I)J", sig := { parameters := [.int], returnType := some .long }, accessFlags := 0, code := some k2c3 }
def k2c4 : Code := { maxStack := 6, maxLocals := 3, code := prog_3_method_7_code, exceptionTable := #[], attributes := #[] }
def k2m4 : Method := { name := "add", desc := "(J)V", sig := { parameters := [.long], returnType := none }, accessFlags := 0, code := some k2c4 }
def k2c5 : Code := { maxStack := 8, maxLocals := 3, code := prog_3_method_8_code, exceptionTable := #[], attributes := #[] }
def k2m5 : Method := { name := "grow", desc := "()V", sig := { parameters := [], returnType := none }, accessFlags := 2, code := some k2c5 }
/-- com/example/throttl/throttl/Grants -/
def k2 : Class := { plain "com/example/throttl/throttl/Grants" (some 0) with
  accessFlags := 32
  interfaces := #[]
  cf := some (fileOf pool2 8 #[] #[{ accessFlags := 0, nameIndex := 5, descriptorIndex := 6, attributes := #[] }, { accessFlags := 0, nameIndex := 98, descriptorIndex := 99, attributes := #[] }, { accessFlags := 0, nameIndex := 61, descriptorIndex := 62, attributes := #[] }, { accessFlags := 0, nameIndex := 54, descriptorIndex := 55, attributes := #[] }, { accessFlags := 0, nameIndex := 103, descriptorIndex := 104, attributes := #[] }, { accessFlags := 2, nameIndex := 85, descriptorIndex := 6, attributes := #[] }] 32 2 #[] #[{ accessFlags := 26, nameIndex := 92, descriptorIndex := 27, attributes := #[] }, { accessFlags := 26, nameIndex := 11, descriptorIndex := 12, attributes := #[] }, { accessFlags := 2, nameIndex := 15, descriptorIndex := 12, attributes := #[] }, { accessFlags := 2, nameIndex := 71, descriptorIndex := 27, attributes := #[] }, { accessFlags := 2, nameIndex := 26, descriptorIndex := 27, attributes := #[] }, { accessFlags := 2, nameIndex := 39, descriptorIndex := 27, attributes := #[] }, { accessFlags := 2, nameIndex := 48, descriptorIndex := 23, attributes := #[] }, { accessFlags := 2, nameIndex := 58, descriptorIndex := 23, attributes := #[] }, { accessFlags := 0, nameIndex := 22, descriptorIndex := 23, attributes := #[] }])
  fields := #[{ name := "INITIAL_STORAGE", type := .int, accessFlags := 26, slot := 0, constantValue := 0 }, { name := "NO_STORAGE", type := (.array .long), accessFlags := 26, slot := 1, constantValue := 0 }, { name := "instants", type := (.array .long), accessFlags := 2, slot := 0, constantValue := 0 }, { name := "oldest", type := .int, accessFlags := 2, slot := 1, constantValue := 0 }, { name := "size", type := .int, accessFlags := 2, slot := 2, constantValue := 0 }, { name := "keep", type := .int, accessFlags := 2, slot := 3, constantValue := 0 }, { name := "keptForMillis", type := .long, accessFlags := 2, slot := 4, constantValue := 0 }, { name := "forgotten", type := .long, accessFlags := 2, slot := 5, constantValue := 0 }, { name := "due", type := .long, accessFlags := 0, slot := 6, constantValue := 0 }]
  methods := #[k2m0, k2m1, k2m2, k2m3, k2m4, k2m5]
  instanceTypes := #[(.array .long), .int, .int, .int, .long, .long, .long]
  staticTypes := #[.int, (.array .long)]
  resolved := Array.replicate 128 none
  statics := some 0 }

def pool3 : Array CpInfo := pool [(1, .class_ 2), (0, u "java/lang/Math"), (1, .class_ 6), (1, u "java/lang/Object"), (0, u "<init>"), (0, u "()V"), (89, .class_ 100), (1, u "java/lang/Math$RandomNumberGeneratorHolder"), (20, u "(JJ)J"), (50, u "negativeZeroFloatBits"), (0, u "J"), (2, u "negativeZeroDoubleBits"), (21, u "max"), (2, u "min"), (43, u "$assertionsDisabled"), (0, u "Z"), (88, u "(II)I"), (2, u "twoToTheDoubleScaleDown"), (0, u "D"), (4, u "twoToTheDoubleScaleUp"), (9, u "E"), (3, u "PI"), (2, u "TAU"), (2, u "DEGREES_TO_RADIANS"), (0, u "RADIANS_TO_DEGREES")] 94

def k3m0 : Method := { name := "<init>", desc := "()V", sig := { parameters := [], returnType := none }, accessFlags := 2, code := none }
def k3c1 : Code := { maxStack := 2, maxLocals := 2, code := jdk_29_method_65_code, exceptionTable := #[], attributes := #[] }
def k3m1 : Method := { name := "max", desc := "(II)I", sig := { parameters := [.int, .int], returnType := some .int }, accessFlags := 9, code := some k3c1 }
def k3c2 : Code := { maxStack := 4, maxLocals := 4, code := jdk_29_method_66_code, exceptionTable := #[], attributes := #[] }
def k3m2 : Method := { name := "max", desc := "(JJ)J", sig := { parameters := [.long, .long], returnType := some .long }, accessFlags := 9, code := some k3c2 }
def k3c3 : Code := { maxStack := 2, maxLocals := 2, code := jdk_29_method_69_code, exceptionTable := #[], attributes := #[] }
def k3m3 : Method := { name := "min", desc := "(II)I", sig := { parameters := [.int, .int], returnType := some .int }, accessFlags := 9, code := some k3c3 }
def k3c4 : Code := { maxStack := 4, maxLocals := 4, code := jdk_29_method_70_code, exceptionTable := #[], attributes := #[] }
def k3m4 : Method := { name := "min", desc := "(JJ)J", sig := { parameters := [.long, .long], returnType := some .long }, accessFlags := 9, code := some k3c4 }
/-- java/lang/Math -/
def k3 : Class := { plain "java/lang/Math" (some 0) with
  accessFlags := 49
  interfaces := #[]
  cf := some (fileOf pool3 1 #[.nestMembers #[98]] #[{ accessFlags := 2, nameIndex := 7, descriptorIndex := 8, attributes := #[] }, { accessFlags := 9, nameIndex := 198, descriptorIndex := 335, attributes := #[] }, { accessFlags := 9, nameIndex := 198, descriptorIndex := 121, attributes := #[] }, { accessFlags := 9, nameIndex := 201, descriptorIndex := 335, attributes := #[] }, { accessFlags := 9, nameIndex := 201, descriptorIndex := 121, attributes := #[] }] 49 4 #[] #[{ accessFlags := 25, nameIndex := 354, descriptorIndex := 339, attributes := #[] }, { accessFlags := 25, nameIndex := 358, descriptorIndex := 339, attributes := #[] }, { accessFlags := 25, nameIndex := 361, descriptorIndex := 339, attributes := #[] }, { accessFlags := 26, nameIndex := 364, descriptorIndex := 339, attributes := #[] }, { accessFlags := 26, nameIndex := 365, descriptorIndex := 339, attributes := #[] }, { accessFlags := 26, nameIndex := 172, descriptorIndex := 173, attributes := #[] }, { accessFlags := 26, nameIndex := 176, descriptorIndex := 173, attributes := #[] }, { accessFlags := 8, nameIndex := 344, descriptorIndex := 339, attributes := #[] }, { accessFlags := 8, nameIndex := 338, descriptorIndex := 339, attributes := #[] }, { accessFlags := 4120, nameIndex := 245, descriptorIndex := 246, attributes := #[] }])
  fields := #[{ name := "E", type := .double, accessFlags := 25, slot := 0, constantValue := 0 }, { name := "PI", type := .double, accessFlags := 25, slot := 1, constantValue := 0 }, { name := "TAU", type := .double, accessFlags := 25, slot := 2, constantValue := 0 }, { name := "DEGREES_TO_RADIANS", type := .double, accessFlags := 26, slot := 3, constantValue := 0 }, { name := "RADIANS_TO_DEGREES", type := .double, accessFlags := 26, slot := 4, constantValue := 0 }, { name := "negativeZeroFloatBits", type := .long, accessFlags := 26, slot := 5, constantValue := 0 }, { name := "negativeZeroDoubleBits", type := .long, accessFlags := 26, slot := 6, constantValue := 0 }, { name := "twoToTheDoubleScaleUp", type := .double, accessFlags := 8, slot := 7, constantValue := 0 }, { name := "twoToTheDoubleScaleDown", type := .double, accessFlags := 8, slot := 8, constantValue := 0 }, { name := "$assertionsDisabled", type := .boolean, accessFlags := 4120, slot := 9, constantValue := 0 }]
  methods := #[k3m0, k3m1, k3m2, k3m3, k3m4]
  instanceTypes := #[]
  staticTypes := #[.double, .double, .double, .double, .double, .long, .long, .double, .double, .boolean]
  resolved := Array.replicate 460 none
  statics := none }

def pool4 : Array CpInfo := pool [(1, u "java/lang/Cloneable"), (0, .class_ 1), (0, u "java/lang/Object"), (0, .class_ 3)] 3

/-- java/lang/Cloneable -/
def k4 : Class := { plain "java/lang/Cloneable" (some 0) with
  accessFlags := 1537
  interfaces := #[]
  cf := some (fileOf pool4 2 #[] #[] 1537 4 #[] #[])
  fields := #[]
  methods := #[]
  instanceTypes := #[]
  staticTypes := #[]
  resolved := Array.replicate 8 none
  statics := none }

def pool5 : Array CpInfo := pool [(1, u "java/io/Serializable"), (0, .class_ 1), (0, u "java/lang/Object"), (0, .class_ 3)] 3

/-- java/io/Serializable -/
def k5 : Class := { plain "java/io/Serializable" (some 0) with
  accessFlags := 1537
  interfaces := #[]
  cf := some (fileOf pool5 2 #[] #[] 1537 4 #[] #[])
  fields := #[]
  methods := #[]
  instanceTypes := #[]
  staticTypes := #[]
  resolved := Array.replicate 8 none
  statics := none }

/-- the primitive byte -/
def k6 : Class := { plain "byte" none with kind := .primitive 'B', accessFlags := 0x411 }
/-- [B -/
def k7 : Class := { plain "[B" (some 0) with kind := .array 6 .byte, interfaces := #[4, 5], accessFlags := 1041 }

/-- the primitive int -/
def k8 : Class := { plain "int" none with kind := .primitive 'I', accessFlags := 0x411 }
/-- [I -/
def k9 : Class := { plain "[I" (some 0) with kind := .array 8 .int, interfaces := #[4, 5], accessFlags := 1041 }

/-- the primitive long -/
def k10 : Class := { plain "long" none with kind := .primitive 'J', accessFlags := 0x411 }
/-- [J -/
def k11 : Class := { plain "[J" (some 0) with kind := .array 10 .long, interfaces := #[4, 5], accessFlags := 1041 }

def heap : Heap := #[{ cls := 2, slots := #[.int 0, .ref 1], vm := .statics 2 },
  { cls := 11, slots := #[], vm := .none }]
def classes : Array Class := #[k0, k1, k2, k3, k4, k5, k6, k7, k8, k9, k10, k11]
def interned : List (Array UInt16 × Addr) := []
def slotsUsed : Nat := 2
def theMethod : MethodId := ⟨1, 1⟩
def args0 : Array Value := #[.int 5, .int 3, .int 2, .long 7, .long 9]
def aboutOver (below : List Frame) : State where
  vm := { classes := classes, interned := interned.toArray }
  heap := heap
  slotsUsed := slotsUsed
  threads := #[{ frames := .invoking theMethod args0 :: below }]
def below0 : List Frame := [.native { method := ⟨0, 0⟩, args := #[] }]
def about1 : State := aboutOver below0
def p0 : Program := .bare "" "" ""
def e0 : Env := launch0.env 0 0 0
theorem w_frames : about1.frames = Frame.invoking theMethod args0 :: below0 := rfl
set_option maxRecDepth 65536 in
theorem w_args : argsFit about1.vm theMethod args0 = true := by decide +kernel
set_option maxRecDepth 65536 in
theorem w_heap : heapFits about1 = true := by decide +kernel
set_option maxRecDepth 65536 in
theorem w_runnable : about1.curStatus? = some .runnable := by decide +kernel
set_option maxRecDepth 65536 in
theorem w_alone : about1.alone = true := by decide +kernel
set_option maxRecDepth 65536 in
theorem w_named : about1.methodNamed? x = some theMethod := by decide +kernel
set_option maxRecDepth 65536 in
theorem w_hears : about1.hears theMethod below0 = true := by decide +kernel
set_option maxRecDepth 65536 in
theorem w_ripe : about1.ripe theMethod args0 below0 = true := by decide +kernel
theorem w_running : about1.status = .running := rfl
set_option maxRecDepth 65536 in
theorem w_room : about1.hasRoom e0.platform room_1 = true :=
  launch0.hasRoom_least _ room_1 (by decide +kernel) (by decide +kernel) (by decide +kernel) (by decide +kernel) (by decide +kernel) (by decide +kernel)
theorem allAtoms_all (ts : List Jvm.Cond) (a : Array Jvm.Value) (st : Jvm.State) : (allAtoms ts).before a st = ts.all (fun c => c.before a st) := by
  induction ts with
  | nil => rfl
  | cons c t ih =>
    show (Jvm.Cond.and c (allAtoms t)).before a st = _
    rw [Jvm.Cond.before_and, ih, List.all_cons]
def words1 : List Jvm.Cond := Jvm.Cond.code x code maxLocals ret :: tables_1
/-- a 'code' word, met by the world's own term for the bytes: nothing is compared byte by byte -/
theorem code_word {y : MethodName} {bytes : ByteArray} {mx : Nat} {rt : Option FieldType} {a : Array Value} {s : State} {m : MethodId} {meth : Method} {c : Code} (h1 : s.methodNamed? y = some m) (h2 : s.vm.method? m = some meth) (h3 : meth.code = some c) (h4 : c.code = bytes)
    (h5 : (c.maxLocals == mx && c.exceptionTable.isEmpty && decide (c.maxStack ≤ mostOperands) && decide (meth.sig.returnType = rt) && !meth.locks && decide (parseMethodDescriptor y.desc = some meth.sig)) = true) : (Jvm.Cond.code y bytes mx rt).before a s = true := by
  simp only [Bool.and_eq_true, beq_iff_eq, Bool.not_eq_true', decide_eq_true_eq] at h5
  obtain ⟨⟨⟨⟨⟨g1, g2⟩, g3⟩, g4⟩, g5⟩, g6⟩ := h5
  simp [Cond.before, Cond.holds, Cond.value, h1, h2, h3, h4, g1, g2, g3, g4, g5, g6]
def isCode : Jvm.Cond → Bool
  | .code _ _ _ _ => true
  | _ => false
theorem all_split {L : List Jvm.Cond} {P : Jvm.Cond → Bool} (h1 : L.all (fun c => isCode c || P c) = true) (h2 : ∀ c ∈ L.filter isCode, P c = true) : L.all P = true := by
  refine List.all_eq_true.mpr fun c hc => ?_
  have h := List.all_eq_true.mp h1 c hc
  rcases Bool.eq_false_or_eq_true (isCode c) with hi | hi
  · exact h2 c (List.mem_filter.mpr ⟨hc, hi⟩)
  · simpa [hi] using h
set_option maxRecDepth 65536 in
theorem w_c0 : (Jvm.Cond.code x code maxLocals ret).before args0 about1 = true := code_word (m := ⟨1, 1⟩) (meth := k1m1) (c := k1c1) (by decide +kernel) rfl rfl rfl (by decide +kernel)
set_option maxRecDepth 65536 in
theorem w_c1 : (Jvm.Cond.code ({ cls := "com/example/throttl/throttl/Grants", name := "<init>", desc := "()V" } : Jvm.MethodName) prog_3_method_1_code (1 : Nat) (Option.none : Option Jvm.ClassFile.FieldType)).before args0 about1 = true := code_word (m := ⟨2, 0⟩) (meth := k2m0) (c := k2c0) (by decide +kernel) rfl rfl rfl (by decide +kernel)
set_option maxRecDepth 65536 in
theorem w_c2 : (Jvm.Cond.code ({ cls := "java/lang/Object", name := "<init>", desc := "()V" } : Jvm.MethodName) object_method_1_code (1 : Nat) (Option.none : Option Jvm.ClassFile.FieldType)).before args0 about1 = true := code_word (m := ⟨0, 0⟩) (meth := k0m0) (c := k0c0) (by decide +kernel) rfl rfl rfl (by decide +kernel)
set_option maxRecDepth 65536 in
theorem w_c3 : (Jvm.Cond.code ({ cls := "com/example/throttl/throttl/Grants", name := "keepFor", desc := "(IJ)V" } : Jvm.MethodName) prog_3_method_3_code (4 : Nat) (Option.none : Option Jvm.ClassFile.FieldType)).before args0 about1 = true := code_word (m := ⟨2, 1⟩) (meth := k2m1) (c := k2c1) (by decide +kernel) rfl rfl rfl (by decide +kernel)
set_option maxRecDepth 65536 in
theorem w_c4 : (Jvm.Cond.code ({ cls := "java/lang/Math", name := "max", desc := "(II)I" } : Jvm.MethodName) jdk_29_method_65_code (2 : Nat) (Option.some Jvm.ClassFile.FieldType.int)).before args0 about1 = true := code_word (m := ⟨3, 1⟩) (meth := k3m1) (c := k3c1) (by decide +kernel) rfl rfl rfl (by decide +kernel)
set_option maxRecDepth 65536 in
theorem w_c5 : (Jvm.Cond.code ({ cls := "java/lang/Math", name := "max", desc := "(JJ)J" } : Jvm.MethodName) jdk_29_method_66_code (4 : Nat) (Option.some Jvm.ClassFile.FieldType.long)).before args0 about1 = true := code_word (m := ⟨3, 2⟩) (meth := k3m2) (c := k3c2) (by decide +kernel) rfl rfl rfl (by decide +kernel)
set_option maxRecDepth 65536 in
theorem w_c6 : (Jvm.Cond.code ({ cls := "com/example/throttl/throttl/Grants", name := "add", desc := "(J)V" } : Jvm.MethodName) prog_3_method_7_code (3 : Nat) (Option.none : Option Jvm.ClassFile.FieldType)).before args0 about1 = true := code_word (m := ⟨2, 4⟩) (meth := k2m4) (c := k2c4) (by decide +kernel) rfl rfl rfl (by decide +kernel)
set_option maxRecDepth 65536 in
theorem w_c7 : (Jvm.Cond.code ({ cls := "com/example/throttl/throttl/Grants", name := "grow", desc := "()V" } : Jvm.MethodName) prog_3_method_8_code (3 : Nat) (Option.none : Option Jvm.ClassFile.FieldType)).before args0 about1 = true := code_word (m := ⟨2, 5⟩) (meth := k2m5) (c := k2c5) (by decide +kernel) rfl rfl rfl (by decide +kernel)
set_option maxRecDepth 65536 in
theorem w_c8 : (Jvm.Cond.code ({ cls := "java/lang/Math", name := "min", desc := "(JJ)J" } : Jvm.MethodName) jdk_29_method_70_code (4 : Nat) (Option.some Jvm.ClassFile.FieldType.long)).before args0 about1 = true := code_word (m := ⟨3, 4⟩) (meth := k3m4) (c := k3c4) (by decide +kernel) rfl rfl rfl (by decide +kernel)
set_option maxRecDepth 65536 in
theorem w_c9 : (Jvm.Cond.code ({ cls := "com/example/throttl/throttl/Grants", name := "nthMostRecent", desc := "(I)J" } : Jvm.MethodName) prog_3_method_6_code (2 : Nat) (Option.some Jvm.ClassFile.FieldType.long)).before args0 about1 = true := code_word (m := ⟨2, 3⟩) (meth := k2m3) (c := k2c3) (by decide +kernel) rfl rfl rfl (by decide +kernel)
set_option maxRecDepth 65536 in
theorem w_c10 : (Jvm.Cond.code ({ cls := "com/example/throttl/throttl/Grants", name := "hasNthMostRecent", desc := "(I)Z" } : Jvm.MethodName) prog_3_method_5_code (2 : Nat) (Option.some Jvm.ClassFile.FieldType.boolean)).before args0 about1 = true := code_word (m := ⟨2, 2⟩) (meth := k2m2) (c := k2c2) (by decide +kernel) rfl rfl rfl (by decide +kernel)
set_option maxRecDepth 65536 in
theorem w_c11 : (Jvm.Cond.code ({ cls := "java/lang/Math", name := "min", desc := "(II)I" } : Jvm.MethodName) jdk_29_method_69_code (2 : Nat) (Option.some Jvm.ClassFile.FieldType.int)).before args0 about1 = true := code_word (m := ⟨3, 3⟩) (meth := k3m3) (c := k3c3) (by decide +kernel) rfl rfl rfl (by decide +kernel)
def codes1 : List Jvm.Cond := [Jvm.Cond.code x code maxLocals ret, Jvm.Cond.code ({ cls := "com/example/throttl/throttl/Grants", name := "<init>", desc := "()V" } : Jvm.MethodName) prog_3_method_1_code (1 : Nat) (Option.none : Option Jvm.ClassFile.FieldType), Jvm.Cond.code ({ cls := "java/lang/Object", name := "<init>", desc := "()V" } : Jvm.MethodName) object_method_1_code (1 : Nat) (Option.none : Option Jvm.ClassFile.FieldType), Jvm.Cond.code ({ cls := "com/example/throttl/throttl/Grants", name := "keepFor", desc := "(IJ)V" } : Jvm.MethodName) prog_3_method_3_code (4 : Nat) (Option.none : Option Jvm.ClassFile.FieldType), Jvm.Cond.code ({ cls := "java/lang/Math", name := "max", desc := "(II)I" } : Jvm.MethodName) jdk_29_method_65_code (2 : Nat) (Option.some Jvm.ClassFile.FieldType.int), Jvm.Cond.code ({ cls := "java/lang/Math", name := "max", desc := "(JJ)J" } : Jvm.MethodName) jdk_29_method_66_code (4 : Nat) (Option.some Jvm.ClassFile.FieldType.long), Jvm.Cond.code ({ cls := "com/example/throttl/throttl/Grants", name := "add", desc := "(J)V" } : Jvm.MethodName) prog_3_method_7_code (3 : Nat) (Option.none : Option Jvm.ClassFile.FieldType), Jvm.Cond.code ({ cls := "com/example/throttl/throttl/Grants", name := "grow", desc := "()V" } : Jvm.MethodName) prog_3_method_8_code (3 : Nat) (Option.none : Option Jvm.ClassFile.FieldType), Jvm.Cond.code ({ cls := "java/lang/Math", name := "min", desc := "(JJ)J" } : Jvm.MethodName) jdk_29_method_70_code (4 : Nat) (Option.some Jvm.ClassFile.FieldType.long), Jvm.Cond.code ({ cls := "com/example/throttl/throttl/Grants", name := "nthMostRecent", desc := "(I)J" } : Jvm.MethodName) prog_3_method_6_code (2 : Nat) (Option.some Jvm.ClassFile.FieldType.long), Jvm.Cond.code ({ cls := "com/example/throttl/throttl/Grants", name := "hasNthMostRecent", desc := "(I)Z" } : Jvm.MethodName) prog_3_method_5_code (2 : Nat) (Option.some Jvm.ClassFile.FieldType.boolean), Jvm.Cond.code ({ cls := "java/lang/Math", name := "min", desc := "(II)I" } : Jvm.MethodName) jdk_29_method_69_code (2 : Nat) (Option.some Jvm.ClassFile.FieldType.int)]
set_option maxRecDepth 65536 in
theorem codes_eq : words1.filter isCode = codes1 := rfl
theorem w_codes : ∀ c ∈ words1.filter isCode, c.before args0 about1 = true := by
  rw [codes_eq]
  intro c hc
  simp only [codes1, List.mem_cons, List.not_mem_nil, or_false] at hc
  rcases hc with rfl | rfl | rfl | rfl | rfl | rfl | rfl | rfl | rfl | rfl | rfl | rfl
  · exact w_c0
  · exact w_c1
  · exact w_c2
  · exact w_c3
  · exact w_c4
  · exact w_c5
  · exact w_c6
  · exact w_c7
  · exact w_c8
  · exact w_c9
  · exact w_c10
  · exact w_c11
set_option maxRecDepth 65536 in
theorem w_t1 : (words1.take 24).all (fun c => isCode c || c.before args0 about1) = true := by decide +kernel
set_option maxRecDepth 65536 in
theorem w_t2 : ((words1.drop 24).take 24).all (fun c => isCode c || c.before args0 about1) = true := by decide +kernel
set_option maxRecDepth 65536 in
theorem w_t3 : ((words1.drop 24).drop 24).all (fun c => isCode c || c.before args0 about1) = true := by decide +kernel
theorem w_tables : (allAtoms (Jvm.Cond.code x code maxLocals ret :: tables_1)).before args0 about1 = true := by
  rw [allAtoms_all]
  show words1.all (fun c => c.before args0 about1) = true
  refine all_split ?_ w_codes
  rw [← List.take_append_drop 24 words1, List.all_append, w_t1, ← List.take_append_drop 24 (words1.drop 24), List.all_append, w_t2, w_t3]
  rfl
set_option maxRecDepth 65536 in
theorem w_case : (Jvm.Cond.and given_1 narrow_1).before args0 about1 = true := by decide +kernel
theorem w_applies : (headSpec (Jvm.Cond.code x code maxLocals ret :: tables_1) room_1).applies x e0.platform about1 = true :=
  (Spec.applies_iff w_frames).mpr ⟨w_running, w_runnable, w_alone, w_named, w_hears, w_ripe, w_room, w_tables⟩
theorem atStart : AtStart classFile x code maxLocals ret World_1 tables_1 room_1 Calls_1 rest_1 Pre_1 launch0 p0 e0 about1 theMethod args0 below0 :=
  ⟨lists_1, trivial, launch0.admits_env _ _ _, launch0.least_env, fairChoices_fair.cas, fairChoices_fair.clock, w_frames, w_args, w_heap, w_applies, trivial, trivial, w_case⟩
end start1
theorem witness_1 : WitnessClaimed_1 := ⟨start1.p0, start1.e0, start1.about1, start1.theMethod, start1.args0, start1.below0, start1.atStart⟩
end Jvm.Pilot.@@N@@
