import JvmDerived
import JvmDerived.Pilot.@@N@@Statement
import JvmDerived.Pilot.@@N@@Code
set_option linter.unusedVariables false
set_option linter.unusedSimpArgs false
@@BLOCK:NumsL.lean.txt@@
namespace Jvm.RoadKit
open Sem ClassFile Op Lib Jvm.Stand Jvm.Free Jvm.LawKit
section New
variable {p : Program} {l : Launch} {e : Env} {R : Room} {s : State} {m : MethodId} {args : Array Value} {below : List Frame} {meth : Method} {c : Code} {T : State} {locs : List Loc} {cells slots : Nat}
theorem retI (X : Stand p l e R s m args below meth c T locs cells slots) (hx : p.tables.exec = Jvm.exec) {pc : Nat} {Ls : Array Slot} {z : Int32} {rest : List Value} (hret : meth.sig.returnType = some .int) (hd : decode c.code pc = .ok (.ireturn, 1)) {fs : List Frame}
    (hl : ∀ (f : JFrame) (acts : List Action), f.method = m → f.locked = none → f.entered = [] → (doReturn e (T.setTop f) acts (some (.int z))).1 = T.setFrames fs) : Steps p.tables e below (T.setTop (mkF m pc Ls (.int z :: rest))) (T.setFrames fs) := by
  have hm' : T.vm.method? m = some meth := X.method'
  have hn : narrow .int (.int z) = .int z := rfl
  show Steps p.tables e below (T.setTop { method := m, pc := pc, locals := Ls, stack := _ :: rest, locked := none }) _
  jvm_step X.here [X.here.top, hx, hd, hm', hret, hn]
  first | (intro acts; rw [hl _ acts rfl rfl rfl]) | rw [hl _ _ rfl rfl rfl]
  exact Steps.refl _
end New
end Jvm.RoadKit
namespace Jvm.Pilot.@@N@@
open Jvm Jvm.ClassFile Sem Op Lib Jvm.Free Jvm.Stand Jvm.LawKit Jvm.RoadKit Bundle Jvm.Pilot.@@N@@.Jvm.D

theorem own_pin {args : Array Value} {Z : State} {C n d K : String} (h : (Cond.exactly (Term.static C n d) K).value args Z none Z [] = some true) (hi : (Cond.initialized C).before args Z = true) (hl : (Cond.laysStatic C n d).before args Z = true) : ∃ a, (Term.static C n d).eval args Z none [] Z = some (.ref a) ∧ Sta Z Z.heap C n d (.ref a) ∧ Exa Z Z.heap a K := by
  obtain ⟨a, ev⟩ := exa_v h
  exact ⟨a, ev, Sta.start ev (Or.inr ⟨hi, hl⟩), Exa.start ev h⟩
theorem own_fld {args : Array Value} {Z : State} {t : Term} {C n : String} {k : Int32} {a : Addr} (ev : t.eval args Z none [] Z = some (.ref a)) (h : (Cond.eq (Term.field t C n "I") (Term.int k)).value args Z none Z [] = some true) : Z.fieldOf? a C n "I" = some (.int k) := by
  rw [← fld_at (C := C) (n := n) (dd := "I") ev]
  obtain ⟨x, y, e1, e2, k1, k2⟩ := cmp_v (Or.inl h)
  have e3 : y = .int k := Option.some.inj (e2.symm.trans (Term.int_eval k))
  subst e3
  obtain ⟨z, rfl⟩ := k2
  have q : z = k := by simpa [Cond.value, e1, e2] using h
  rw [e1, q]
theorem own_ne {Z : State} {a b : Addr} {C n d : String} {j k : Int32} (h1 : Z.fieldOf? a C n d = some (.int j)) (h2 : Z.fieldOf? b C n d = some (.int k)) (hn : j ≠ k) : ¬ (a = b) := fun e => by
  subst e
  exact hn (Value.int.inj (Option.some.inj (h1.symm.trans h2)))

theorem own_stk {Z : State} {h h' : Heap} {C n d : String} {v : Value} (F : Sta Z h C n d v) (K : Keep h h' []) : Sta Z h' C n d v := by
  obtain ⟨cf, i, k, f, st, cell, h1, h2, h3, h4, h5, r⟩ := F
  exact ⟨cf, i, k, f, st, cell, h1, h2, h3, h4, K.2.1 _ _ h5 nin0, r⟩
theorem own_idx (x : Int32) : ¬ ((x &&& (2147483647 : Int32)) % (20 : Int32) < 0) ∧ (x &&& (2147483647 : Int32)) % (20 : Int32) < (20 : Int32) := by
  have e := Jvm.Kit.i32_mask x (2147483647 : Int32) (k := 31) (by decide) (by decide)
  have p : 0 ≤ (x &&& (2147483647 : Int32)).toInt := by rw [e]; omega
  have q := Jvm.Kit.i32_rem_nonneg (x := x &&& (2147483647 : Int32)) (y := (20 : Int32)) p
  have e0 : (0 : Int32).toInt = 0 := by decide
  have e20 : (20 : Int32).toInt = 20 := by decide
  rw [Int32.lt_iff_toInt_lt, Int32.lt_iff_toInt_lt, q, e0, e20]
  omega
theorem own_clamp {j : Int32} (h : ¬ (j < 0) ∧ j < (20 : Int32)) : j.toNatClampNeg < 20 ∧ (j.toNatClampNeg = 19 ↔ j = (19 : Int32)) := by
  obtain ⟨q1, q2⟩ := h
  have e0 : (0 : Int32).toInt = 0 := by decide
  have e19 : (19 : Int32).toInt = 19 := by decide
  have e20 : (20 : Int32).toInt = 20 := by decide
  rw [Int32.lt_iff_toInt_lt, e0] at q1
  rw [Int32.lt_iff_toInt_lt, e20] at q2
  rw [← Int32.toInt_inj, e19]
  simp only [Int32.toNatClampNeg]
  omega
theorem d1_0 : decode prog_9_method_6_code 0 = .ok (.aload_n 0, 1) := by decide +kernel
theorem d1_1 : decode prog_9_method_6_code 1 = .ok (.getstatic 61, 3) := by decide +kernel
theorem d1_4 : decode prog_9_method_6_code 4 = .ok (.if_acmp .eq 7, 3) := by decide +kernel
theorem d1_11 : decode prog_9_method_6_code 11 = .ok (.iconst 0, 1) := by decide +kernel
theorem d1_12 : decode prog_9_method_6_code 12 = .ok (.ireturn, 1) := by decide +kernel
theorem pn_1 : plainName "com/example/arvestus/arvestus/values/AccountRole" = true := by first | (simp [plainName, overriddenIn]; done) | decide +kernel
theorem ef_1 (m : MethodId) (x0 : Addr) : entryFrame m #[(.ref x0)] 1 = mkF m 0 #[.val (.ref x0)] [] := by first | (simp [entryFrame, mkF, argsToLocals, Value.category]; done) | rfl
def Q1_t (Z : State) (a1 : Addr) (w2 : Addr) (h0 : Heap) (n0 : Nat) (v : Option Value) (h : Heap) (L : List Loc) : Prop := v = some (.int (0 : Int32)) ∧ Fr n0 L ∧ h = h0
set_option maxRecDepth 65536 in
set_option maxHeartbeats 40000000 in
theorem rm1_t (l : Launch) (Z : State) (a0 : Array Value) (hw : ∀ d ∈ tables_1, d.before a0 Z = true) (ws : List Jvm.Cond) (a1 : Addr) (w2 : Addr) (h0 : Heap) (n0 : Nat) (Z0 : n0 ≤ h0.size) (S_AVERAGE_RATE_POOL : Sta Z h0 "com/example/arvestus/arvestus/values/AccountRole" "AVERAGE_RATE_POOL" "Lcom/example/arvestus/arvestus/values/AccountRole;" (.ref w2)) (ha4 : a1 = w2) :
    MetFree l (⟨"com/example/arvestus/arvestus/values/AccountRole", "isUnique", "()Z"⟩ : MethodName) (head1 (Jvm.Cond.code (⟨"com/example/arvestus/arvestus/values/AccountRole", "isUnique", "()Z"⟩ : MethodName) prog_9_method_6_code 1 (some .boolean) :: ws) ({ frames := 0, cells := 0, slots := 0, locals := 0 } : Room)) (fun a U => a = #[(.ref a1)] ∧ Z.Warmed39 U.vm ∧ U.heap = h0) (fun _ _ _ _ _ => True) (fun _ U o U' => ∃ v L, o = .returned v ∧ Q1_t Z a1 w2 h0 n0 v U'.heap L ∧ FrameEnd U o U' L ({ frames := 0, cells := 0, slots := 0, locals := 0 } : Room).cells ({ frames := 0, cells := 0, slots := 0, locals := 0 } : Room).slots) := by
  refine MetFree.of_bodySF (plainFor_of_name pn_1) hisR ?_
  intro p e s m args below meth c s₁ Bd hml0 hP hK
  obtain ⟨rfl, hZ, hh⟩ := hP
  have hx := Bd.exec
  have hby := Bd.bytes
  have hml : c.maxLocals = 1 := hml0
  have hown : s.vm.findClass "com/example/arvestus/arvestus/values/AccountRole" = some m.cls := findClass_of_methodNamed Bd.named
  have hnm := (name_of_methodNamed Bd.named Bd.method).1
  have X0 : Stand p l e ({ frames := 0, cells := 0, slots := 0, locals := 0 } : Room) s m #[(.ref a1)] below meth c s₁ [] 0 0 := Stand.of_body Bd
  have e0 : s₁.heap = h0 := by rw [← hh, Bd.state]; rfl
  have N0 := Fr.nil n0
  have pre0 : ∀ t, Steps p.tables e below (s₁.setTop (mkF m 0 #[.val (.ref a1)] [])) t → Steps p.tables e below (s₁.setTop (entryFrame m #[(.ref a1)] 1)) t := fun t k => castTop (ef_1 m a1) k
  obtain ⟨T3, X3, e3, st3⟩ := getS2 X0 hx hZ hown (host := "") (Or.inl (hw _ (List.mem_of_getElem? (i := 50) rfl))) Via.refl e0 S_AVERAGE_RATE_POOL (g := (mkF m 1 #[.val (.ref a1)] [(.ref a1)])) rfl (hb hby d1_1)
  obtain ⟨fs, hr, hrun, hended, hW, hsame⟩ := X3.leave (v := some (.int (0 : Int32))) (fun h => by rw [Bd.returns] at h; cases h)
  refine ⟨_, _, pre0 _ ?_, hrun, hended, _, _, rfl, ?_, ⟨_, rfl⟩, hW, hsame.mono (by decide) (by decide)⟩
  · show Steps p.tables e below (s₁.setTop (mkF m 0 #[.val (.ref a1)] [])) _
    refine XS.aloadN X0.here hx rfl (hb hby d1_0) rfl rfl ?_
    show Steps p.tables e below (s₁.setTop (mkF m 1 #[.val (.ref a1)] [(.ref a1)])) _
    refine st3 _ ?_
    show Steps p.tables e below (T3.setTop (mkF m 4 #[.val (.ref a1)] [(.ref w2), (.ref a1)])) _
    refine Jvm.RoadKit.acmp (g := (mkF m 4 #[.val (.ref a1)] [(.ref w2), (.ref a1)])) X3 hx rfl rfl rfl (pc0 := 4) (pc' := 11) (same := true) rfl (hb hby d1_4) rfl (decide_eq_true (congrArg Value.ref ha4)) (by decide) (by decide) ?_
    show Steps p.tables e below (T3.setTop (mkF m 11 #[.val (.ref a1)] [])) _
    refine XS.iconst X3.here hx rfl (hb hby d1_11) ?_
    show Steps p.tables e below (T3.setTop (mkF m 12 #[.val (.ref a1)] [(.int (0 : Int32))])) _
    exact retN X3 hx (t := .boolean) Bd.returns (by simp) (hb hby d1_12) hr
  · show Q1_t Z a1 w2 h0 n0 _ T3.heap _
    rw [e3]
    exact ⟨rfl, N0, rfl⟩
theorem d1_7 : decode prog_9_method_6_code 7 = .ok (.iconst 1, 1) := by decide +kernel
theorem d1_8 : decode prog_9_method_6_code 8 = .ok (.goto 4, 3) := by decide +kernel
def Q1_f (Z : State) (a1 : Addr) (w2 : Addr) (h0 : Heap) (n0 : Nat) (v : Option Value) (h : Heap) (L : List Loc) : Prop := v = some (.int (1 : Int32)) ∧ Fr n0 L ∧ h = h0
set_option maxRecDepth 65536 in
set_option maxHeartbeats 40000000 in
theorem rm1_f (l : Launch) (Z : State) (a0 : Array Value) (hw : ∀ d ∈ tables_1, d.before a0 Z = true) (ws : List Jvm.Cond) (a1 : Addr) (w2 : Addr) (h0 : Heap) (n0 : Nat) (Z0 : n0 ≤ h0.size) (S_AVERAGE_RATE_POOL : Sta Z h0 "com/example/arvestus/arvestus/values/AccountRole" "AVERAGE_RATE_POOL" "Lcom/example/arvestus/arvestus/values/AccountRole;" (.ref w2)) (ha4 : ¬ (a1 = w2)) :
    MetFree l (⟨"com/example/arvestus/arvestus/values/AccountRole", "isUnique", "()Z"⟩ : MethodName) (head1 (Jvm.Cond.code (⟨"com/example/arvestus/arvestus/values/AccountRole", "isUnique", "()Z"⟩ : MethodName) prog_9_method_6_code 1 (some .boolean) :: ws) ({ frames := 0, cells := 0, slots := 0, locals := 0 } : Room)) (fun a U => a = #[(.ref a1)] ∧ Z.Warmed39 U.vm ∧ U.heap = h0) (fun _ _ _ _ _ => True) (fun _ U o U' => ∃ v L, o = .returned v ∧ Q1_f Z a1 w2 h0 n0 v U'.heap L ∧ FrameEnd U o U' L ({ frames := 0, cells := 0, slots := 0, locals := 0 } : Room).cells ({ frames := 0, cells := 0, slots := 0, locals := 0 } : Room).slots) := by
  refine MetFree.of_bodySF (plainFor_of_name pn_1) hisR ?_
  intro p e s m args below meth c s₁ Bd hml0 hP hK
  obtain ⟨rfl, hZ, hh⟩ := hP
  have hx := Bd.exec
  have hby := Bd.bytes
  have hml : c.maxLocals = 1 := hml0
  have hown : s.vm.findClass "com/example/arvestus/arvestus/values/AccountRole" = some m.cls := findClass_of_methodNamed Bd.named
  have hnm := (name_of_methodNamed Bd.named Bd.method).1
  have X0 : Stand p l e ({ frames := 0, cells := 0, slots := 0, locals := 0 } : Room) s m #[(.ref a1)] below meth c s₁ [] 0 0 := Stand.of_body Bd
  have e0 : s₁.heap = h0 := by rw [← hh, Bd.state]; rfl
  have N0 := Fr.nil n0
  have pre0 : ∀ t, Steps p.tables e below (s₁.setTop (mkF m 0 #[.val (.ref a1)] [])) t → Steps p.tables e below (s₁.setTop (entryFrame m #[(.ref a1)] 1)) t := fun t k => castTop (ef_1 m a1) k
  obtain ⟨T3, X3, e3, st3⟩ := getS2 X0 hx hZ hown (host := "") (Or.inl (hw _ (List.mem_of_getElem? (i := 50) rfl))) Via.refl e0 S_AVERAGE_RATE_POOL (g := (mkF m 1 #[.val (.ref a1)] [(.ref a1)])) rfl (hb hby d1_1)
  obtain ⟨fs, hr, hrun, hended, hW, hsame⟩ := X3.leave (v := some (.int (1 : Int32))) (fun h => by rw [Bd.returns] at h; cases h)
  refine ⟨_, _, pre0 _ ?_, hrun, hended, _, _, rfl, ?_, ⟨_, rfl⟩, hW, hsame.mono (by decide) (by decide)⟩
  · show Steps p.tables e below (s₁.setTop (mkF m 0 #[.val (.ref a1)] [])) _
    refine XS.aloadN X0.here hx rfl (hb hby d1_0) rfl rfl ?_
    show Steps p.tables e below (s₁.setTop (mkF m 1 #[.val (.ref a1)] [(.ref a1)])) _
    refine st3 _ ?_
    show Steps p.tables e below (T3.setTop (mkF m 4 #[.val (.ref a1)] [(.ref w2), (.ref a1)])) _
    refine Jvm.RoadKit.acmp (g := (mkF m 4 #[.val (.ref a1)] [(.ref w2), (.ref a1)])) X3 hx rfl rfl rfl (pc0 := 4) (pc' := 7) (same := false) rfl (hb hby d1_4) rfl (decide_eq_false fun q => ha4 (Value.ref.inj q)) (by decide) (by decide) ?_
    show Steps p.tables e below (T3.setTop (mkF m 7 #[.val (.ref a1)] [])) _
    refine XS.iconst X3.here hx rfl (hb hby d1_7) ?_
    show Steps p.tables e below (T3.setTop (mkF m 8 #[.val (.ref a1)] [(.int (1 : Int32))])) _
    refine XS.goto X3.here hx rfl (pc0 := 8) (pc' := 12) rfl (hb hby d1_8) (by decide) (by decide) ?_
    show Steps p.tables e below (T3.setTop (mkF m 12 #[.val (.ref a1)] [(.int (1 : Int32))])) _
    exact retN X3 hx (t := .boolean) Bd.returns (by simp) (hb hby d1_12) hr
  · show Q1_f Z a1 w2 h0 n0 _ T3.heap _
    rw [e3]
    exact ⟨rfl, N0, rfl⟩
theorem pn_0 : plainName "com/example/arvestus/arvestus/values/AccountRoleIsUniquePinLaw" = true := by first | (simp [plainName, overriddenIn]; done) | decide +kernel
theorem pd_0_0_a : parseMethodDescriptor "()Z" = some ⟨[], some .boolean⟩ := by decide +kernel
theorem ef_0 (m : MethodId) (x0 : Int32) : entryFrame m #[(.int x0)] maxLocals = mkF m 0 #[.val (.int x0), .unset, .unset, .unset] [] := by first | (simp [entryFrame, mkF, argsToLocals, Value.category, maxLocals]; done) | rfl
def Q0_a (Z : State) (p1 : Int32) (w3 : Addr) (w6 : Addr) (w9 : Addr) (w12 : Addr) (w15 : Addr) (w18 : Addr) (w21 : Addr) (w24 : Addr) (w27 : Addr) (w30 : Addr) (w33 : Addr) (w36 : Addr) (w39 : Addr) (w42 : Addr) (w45 : Addr) (w48 : Addr) (w51 : Addr) (w54 : Addr) (w57 : Addr) (w60 : Addr) (w63 : Addr) (h0 : Heap) (n0 : Nat) (v : Option Value) (h : Heap) (L : List Loc) : Prop := v = some (.int (1 : Int32)) ∧ Fr n0 L
set_option maxRecDepth 65536 in
set_option maxHeartbeats 40000000 in
theorem rm0_a (l : Launch) (Z : State) (a0 : Array Value) (hw : ∀ d ∈ tables_1, d.before a0 Z = true) (ws : List Jvm.Cond) (p1 : Int32) (w3 : Addr) (w6 : Addr) (w9 : Addr) (w12 : Addr) (w15 : Addr) (w18 : Addr) (w21 : Addr) (w24 : Addr) (w27 : Addr) (w30 : Addr) (w33 : Addr) (w36 : Addr) (w39 : Addr) (w42 : Addr) (w45 : Addr) (w48 : Addr) (w51 : Addr) (w54 : Addr) (w57 : Addr) (w60 : Addr) (w63 : Addr) (h0 : Heap) (n0 : Nat) (Z0 : n0 ≤ h0.size) (S_RECEIVABLES : Sta Z h0 "com/example/arvestus/arvestus/values/AccountRole" "RECEIVABLES" "Lcom/example/arvestus/arvestus/values/AccountRole;" (.ref w3)) (E_w3 : Exa Z h0 w3 "com/example/arvestus/arvestus/values/AccountRole") (S_PAYABLES : Sta Z h0 "com/example/arvestus/arvestus/values/AccountRole" "PAYABLES" "Lcom/example/arvestus/arvestus/values/AccountRole;" (.ref w6)) (E_w6 : Exa Z h0 w6 "com/example/arvestus/arvestus/values/AccountRole") (S_CUSTOMER_PREPAYMENTS : Sta Z h0 "com/example/arvestus/arvestus/values/AccountRole" "CUSTOMER_PREPAYMENTS" "Lcom/example/arvestus/arvestus/values/AccountRole;" (.ref w9)) (E_w9 : Exa Z h0 w9 "com/example/arvestus/arvestus/values/AccountRole") (S_SUPPLIER_PREPAYMENTS : Sta Z h0 "com/example/arvestus/arvestus/values/AccountRole" "SUPPLIER_PREPAYMENTS" "Lcom/example/arvestus/arvestus/values/AccountRole;" (.ref w12)) (E_w12 : Exa Z h0 w12 "com/example/arvestus/arvestus/values/AccountRole") (S_FX_GAIN_TRADE : Sta Z h0 "com/example/arvestus/arvestus/values/AccountRole" "FX_GAIN_TRADE" "Lcom/example/arvestus/arvestus/values/AccountRole;" (.ref w15)) (E_w15 : Exa Z h0 w15 "com/example/arvestus/arvestus/values/AccountRole") (S_FX_LOSS_TRADE : Sta Z h0 "com/example/arvestus/arvestus/values/AccountRole" "FX_LOSS_TRADE" "Lcom/example/arvestus/arvestus/values/AccountRole;" (.ref w18)) (E_w18 : Exa Z h0 w18 "com/example/arvestus/arvestus/values/AccountRole") (S_FX_GAIN_SETTLEMENT : Sta Z h0 "com/example/arvestus/arvestus/values/AccountRole" "FX_GAIN_SETTLEMENT" "Lcom/example/arvestus/arvestus/values/AccountRole;" (.ref w21)) (E_w21 : Exa Z h0 w21 "com/example/arvestus/arvestus/values/AccountRole") (S_FX_LOSS_SETTLEMENT : Sta Z h0 "com/example/arvestus/arvestus/values/AccountRole" "FX_LOSS_SETTLEMENT" "Lcom/example/arvestus/arvestus/values/AccountRole;" (.ref w24)) (E_w24 : Exa Z h0 w24 "com/example/arvestus/arvestus/values/AccountRole") (S_FX_UNREALISED_GAIN : Sta Z h0 "com/example/arvestus/arvestus/values/AccountRole" "FX_UNREALISED_GAIN" "Lcom/example/arvestus/arvestus/values/AccountRole;" (.ref w27)) (E_w27 : Exa Z h0 w27 "com/example/arvestus/arvestus/values/AccountRole") (S_FX_UNREALISED_LOSS : Sta Z h0 "com/example/arvestus/arvestus/values/AccountRole" "FX_UNREALISED_LOSS" "Lcom/example/arvestus/arvestus/values/AccountRole;" (.ref w30)) (E_w30 : Exa Z h0 w30 "com/example/arvestus/arvestus/values/AccountRole") (S_FX_GAIN_REVALUATION : Sta Z h0 "com/example/arvestus/arvestus/values/AccountRole" "FX_GAIN_REVALUATION" "Lcom/example/arvestus/arvestus/values/AccountRole;" (.ref w33)) (E_w33 : Exa Z h0 w33 "com/example/arvestus/arvestus/values/AccountRole") (S_FX_LOSS_REVALUATION : Sta Z h0 "com/example/arvestus/arvestus/values/AccountRole" "FX_LOSS_REVALUATION" "Lcom/example/arvestus/arvestus/values/AccountRole;" (.ref w36)) (E_w36 : Exa Z h0 w36 "com/example/arvestus/arvestus/values/AccountRole") (S_ROUNDING_INCOME : Sta Z h0 "com/example/arvestus/arvestus/values/AccountRole" "ROUNDING_INCOME" "Lcom/example/arvestus/arvestus/values/AccountRole;" (.ref w39)) (E_w39 : Exa Z h0 w39 "com/example/arvestus/arvestus/values/AccountRole") (S_ROUNDING_COST : Sta Z h0 "com/example/arvestus/arvestus/values/AccountRole" "ROUNDING_COST" "Lcom/example/arvestus/arvestus/values/AccountRole;" (.ref w42)) (E_w42 : Exa Z h0 w42 "com/example/arvestus/arvestus/values/AccountRole") (S_REVALUATION_CLEARING : Sta Z h0 "com/example/arvestus/arvestus/values/AccountRole" "REVALUATION_CLEARING" "Lcom/example/arvestus/arvestus/values/AccountRole;" (.ref w45)) (E_w45 : Exa Z h0 w45 "com/example/arvestus/arvestus/values/AccountRole") (S_VAT_OUTPUT : Sta Z h0 "com/example/arvestus/arvestus/values/AccountRole" "VAT_OUTPUT" "Lcom/example/arvestus/arvestus/values/AccountRole;" (.ref w48)) (E_w48 : Exa Z h0 w48 "com/example/arvestus/arvestus/values/AccountRole") (S_VAT_INPUT : Sta Z h0 "com/example/arvestus/arvestus/values/AccountRole" "VAT_INPUT" "Lcom/example/arvestus/arvestus/values/AccountRole;" (.ref w51)) (E_w51 : Exa Z h0 w51 "com/example/arvestus/arvestus/values/AccountRole") (S_VAT_OUTPUT_PREPAYMENTS : Sta Z h0 "com/example/arvestus/arvestus/values/AccountRole" "VAT_OUTPUT_PREPAYMENTS" "Lcom/example/arvestus/arvestus/values/AccountRole;" (.ref w54)) (E_w54 : Exa Z h0 w54 "com/example/arvestus/arvestus/values/AccountRole") (S_VAT_INPUT_PREPAYMENTS : Sta Z h0 "com/example/arvestus/arvestus/values/AccountRole" "VAT_INPUT_PREPAYMENTS" "Lcom/example/arvestus/arvestus/values/AccountRole;" (.ref w57)) (E_w57 : Exa Z h0 w57 "com/example/arvestus/arvestus/values/AccountRole") (S_AVERAGE_RATE_POOL : Sta Z h0 "com/example/arvestus/arvestus/values/AccountRole" "AVERAGE_RATE_POOL" "Lcom/example/arvestus/arvestus/values/AccountRole;" (.ref w60)) (E_w60 : Exa Z h0 w60 "com/example/arvestus/arvestus/values/AccountRole") (E_w63 : Exa Z h0 w63 "com/example/arvestus/arvestus/values/AccountRole") (hc151 : ¬ (((p1 &&& (2147483647 : Int32)) % (20 : Int32)) = (19 : Int32))) (hj : ¬ (((p1 &&& (2147483647 : Int32)) % (20 : Int32)) < 0) ∧ ((p1 &&& (2147483647 : Int32)) % (20 : Int32)) < (20 : Int32)) (hu : ([.ref w3, .ref w6, .ref w9, .ref w12, .ref w15, .ref w18, .ref w21, .ref w24, .ref w27, .ref w30, .ref w33, .ref w36, .ref w39, .ref w42, .ref w45, .ref w48, .ref w51, .ref w54, .ref w57, .ref w60] : List Value).getD (((p1 &&& (2147483647 : Int32)) % (20 : Int32))).toNatClampNeg .null = .ref w63) (hsel : ¬ (w63 = w60)) :
    MetFree l x (head1 (Jvm.Cond.code x code maxLocals ret :: ws) room_1) (fun a U => a = #[(.int p1)] ∧ Z.Warmed39 U.vm ∧ U.heap = h0) (fun _ _ _ _ _ => True) (fun _ U o U' => ∃ v L, o = .returned v ∧ Q0_a Z p1 w3 w6 w9 w12 w15 w18 w21 w24 w27 w30 w33 w36 w39 w42 w45 w48 w51 w54 w57 w60 w63 h0 n0 v U'.heap L ∧ FrameEnd U o U' L room_1.cells room_1.slots) := by
  refine MetFree.of_bodySF (plainFor_of_name pn_0) hisR ?_
  intro p e s m args below meth c s₁ Bd hml0 hP hK
  obtain ⟨rfl, hZ, hh⟩ := hP
  have hx := Bd.exec
  have hby := Bd.bytes
  have hml : c.maxLocals = 4 := hml0
  have hown : s.vm.findClass "com/example/arvestus/arvestus/values/AccountRoleIsUniquePinLaw" = some m.cls := findClass_of_methodNamed Bd.named
  have hnm := (name_of_methodNamed Bd.named Bd.method).1
  have X0 : Stand p l e room_1 s m #[(.int p1)] below meth c s₁ [] 0 0 := Stand.of_body Bd
  have e0 : s₁.heap = h0 := by rw [← hh, Bd.state]; rfl
  have N0 := Fr.nil n0
  have pre0 : ∀ t, Steps p.tables e below (s₁.setTop (mkF m 0 #[.val (.int p1), .unset, .unset, .unset] [])) t → Steps p.tables e below (s₁.setTop (entryFrame m #[(.int p1)] maxLocals)) t := fun t k => castTop (ef_0 m p1) k
  obtain ⟨T2, h2, k2, X2, e2, E2, A2, O2, st2⟩ := newR X0 hx hZ hown (hw _ (List.mem_of_getElem? (i := 0) rfl)) (hw _ (List.mem_of_getElem? (i := 1) rfl)) e0 (g := (mkF m 2 #[.val (.int p1), .unset, .unset, .unset] [(.int (20 : Int32))])) rfl (hb hby at_2) rfl (by decide) (cap := 20) (by decide) (by decide) (by decide) (by decide)
  obtain ⟨b2, g2⟩ : ∃ z, z = h0.size := ⟨_, rfl⟩
  rw [← g2] at A2 st2
  have V2 : Arv Z h2 b2 k2 (.object "com/example/arvestus/arvestus/values/AccountRole") (20 : Int32) [.null, .null, .null, .null, .null, .null, .null, .null, .null, .null, .null, .null, .null, .null, .null, .null, .null, .null, .null, .null] .null := (Arv.new A2 (by decide)).pad (pad_rep [] .null 20)
  have g_b2 : n0 ≤ b2 := Nat.le_trans Z0 (Nat.le_of_eq g2.symm)
  have sz_b2 : h0.size ≤ b2 := (Nat.le_trans (Keep.refl h0 []).1 (Nat.le_of_eq g2.symm))
  have K2 : Keep h0 h2 [] := (Keep.refl h0 []).ext E2
  obtain ⟨T4, X4, e4, st4⟩ := getS2 X2 hx hZ hown (host := "") (Or.inl (hw _ (List.mem_of_getElem? (i := 2) rfl))) Via.refl e2 (own_stk S_RECEIVABLES K2) (g := (mkF m 7 #[.val (.int p1), .unset, .unset, .unset] [(.int (0 : Int32)), (.ref b2), (.ref b2)])) rfl (hb hby at_7)
  obtain ⟨cl5, Ar5, q5, sz5, nn5, H5, G5⟩ := V2
  obtain ⟨T5, h5, X5, e5, W5, st5⟩ := stR X4 hx hZ e4 Ar5 (j := (0 : Int32)) (inb_of sz5 (by decide)) rfl (Sto.ofV Ar5 q5 O2 (Ins.self (E_w3.keep K2))) (g := (mkF m 10 #[.val (.int p1), .unset, .unset, .unset] [(.ref w3), (.int (0 : Int32)), (.ref b2), (.ref b2)])) rfl rfl (hb hby at_10)
  have V5 : Arv Z h5 b2 k2 (.object "com/example/arvestus/arvestus/values/AccountRole") (20 : Int32) [.ref w3, .null, .null, .null, .null, .null, .null, .null, .null, .null, .null, .null, .null, .null, .null, .null, .null, .null, .null, .null] .null := Arv.set Ar5 q5 sz5 nn5 H5 G5 rfl W5 0 rfl (Nat.le_of_ble_eq_true rfl)
  have N5 := Fr.snoc X5 N0 g_b2
  have K5 : Keep h0 h5 [] := K2.wr W5 (Or.inr sz_b2)
  obtain ⟨T7, X7, e7, st7⟩ := getS2 X5 hx hZ hown (host := "") (Or.inl (hw _ (List.mem_of_getElem? (i := 6) rfl))) Via.refl e5 (own_stk S_PAYABLES K5) (g := (mkF m 13 #[.val (.int p1), .unset, .unset, .unset] [(.int (1 : Int32)), (.ref b2), (.ref b2)])) rfl (hb hby at_13)
  obtain ⟨cl8, Ar8, q8, sz8, nn8, H8, G8⟩ := V5
  obtain ⟨T8, h8, X8, e8, W8, st8⟩ := stR X7 hx hZ e7 Ar8 (j := (1 : Int32)) (inb_of sz8 (by decide)) rfl (Sto.ofV Ar8 q8 O2 (Ins.self (E_w6.keep K5))) (g := (mkF m 16 #[.val (.int p1), .unset, .unset, .unset] [(.ref w6), (.int (1 : Int32)), (.ref b2), (.ref b2)])) rfl rfl (hb hby at_16)
  have V8 : Arv Z h8 b2 k2 (.object "com/example/arvestus/arvestus/values/AccountRole") (20 : Int32) [.ref w3, .ref w6, .null, .null, .null, .null, .null, .null, .null, .null, .null, .null, .null, .null, .null, .null, .null, .null, .null, .null] .null := Arv.set Ar8 q8 sz8 nn8 H8 G8 rfl W8 1 rfl (Nat.le_of_ble_eq_true rfl)
  have N8 := Fr.snoc X8 N5 g_b2
  have K8 : Keep h0 h8 [] := K5.wr W8 (Or.inr sz_b2)
  obtain ⟨T10, X10, e10, st10⟩ := getS2 X8 hx hZ hown (host := "") (Or.inl (hw _ (List.mem_of_getElem? (i := 8) rfl))) Via.refl e8 (own_stk S_CUSTOMER_PREPAYMENTS K8) (g := (mkF m 19 #[.val (.int p1), .unset, .unset, .unset] [(.int (2 : Int32)), (.ref b2), (.ref b2)])) rfl (hb hby at_19)
  obtain ⟨cl11, Ar11, q11, sz11, nn11, H11, G11⟩ := V8
  obtain ⟨T11, h11, X11, e11, W11, st11⟩ := stR X10 hx hZ e10 Ar11 (j := (2 : Int32)) (inb_of sz11 (by decide)) rfl (Sto.ofV Ar11 q11 O2 (Ins.self (E_w9.keep K8))) (g := (mkF m 22 #[.val (.int p1), .unset, .unset, .unset] [(.ref w9), (.int (2 : Int32)), (.ref b2), (.ref b2)])) rfl rfl (hb hby at_22)
  have V11 : Arv Z h11 b2 k2 (.object "com/example/arvestus/arvestus/values/AccountRole") (20 : Int32) [.ref w3, .ref w6, .ref w9, .null, .null, .null, .null, .null, .null, .null, .null, .null, .null, .null, .null, .null, .null, .null, .null, .null] .null := Arv.set Ar11 q11 sz11 nn11 H11 G11 rfl W11 2 rfl (Nat.le_of_ble_eq_true rfl)
  have N11 := Fr.snoc X11 N8 g_b2
  have K11 : Keep h0 h11 [] := K8.wr W11 (Or.inr sz_b2)
  obtain ⟨T13, X13, e13, st13⟩ := getS2 X11 hx hZ hown (host := "") (Or.inl (hw _ (List.mem_of_getElem? (i := 10) rfl))) Via.refl e11 (own_stk S_SUPPLIER_PREPAYMENTS K11) (g := (mkF m 25 #[.val (.int p1), .unset, .unset, .unset] [(.int (3 : Int32)), (.ref b2), (.ref b2)])) rfl (hb hby at_25)
  obtain ⟨cl14, Ar14, q14, sz14, nn14, H14, G14⟩ := V11
  obtain ⟨T14, h14, X14, e14, W14, st14⟩ := stR X13 hx hZ e13 Ar14 (j := (3 : Int32)) (inb_of sz14 (by decide)) rfl (Sto.ofV Ar14 q14 O2 (Ins.self (E_w12.keep K11))) (g := (mkF m 28 #[.val (.int p1), .unset, .unset, .unset] [(.ref w12), (.int (3 : Int32)), (.ref b2), (.ref b2)])) rfl rfl (hb hby at_28)
  have V14 : Arv Z h14 b2 k2 (.object "com/example/arvestus/arvestus/values/AccountRole") (20 : Int32) [.ref w3, .ref w6, .ref w9, .ref w12, .null, .null, .null, .null, .null, .null, .null, .null, .null, .null, .null, .null, .null, .null, .null, .null] .null := Arv.set Ar14 q14 sz14 nn14 H14 G14 rfl W14 3 rfl (Nat.le_of_ble_eq_true rfl)
  have N14 := Fr.snoc X14 N11 g_b2
  have K14 : Keep h0 h14 [] := K11.wr W14 (Or.inr sz_b2)
  obtain ⟨T16, X16, e16, st16⟩ := getS2 X14 hx hZ hown (host := "") (Or.inl (hw _ (List.mem_of_getElem? (i := 12) rfl))) Via.refl e14 (own_stk S_FX_GAIN_TRADE K14) (g := (mkF m 31 #[.val (.int p1), .unset, .unset, .unset] [(.int (4 : Int32)), (.ref b2), (.ref b2)])) rfl (hb hby at_31)
  obtain ⟨cl17, Ar17, q17, sz17, nn17, H17, G17⟩ := V14
  obtain ⟨T17, h17, X17, e17, W17, st17⟩ := stR X16 hx hZ e16 Ar17 (j := (4 : Int32)) (inb_of sz17 (by decide)) rfl (Sto.ofV Ar17 q17 O2 (Ins.self (E_w15.keep K14))) (g := (mkF m 34 #[.val (.int p1), .unset, .unset, .unset] [(.ref w15), (.int (4 : Int32)), (.ref b2), (.ref b2)])) rfl rfl (hb hby at_34)
  have V17 : Arv Z h17 b2 k2 (.object "com/example/arvestus/arvestus/values/AccountRole") (20 : Int32) [.ref w3, .ref w6, .ref w9, .ref w12, .ref w15, .null, .null, .null, .null, .null, .null, .null, .null, .null, .null, .null, .null, .null, .null, .null] .null := Arv.set Ar17 q17 sz17 nn17 H17 G17 rfl W17 4 rfl (Nat.le_of_ble_eq_true rfl)
  have N17 := Fr.snoc X17 N14 g_b2
  have K17 : Keep h0 h17 [] := K14.wr W17 (Or.inr sz_b2)
  obtain ⟨T19, X19, e19, st19⟩ := getS2 X17 hx hZ hown (host := "") (Or.inl (hw _ (List.mem_of_getElem? (i := 14) rfl))) Via.refl e17 (own_stk S_FX_LOSS_TRADE K17) (g := (mkF m 37 #[.val (.int p1), .unset, .unset, .unset] [(.int (5 : Int32)), (.ref b2), (.ref b2)])) rfl (hb hby at_37)
  obtain ⟨cl20, Ar20, q20, sz20, nn20, H20, G20⟩ := V17
  obtain ⟨T20, h20, X20, e20, W20, st20⟩ := stR X19 hx hZ e19 Ar20 (j := (5 : Int32)) (inb_of sz20 (by decide)) rfl (Sto.ofV Ar20 q20 O2 (Ins.self (E_w18.keep K17))) (g := (mkF m 40 #[.val (.int p1), .unset, .unset, .unset] [(.ref w18), (.int (5 : Int32)), (.ref b2), (.ref b2)])) rfl rfl (hb hby at_40)
  have V20 : Arv Z h20 b2 k2 (.object "com/example/arvestus/arvestus/values/AccountRole") (20 : Int32) [.ref w3, .ref w6, .ref w9, .ref w12, .ref w15, .ref w18, .null, .null, .null, .null, .null, .null, .null, .null, .null, .null, .null, .null, .null, .null] .null := Arv.set Ar20 q20 sz20 nn20 H20 G20 rfl W20 5 rfl (Nat.le_of_ble_eq_true rfl)
  have N20 := Fr.snoc X20 N17 g_b2
  have K20 : Keep h0 h20 [] := K17.wr W20 (Or.inr sz_b2)
  obtain ⟨T22, X22, e22, st22⟩ := getS2 X20 hx hZ hown (host := "") (Or.inl (hw _ (List.mem_of_getElem? (i := 16) rfl))) Via.refl e20 (own_stk S_FX_GAIN_SETTLEMENT K20) (g := (mkF m 44 #[.val (.int p1), .unset, .unset, .unset] [(.int (6 : Int32)), (.ref b2), (.ref b2)])) rfl (hb hby at_44)
  obtain ⟨cl23, Ar23, q23, sz23, nn23, H23, G23⟩ := V20
  obtain ⟨T23, h23, X23, e23, W23, st23⟩ := stR X22 hx hZ e22 Ar23 (j := (6 : Int32)) (inb_of sz23 (by decide)) rfl (Sto.ofV Ar23 q23 O2 (Ins.self (E_w21.keep K20))) (g := (mkF m 47 #[.val (.int p1), .unset, .unset, .unset] [(.ref w21), (.int (6 : Int32)), (.ref b2), (.ref b2)])) rfl rfl (hb hby at_47)
  have V23 : Arv Z h23 b2 k2 (.object "com/example/arvestus/arvestus/values/AccountRole") (20 : Int32) [.ref w3, .ref w6, .ref w9, .ref w12, .ref w15, .ref w18, .ref w21, .null, .null, .null, .null, .null, .null, .null, .null, .null, .null, .null, .null, .null] .null := Arv.set Ar23 q23 sz23 nn23 H23 G23 rfl W23 6 rfl (Nat.le_of_ble_eq_true rfl)
  have N23 := Fr.snoc X23 N20 g_b2
  have K23 : Keep h0 h23 [] := K20.wr W23 (Or.inr sz_b2)
  obtain ⟨T25, X25, e25, st25⟩ := getS2 X23 hx hZ hown (host := "") (Or.inl (hw _ (List.mem_of_getElem? (i := 18) rfl))) Via.refl e23 (own_stk S_FX_LOSS_SETTLEMENT K23) (g := (mkF m 51 #[.val (.int p1), .unset, .unset, .unset] [(.int (7 : Int32)), (.ref b2), (.ref b2)])) rfl (hb hby at_51)
  obtain ⟨cl26, Ar26, q26, sz26, nn26, H26, G26⟩ := V23
  obtain ⟨T26, h26, X26, e26, W26, st26⟩ := stR X25 hx hZ e25 Ar26 (j := (7 : Int32)) (inb_of sz26 (by decide)) rfl (Sto.ofV Ar26 q26 O2 (Ins.self (E_w24.keep K23))) (g := (mkF m 54 #[.val (.int p1), .unset, .unset, .unset] [(.ref w24), (.int (7 : Int32)), (.ref b2), (.ref b2)])) rfl rfl (hb hby at_54)
  have V26 : Arv Z h26 b2 k2 (.object "com/example/arvestus/arvestus/values/AccountRole") (20 : Int32) [.ref w3, .ref w6, .ref w9, .ref w12, .ref w15, .ref w18, .ref w21, .ref w24, .null, .null, .null, .null, .null, .null, .null, .null, .null, .null, .null, .null] .null := Arv.set Ar26 q26 sz26 nn26 H26 G26 rfl W26 7 rfl (Nat.le_of_ble_eq_true rfl)
  have N26 := Fr.snoc X26 N23 g_b2
  have K26 : Keep h0 h26 [] := K23.wr W26 (Or.inr sz_b2)
  obtain ⟨T28, X28, e28, st28⟩ := getS2 X26 hx hZ hown (host := "") (Or.inl (hw _ (List.mem_of_getElem? (i := 20) rfl))) Via.refl e26 (own_stk S_FX_UNREALISED_GAIN K26) (g := (mkF m 58 #[.val (.int p1), .unset, .unset, .unset] [(.int (8 : Int32)), (.ref b2), (.ref b2)])) rfl (hb hby at_58)
  obtain ⟨cl29, Ar29, q29, sz29, nn29, H29, G29⟩ := V26
  obtain ⟨T29, h29, X29, e29, W29, st29⟩ := stR X28 hx hZ e28 Ar29 (j := (8 : Int32)) (inb_of sz29 (by decide)) rfl (Sto.ofV Ar29 q29 O2 (Ins.self (E_w27.keep K26))) (g := (mkF m 61 #[.val (.int p1), .unset, .unset, .unset] [(.ref w27), (.int (8 : Int32)), (.ref b2), (.ref b2)])) rfl rfl (hb hby at_61)
  have V29 : Arv Z h29 b2 k2 (.object "com/example/arvestus/arvestus/values/AccountRole") (20 : Int32) [.ref w3, .ref w6, .ref w9, .ref w12, .ref w15, .ref w18, .ref w21, .ref w24, .ref w27, .null, .null, .null, .null, .null, .null, .null, .null, .null, .null, .null] .null := Arv.set Ar29 q29 sz29 nn29 H29 G29 rfl W29 8 rfl (Nat.le_of_ble_eq_true rfl)
  have N29 := Fr.snoc X29 N26 g_b2
  have K29 : Keep h0 h29 [] := K26.wr W29 (Or.inr sz_b2)
  obtain ⟨T31, X31, e31, st31⟩ := getS2 X29 hx hZ hown (host := "") (Or.inl (hw _ (List.mem_of_getElem? (i := 22) rfl))) Via.refl e29 (own_stk S_FX_UNREALISED_LOSS K29) (g := (mkF m 65 #[.val (.int p1), .unset, .unset, .unset] [(.int (9 : Int32)), (.ref b2), (.ref b2)])) rfl (hb hby at_65)
  obtain ⟨cl32, Ar32, q32, sz32, nn32, H32, G32⟩ := V29
  obtain ⟨T32, h32, X32, e32, W32, st32⟩ := stR X31 hx hZ e31 Ar32 (j := (9 : Int32)) (inb_of sz32 (by decide)) rfl (Sto.ofV Ar32 q32 O2 (Ins.self (E_w30.keep K29))) (g := (mkF m 68 #[.val (.int p1), .unset, .unset, .unset] [(.ref w30), (.int (9 : Int32)), (.ref b2), (.ref b2)])) rfl rfl (hb hby at_68)
  have V32 : Arv Z h32 b2 k2 (.object "com/example/arvestus/arvestus/values/AccountRole") (20 : Int32) [.ref w3, .ref w6, .ref w9, .ref w12, .ref w15, .ref w18, .ref w21, .ref w24, .ref w27, .ref w30, .null, .null, .null, .null, .null, .null, .null, .null, .null, .null] .null := Arv.set Ar32 q32 sz32 nn32 H32 G32 rfl W32 9 rfl (Nat.le_of_ble_eq_true rfl)
  have N32 := Fr.snoc X32 N29 g_b2
  have K32 : Keep h0 h32 [] := K29.wr W32 (Or.inr sz_b2)
  obtain ⟨T34, X34, e34, st34⟩ := getS2 X32 hx hZ hown (host := "") (Or.inl (hw _ (List.mem_of_getElem? (i := 24) rfl))) Via.refl e32 (own_stk S_FX_GAIN_REVALUATION K32) (g := (mkF m 72 #[.val (.int p1), .unset, .unset, .unset] [(.int (10 : Int32)), (.ref b2), (.ref b2)])) rfl (hb hby at_72)
  obtain ⟨cl35, Ar35, q35, sz35, nn35, H35, G35⟩ := V32
  obtain ⟨T35, h35, X35, e35, W35, st35⟩ := stR X34 hx hZ e34 Ar35 (j := (10 : Int32)) (inb_of sz35 (by decide)) rfl (Sto.ofV Ar35 q35 O2 (Ins.self (E_w33.keep K32))) (g := (mkF m 75 #[.val (.int p1), .unset, .unset, .unset] [(.ref w33), (.int (10 : Int32)), (.ref b2), (.ref b2)])) rfl rfl (hb hby at_75)
  have V35 : Arv Z h35 b2 k2 (.object "com/example/arvestus/arvestus/values/AccountRole") (20 : Int32) [.ref w3, .ref w6, .ref w9, .ref w12, .ref w15, .ref w18, .ref w21, .ref w24, .ref w27, .ref w30, .ref w33, .null, .null, .null, .null, .null, .null, .null, .null, .null] .null := Arv.set Ar35 q35 sz35 nn35 H35 G35 rfl W35 10 rfl (Nat.le_of_ble_eq_true rfl)
  have N35 := Fr.snoc X35 N32 g_b2
  have K35 : Keep h0 h35 [] := K32.wr W35 (Or.inr sz_b2)
  obtain ⟨T37, X37, e37, st37⟩ := getS2 X35 hx hZ hown (host := "") (Or.inl (hw _ (List.mem_of_getElem? (i := 26) rfl))) Via.refl e35 (own_stk S_FX_LOSS_REVALUATION K35) (g := (mkF m 79 #[.val (.int p1), .unset, .unset, .unset] [(.int (11 : Int32)), (.ref b2), (.ref b2)])) rfl (hb hby at_79)
  obtain ⟨cl38, Ar38, q38, sz38, nn38, H38, G38⟩ := V35
  obtain ⟨T38, h38, X38, e38, W38, st38⟩ := stR X37 hx hZ e37 Ar38 (j := (11 : Int32)) (inb_of sz38 (by decide)) rfl (Sto.ofV Ar38 q38 O2 (Ins.self (E_w36.keep K35))) (g := (mkF m 82 #[.val (.int p1), .unset, .unset, .unset] [(.ref w36), (.int (11 : Int32)), (.ref b2), (.ref b2)])) rfl rfl (hb hby at_82)
  have V38 : Arv Z h38 b2 k2 (.object "com/example/arvestus/arvestus/values/AccountRole") (20 : Int32) [.ref w3, .ref w6, .ref w9, .ref w12, .ref w15, .ref w18, .ref w21, .ref w24, .ref w27, .ref w30, .ref w33, .ref w36, .null, .null, .null, .null, .null, .null, .null, .null] .null := Arv.set Ar38 q38 sz38 nn38 H38 G38 rfl W38 11 rfl (Nat.le_of_ble_eq_true rfl)
  have N38 := Fr.snoc X38 N35 g_b2
  have K38 : Keep h0 h38 [] := K35.wr W38 (Or.inr sz_b2)
  obtain ⟨T40, X40, e40, st40⟩ := getS2 X38 hx hZ hown (host := "") (Or.inl (hw _ (List.mem_of_getElem? (i := 28) rfl))) Via.refl e38 (own_stk S_ROUNDING_INCOME K38) (g := (mkF m 86 #[.val (.int p1), .unset, .unset, .unset] [(.int (12 : Int32)), (.ref b2), (.ref b2)])) rfl (hb hby at_86)
  obtain ⟨cl41, Ar41, q41, sz41, nn41, H41, G41⟩ := V38
  obtain ⟨T41, h41, X41, e41, W41, st41⟩ := stR X40 hx hZ e40 Ar41 (j := (12 : Int32)) (inb_of sz41 (by decide)) rfl (Sto.ofV Ar41 q41 O2 (Ins.self (E_w39.keep K38))) (g := (mkF m 89 #[.val (.int p1), .unset, .unset, .unset] [(.ref w39), (.int (12 : Int32)), (.ref b2), (.ref b2)])) rfl rfl (hb hby at_89)
  have V41 : Arv Z h41 b2 k2 (.object "com/example/arvestus/arvestus/values/AccountRole") (20 : Int32) [.ref w3, .ref w6, .ref w9, .ref w12, .ref w15, .ref w18, .ref w21, .ref w24, .ref w27, .ref w30, .ref w33, .ref w36, .ref w39, .null, .null, .null, .null, .null, .null, .null] .null := Arv.set Ar41 q41 sz41 nn41 H41 G41 rfl W41 12 rfl (Nat.le_of_ble_eq_true rfl)
  have N41 := Fr.snoc X41 N38 g_b2
  have K41 : Keep h0 h41 [] := K38.wr W41 (Or.inr sz_b2)
  obtain ⟨T43, X43, e43, st43⟩ := getS2 X41 hx hZ hown (host := "") (Or.inl (hw _ (List.mem_of_getElem? (i := 30) rfl))) Via.refl e41 (own_stk S_ROUNDING_COST K41) (g := (mkF m 93 #[.val (.int p1), .unset, .unset, .unset] [(.int (13 : Int32)), (.ref b2), (.ref b2)])) rfl (hb hby at_93)
  obtain ⟨cl44, Ar44, q44, sz44, nn44, H44, G44⟩ := V41
  obtain ⟨T44, h44, X44, e44, W44, st44⟩ := stR X43 hx hZ e43 Ar44 (j := (13 : Int32)) (inb_of sz44 (by decide)) rfl (Sto.ofV Ar44 q44 O2 (Ins.self (E_w42.keep K41))) (g := (mkF m 96 #[.val (.int p1), .unset, .unset, .unset] [(.ref w42), (.int (13 : Int32)), (.ref b2), (.ref b2)])) rfl rfl (hb hby at_96)
  have V44 : Arv Z h44 b2 k2 (.object "com/example/arvestus/arvestus/values/AccountRole") (20 : Int32) [.ref w3, .ref w6, .ref w9, .ref w12, .ref w15, .ref w18, .ref w21, .ref w24, .ref w27, .ref w30, .ref w33, .ref w36, .ref w39, .ref w42, .null, .null, .null, .null, .null, .null] .null := Arv.set Ar44 q44 sz44 nn44 H44 G44 rfl W44 13 rfl (Nat.le_of_ble_eq_true rfl)
  have N44 := Fr.snoc X44 N41 g_b2
  have K44 : Keep h0 h44 [] := K41.wr W44 (Or.inr sz_b2)
  obtain ⟨T46, X46, e46, st46⟩ := getS2 X44 hx hZ hown (host := "") (Or.inl (hw _ (List.mem_of_getElem? (i := 32) rfl))) Via.refl e44 (own_stk S_REVALUATION_CLEARING K44) (g := (mkF m 100 #[.val (.int p1), .unset, .unset, .unset] [(.int (14 : Int32)), (.ref b2), (.ref b2)])) rfl (hb hby at_100)
  obtain ⟨cl47, Ar47, q47, sz47, nn47, H47, G47⟩ := V44
  obtain ⟨T47, h47, X47, e47, W47, st47⟩ := stR X46 hx hZ e46 Ar47 (j := (14 : Int32)) (inb_of sz47 (by decide)) rfl (Sto.ofV Ar47 q47 O2 (Ins.self (E_w45.keep K44))) (g := (mkF m 103 #[.val (.int p1), .unset, .unset, .unset] [(.ref w45), (.int (14 : Int32)), (.ref b2), (.ref b2)])) rfl rfl (hb hby at_103)
  have V47 : Arv Z h47 b2 k2 (.object "com/example/arvestus/arvestus/values/AccountRole") (20 : Int32) [.ref w3, .ref w6, .ref w9, .ref w12, .ref w15, .ref w18, .ref w21, .ref w24, .ref w27, .ref w30, .ref w33, .ref w36, .ref w39, .ref w42, .ref w45, .null, .null, .null, .null, .null] .null := Arv.set Ar47 q47 sz47 nn47 H47 G47 rfl W47 14 rfl (Nat.le_of_ble_eq_true rfl)
  have N47 := Fr.snoc X47 N44 g_b2
  have K47 : Keep h0 h47 [] := K44.wr W47 (Or.inr sz_b2)
  obtain ⟨T49, X49, e49, st49⟩ := getS2 X47 hx hZ hown (host := "") (Or.inl (hw _ (List.mem_of_getElem? (i := 34) rfl))) Via.refl e47 (own_stk S_VAT_OUTPUT K47) (g := (mkF m 107 #[.val (.int p1), .unset, .unset, .unset] [(.int (15 : Int32)), (.ref b2), (.ref b2)])) rfl (hb hby at_107)
  obtain ⟨cl50, Ar50, q50, sz50, nn50, H50, G50⟩ := V47
  obtain ⟨T50, h50, X50, e50, W50, st50⟩ := stR X49 hx hZ e49 Ar50 (j := (15 : Int32)) (inb_of sz50 (by decide)) rfl (Sto.ofV Ar50 q50 O2 (Ins.self (E_w48.keep K47))) (g := (mkF m 110 #[.val (.int p1), .unset, .unset, .unset] [(.ref w48), (.int (15 : Int32)), (.ref b2), (.ref b2)])) rfl rfl (hb hby at_110)
  have V50 : Arv Z h50 b2 k2 (.object "com/example/arvestus/arvestus/values/AccountRole") (20 : Int32) [.ref w3, .ref w6, .ref w9, .ref w12, .ref w15, .ref w18, .ref w21, .ref w24, .ref w27, .ref w30, .ref w33, .ref w36, .ref w39, .ref w42, .ref w45, .ref w48, .null, .null, .null, .null] .null := Arv.set Ar50 q50 sz50 nn50 H50 G50 rfl W50 15 rfl (Nat.le_of_ble_eq_true rfl)
  have N50 := Fr.snoc X50 N47 g_b2
  have K50 : Keep h0 h50 [] := K47.wr W50 (Or.inr sz_b2)
  obtain ⟨T52, X52, e52, st52⟩ := getS2 X50 hx hZ hown (host := "") (Or.inl (hw _ (List.mem_of_getElem? (i := 36) rfl))) Via.refl e50 (own_stk S_VAT_INPUT K50) (g := (mkF m 114 #[.val (.int p1), .unset, .unset, .unset] [(.int (16 : Int32)), (.ref b2), (.ref b2)])) rfl (hb hby at_114)
  obtain ⟨cl53, Ar53, q53, sz53, nn53, H53, G53⟩ := V50
  obtain ⟨T53, h53, X53, e53, W53, st53⟩ := stR X52 hx hZ e52 Ar53 (j := (16 : Int32)) (inb_of sz53 (by decide)) rfl (Sto.ofV Ar53 q53 O2 (Ins.self (E_w51.keep K50))) (g := (mkF m 117 #[.val (.int p1), .unset, .unset, .unset] [(.ref w51), (.int (16 : Int32)), (.ref b2), (.ref b2)])) rfl rfl (hb hby at_117)
  have V53 : Arv Z h53 b2 k2 (.object "com/example/arvestus/arvestus/values/AccountRole") (20 : Int32) [.ref w3, .ref w6, .ref w9, .ref w12, .ref w15, .ref w18, .ref w21, .ref w24, .ref w27, .ref w30, .ref w33, .ref w36, .ref w39, .ref w42, .ref w45, .ref w48, .ref w51, .null, .null, .null] .null := Arv.set Ar53 q53 sz53 nn53 H53 G53 rfl W53 16 rfl (Nat.le_of_ble_eq_true rfl)
  have N53 := Fr.snoc X53 N50 g_b2
  have K53 : Keep h0 h53 [] := K50.wr W53 (Or.inr sz_b2)
  obtain ⟨T55, X55, e55, st55⟩ := getS2 X53 hx hZ hown (host := "") (Or.inl (hw _ (List.mem_of_getElem? (i := 38) rfl))) Via.refl e53 (own_stk S_VAT_OUTPUT_PREPAYMENTS K53) (g := (mkF m 121 #[.val (.int p1), .unset, .unset, .unset] [(.int (17 : Int32)), (.ref b2), (.ref b2)])) rfl (hb hby at_121)
  obtain ⟨cl56, Ar56, q56, sz56, nn56, H56, G56⟩ := V53
  obtain ⟨T56, h56, X56, e56, W56, st56⟩ := stR X55 hx hZ e55 Ar56 (j := (17 : Int32)) (inb_of sz56 (by decide)) rfl (Sto.ofV Ar56 q56 O2 (Ins.self (E_w54.keep K53))) (g := (mkF m 124 #[.val (.int p1), .unset, .unset, .unset] [(.ref w54), (.int (17 : Int32)), (.ref b2), (.ref b2)])) rfl rfl (hb hby at_124)
  have V56 : Arv Z h56 b2 k2 (.object "com/example/arvestus/arvestus/values/AccountRole") (20 : Int32) [.ref w3, .ref w6, .ref w9, .ref w12, .ref w15, .ref w18, .ref w21, .ref w24, .ref w27, .ref w30, .ref w33, .ref w36, .ref w39, .ref w42, .ref w45, .ref w48, .ref w51, .ref w54, .null, .null] .null := Arv.set Ar56 q56 sz56 nn56 H56 G56 rfl W56 17 rfl (Nat.le_of_ble_eq_true rfl)
  have N56 := Fr.snoc X56 N53 g_b2
  have K56 : Keep h0 h56 [] := K53.wr W56 (Or.inr sz_b2)
  obtain ⟨T58, X58, e58, st58⟩ := getS2 X56 hx hZ hown (host := "") (Or.inl (hw _ (List.mem_of_getElem? (i := 40) rfl))) Via.refl e56 (own_stk S_VAT_INPUT_PREPAYMENTS K56) (g := (mkF m 128 #[.val (.int p1), .unset, .unset, .unset] [(.int (18 : Int32)), (.ref b2), (.ref b2)])) rfl (hb hby at_128)
  obtain ⟨cl59, Ar59, q59, sz59, nn59, H59, G59⟩ := V56
  obtain ⟨T59, h59, X59, e59, W59, st59⟩ := stR X58 hx hZ e58 Ar59 (j := (18 : Int32)) (inb_of sz59 (by decide)) rfl (Sto.ofV Ar59 q59 O2 (Ins.self (E_w57.keep K56))) (g := (mkF m 131 #[.val (.int p1), .unset, .unset, .unset] [(.ref w57), (.int (18 : Int32)), (.ref b2), (.ref b2)])) rfl rfl (hb hby at_131)
  have V59 : Arv Z h59 b2 k2 (.object "com/example/arvestus/arvestus/values/AccountRole") (20 : Int32) [.ref w3, .ref w6, .ref w9, .ref w12, .ref w15, .ref w18, .ref w21, .ref w24, .ref w27, .ref w30, .ref w33, .ref w36, .ref w39, .ref w42, .ref w45, .ref w48, .ref w51, .ref w54, .ref w57, .null] .null := Arv.set Ar59 q59 sz59 nn59 H59 G59 rfl W59 18 rfl (Nat.le_of_ble_eq_true rfl)
  have N59 := Fr.snoc X59 N56 g_b2
  have K59 : Keep h0 h59 [] := K56.wr W59 (Or.inr sz_b2)
  obtain ⟨T61, X61, e61, st61⟩ := getS2 X59 hx hZ hown (host := "") (Or.inl (hw _ (List.mem_of_getElem? (i := 42) rfl))) Via.refl e59 (own_stk S_AVERAGE_RATE_POOL K59) (g := (mkF m 135 #[.val (.int p1), .unset, .unset, .unset] [(.int (19 : Int32)), (.ref b2), (.ref b2)])) rfl (hb hby at_135)
  obtain ⟨cl62, Ar62, q62, sz62, nn62, H62, G62⟩ := V59
  obtain ⟨T62, h62, X62, e62, W62, st62⟩ := stR X61 hx hZ e61 Ar62 (j := (19 : Int32)) (inb_of sz62 (by decide)) rfl (Sto.ofV Ar62 q62 O2 (Ins.self (E_w60.keep K59))) (g := (mkF m 138 #[.val (.int p1), .unset, .unset, .unset] [(.ref w60), (.int (19 : Int32)), (.ref b2), (.ref b2)])) rfl rfl (hb hby at_138)
  have V62 : Arv Z h62 b2 k2 (.object "com/example/arvestus/arvestus/values/AccountRole") (20 : Int32) [.ref w3, .ref w6, .ref w9, .ref w12, .ref w15, .ref w18, .ref w21, .ref w24, .ref w27, .ref w30, .ref w33, .ref w36, .ref w39, .ref w42, .ref w45, .ref w48, .ref w51, .ref w54, .ref w57, .ref w60] .null := Arv.set Ar62 q62 sz62 nn62 H62 G62 rfl W62 19 rfl (Nat.le_of_ble_eq_true rfl)
  have N62 := Fr.snoc X62 N59 g_b2
  have K62 : Keep h0 h62 [] := K59.wr W62 (Or.inr sz_b2)
  obtain ⟨clA, Ar_b2, qA, szA, nnA, HA, GA⟩ := V62
  have hin162 := inb_of szA hj
  have hat162 := HA.at hin162 hu
  obtain ⟨cq64, kq64, q64a, q64b, q64c⟩ := isOf hZ e62 (E_w63.keep K62)
  obtain ⟨_, _, ⟨T64, L64, k64, n64⟩, -, X64, ⟨Lc64, hQ64, l64, y64, z64⟩, st64⟩ := X62.virtualBack hx (y := (⟨"com/example/arvestus/arvestus/values/AccountRole", "isUnique", "()Z"⟩ : MethodName)) (z := (⟨"com/example/arvestus/arvestus/values/AccountRole", "isUnique", "()Z"⟩ : MethodName)) hown (mvT hZ (hw _ (List.mem_of_getElem? (i := 45) rfl))) (mvT hZ (hw _ (List.mem_of_getElem? (i := 46) rfl))) (notFace_of_selects (args := #[]) (mvT hZ (hw _ (List.mem_of_getElem? (i := 48) rfl)))) (mvT hZ (hw _ (List.mem_of_getElem? (i := 48) rfl))) (mvT hZ (hw _ (List.mem_of_getElem? (i := 47) rfl))) (by decide) (backOf (W := 0) (rm1_f l Z a0 hw [] w63 w60 h62 n0 (Nat.le_trans Z0 K62.1) (own_stk S_AVERAGE_RATE_POOL K62) hsel) hZ (hw _ (List.mem_of_getElem? (i := 49) rfl)) (hw _ (List.mem_of_getElem? (i := 3) rfl)) (by decide) (by decide)) q64a q64c (g := (mkF m 163 #[.val (.int p1), .val (.ref b2), .val (.int ((p1 &&& (2147483647 : Int32)) % (20 : Int32))), .val (.int (1 : Int32))] [(.ref w63)])) rfl (by rw [hml]; rfl) (Steps.refl _) (argsL := []) (rest := []) (lenOf pd_0_0_a rfl) rfl (by show 2 * 0 + _ ≤ _; exact Nat.le_of_eq rfl) (hb hby at_163) (fun _ _ => ⟨rfl, e62, (by decide : 1 + 0 ≤ _), (by decide : 20 + 0 ≤ _)⟩)
  dsimp only [Pt.U, Pt.locs, Pt.cells, Pt.slots] at X64 l64 y64 z64 st64 hQ64
  subst l64 y64 z64
  obtain ⟨rfl, N64q, hhx⟩ := hQ64
  have N64 := Fr.app N62 N64q
  obtain ⟨fs, hr, hrun, hended, hW, hsame⟩ := X64.leave (v := some (.int (1 : Int32))) (fun h => by rw [Bd.returns] at h; cases h)
  refine ⟨_, _, pre0 _ ?_, hrun, hended, _, _, rfl, ?_, ⟨_, rfl⟩, hW, hsame.mono (by decide) (by decide)⟩
  · show Steps p.tables e below (s₁.setTop (mkF m 0 #[.val (.int p1), .unset, .unset, .unset] [])) _
    refine XS.bipush X0.here hx rfl (hb hby at_0) ?_
    show Steps p.tables e below (s₁.setTop (mkF m 2 #[.val (.int p1), .unset, .unset, .unset] [(.int (20 : Int32))])) _
    refine st2 _ ?_
    show Steps p.tables e below (T2.setTop (mkF m 5 #[.val (.int p1), .unset, .unset, .unset] [(.ref b2)])) _
    refine XS.dup X2.here hx rfl (hb hby at_5) rfl rfl ?_
    show Steps p.tables e below (T2.setTop (mkF m 6 #[.val (.int p1), .unset, .unset, .unset] [(.ref b2), (.ref b2)])) _
    refine XS.iconst X2.here hx rfl (hb hby at_6) ?_
    show Steps p.tables e below (T2.setTop (mkF m 7 #[.val (.int p1), .unset, .unset, .unset] [(.int (0 : Int32)), (.ref b2), (.ref b2)])) _
    refine st4 _ ?_
    show Steps p.tables e below (T4.setTop (mkF m 10 #[.val (.int p1), .unset, .unset, .unset] [(.ref w3), (.int (0 : Int32)), (.ref b2), (.ref b2)])) _
    refine st5 _ ?_
    show Steps p.tables e below (T5.setTop (mkF m 11 #[.val (.int p1), .unset, .unset, .unset] [(.ref b2)])) _
    refine XS.dup X5.here hx rfl (hb hby at_11) rfl rfl ?_
    show Steps p.tables e below (T5.setTop (mkF m 12 #[.val (.int p1), .unset, .unset, .unset] [(.ref b2), (.ref b2)])) _
    refine XS.iconst X5.here hx rfl (hb hby at_12) ?_
    show Steps p.tables e below (T5.setTop (mkF m 13 #[.val (.int p1), .unset, .unset, .unset] [(.int (1 : Int32)), (.ref b2), (.ref b2)])) _
    refine st7 _ ?_
    show Steps p.tables e below (T7.setTop (mkF m 16 #[.val (.int p1), .unset, .unset, .unset] [(.ref w6), (.int (1 : Int32)), (.ref b2), (.ref b2)])) _
    refine st8 _ ?_
    show Steps p.tables e below (T8.setTop (mkF m 17 #[.val (.int p1), .unset, .unset, .unset] [(.ref b2)])) _
    refine XS.dup X8.here hx rfl (hb hby at_17) rfl rfl ?_
    show Steps p.tables e below (T8.setTop (mkF m 18 #[.val (.int p1), .unset, .unset, .unset] [(.ref b2), (.ref b2)])) _
    refine XS.iconst X8.here hx rfl (hb hby at_18) ?_
    show Steps p.tables e below (T8.setTop (mkF m 19 #[.val (.int p1), .unset, .unset, .unset] [(.int (2 : Int32)), (.ref b2), (.ref b2)])) _
    refine st10 _ ?_
    show Steps p.tables e below (T10.setTop (mkF m 22 #[.val (.int p1), .unset, .unset, .unset] [(.ref w9), (.int (2 : Int32)), (.ref b2), (.ref b2)])) _
    refine st11 _ ?_
    show Steps p.tables e below (T11.setTop (mkF m 23 #[.val (.int p1), .unset, .unset, .unset] [(.ref b2)])) _
    refine XS.dup X11.here hx rfl (hb hby at_23) rfl rfl ?_
    show Steps p.tables e below (T11.setTop (mkF m 24 #[.val (.int p1), .unset, .unset, .unset] [(.ref b2), (.ref b2)])) _
    refine XS.iconst X11.here hx rfl (hb hby at_24) ?_
    show Steps p.tables e below (T11.setTop (mkF m 25 #[.val (.int p1), .unset, .unset, .unset] [(.int (3 : Int32)), (.ref b2), (.ref b2)])) _
    refine st13 _ ?_
    show Steps p.tables e below (T13.setTop (mkF m 28 #[.val (.int p1), .unset, .unset, .unset] [(.ref w12), (.int (3 : Int32)), (.ref b2), (.ref b2)])) _
    refine st14 _ ?_
    show Steps p.tables e below (T14.setTop (mkF m 29 #[.val (.int p1), .unset, .unset, .unset] [(.ref b2)])) _
    refine XS.dup X14.here hx rfl (hb hby at_29) rfl rfl ?_
    show Steps p.tables e below (T14.setTop (mkF m 30 #[.val (.int p1), .unset, .unset, .unset] [(.ref b2), (.ref b2)])) _
    refine XS.iconst X14.here hx rfl (hb hby at_30) ?_
    show Steps p.tables e below (T14.setTop (mkF m 31 #[.val (.int p1), .unset, .unset, .unset] [(.int (4 : Int32)), (.ref b2), (.ref b2)])) _
    refine st16 _ ?_
    show Steps p.tables e below (T16.setTop (mkF m 34 #[.val (.int p1), .unset, .unset, .unset] [(.ref w15), (.int (4 : Int32)), (.ref b2), (.ref b2)])) _
    refine st17 _ ?_
    show Steps p.tables e below (T17.setTop (mkF m 35 #[.val (.int p1), .unset, .unset, .unset] [(.ref b2)])) _
    refine XS.dup X17.here hx rfl (hb hby at_35) rfl rfl ?_
    show Steps p.tables e below (T17.setTop (mkF m 36 #[.val (.int p1), .unset, .unset, .unset] [(.ref b2), (.ref b2)])) _
    refine XS.iconst X17.here hx rfl (hb hby at_36) ?_
    show Steps p.tables e below (T17.setTop (mkF m 37 #[.val (.int p1), .unset, .unset, .unset] [(.int (5 : Int32)), (.ref b2), (.ref b2)])) _
    refine st19 _ ?_
    show Steps p.tables e below (T19.setTop (mkF m 40 #[.val (.int p1), .unset, .unset, .unset] [(.ref w18), (.int (5 : Int32)), (.ref b2), (.ref b2)])) _
    refine st20 _ ?_
    show Steps p.tables e below (T20.setTop (mkF m 41 #[.val (.int p1), .unset, .unset, .unset] [(.ref b2)])) _
    refine XS.dup X20.here hx rfl (hb hby at_41) rfl rfl ?_
    show Steps p.tables e below (T20.setTop (mkF m 42 #[.val (.int p1), .unset, .unset, .unset] [(.ref b2), (.ref b2)])) _
    refine XS.bipush X20.here hx rfl (hb hby at_42) ?_
    show Steps p.tables e below (T20.setTop (mkF m 44 #[.val (.int p1), .unset, .unset, .unset] [(.int (6 : Int32)), (.ref b2), (.ref b2)])) _
    refine st22 _ ?_
    show Steps p.tables e below (T22.setTop (mkF m 47 #[.val (.int p1), .unset, .unset, .unset] [(.ref w21), (.int (6 : Int32)), (.ref b2), (.ref b2)])) _
    refine st23 _ ?_
    show Steps p.tables e below (T23.setTop (mkF m 48 #[.val (.int p1), .unset, .unset, .unset] [(.ref b2)])) _
    refine XS.dup X23.here hx rfl (hb hby at_48) rfl rfl ?_
    show Steps p.tables e below (T23.setTop (mkF m 49 #[.val (.int p1), .unset, .unset, .unset] [(.ref b2), (.ref b2)])) _
    refine XS.bipush X23.here hx rfl (hb hby at_49) ?_
    show Steps p.tables e below (T23.setTop (mkF m 51 #[.val (.int p1), .unset, .unset, .unset] [(.int (7 : Int32)), (.ref b2), (.ref b2)])) _
    refine st25 _ ?_
    show Steps p.tables e below (T25.setTop (mkF m 54 #[.val (.int p1), .unset, .unset, .unset] [(.ref w24), (.int (7 : Int32)), (.ref b2), (.ref b2)])) _
    refine st26 _ ?_
    show Steps p.tables e below (T26.setTop (mkF m 55 #[.val (.int p1), .unset, .unset, .unset] [(.ref b2)])) _
    refine XS.dup X26.here hx rfl (hb hby at_55) rfl rfl ?_
    show Steps p.tables e below (T26.setTop (mkF m 56 #[.val (.int p1), .unset, .unset, .unset] [(.ref b2), (.ref b2)])) _
    refine XS.bipush X26.here hx rfl (hb hby at_56) ?_
    show Steps p.tables e below (T26.setTop (mkF m 58 #[.val (.int p1), .unset, .unset, .unset] [(.int (8 : Int32)), (.ref b2), (.ref b2)])) _
    refine st28 _ ?_
    show Steps p.tables e below (T28.setTop (mkF m 61 #[.val (.int p1), .unset, .unset, .unset] [(.ref w27), (.int (8 : Int32)), (.ref b2), (.ref b2)])) _
    refine st29 _ ?_
    show Steps p.tables e below (T29.setTop (mkF m 62 #[.val (.int p1), .unset, .unset, .unset] [(.ref b2)])) _
    refine XS.dup X29.here hx rfl (hb hby at_62) rfl rfl ?_
    show Steps p.tables e below (T29.setTop (mkF m 63 #[.val (.int p1), .unset, .unset, .unset] [(.ref b2), (.ref b2)])) _
    refine XS.bipush X29.here hx rfl (hb hby at_63) ?_
    show Steps p.tables e below (T29.setTop (mkF m 65 #[.val (.int p1), .unset, .unset, .unset] [(.int (9 : Int32)), (.ref b2), (.ref b2)])) _
    refine st31 _ ?_
    show Steps p.tables e below (T31.setTop (mkF m 68 #[.val (.int p1), .unset, .unset, .unset] [(.ref w30), (.int (9 : Int32)), (.ref b2), (.ref b2)])) _
    refine st32 _ ?_
    show Steps p.tables e below (T32.setTop (mkF m 69 #[.val (.int p1), .unset, .unset, .unset] [(.ref b2)])) _
    refine XS.dup X32.here hx rfl (hb hby at_69) rfl rfl ?_
    show Steps p.tables e below (T32.setTop (mkF m 70 #[.val (.int p1), .unset, .unset, .unset] [(.ref b2), (.ref b2)])) _
    refine XS.bipush X32.here hx rfl (hb hby at_70) ?_
    show Steps p.tables e below (T32.setTop (mkF m 72 #[.val (.int p1), .unset, .unset, .unset] [(.int (10 : Int32)), (.ref b2), (.ref b2)])) _
    refine st34 _ ?_
    show Steps p.tables e below (T34.setTop (mkF m 75 #[.val (.int p1), .unset, .unset, .unset] [(.ref w33), (.int (10 : Int32)), (.ref b2), (.ref b2)])) _
    refine st35 _ ?_
    show Steps p.tables e below (T35.setTop (mkF m 76 #[.val (.int p1), .unset, .unset, .unset] [(.ref b2)])) _
    refine XS.dup X35.here hx rfl (hb hby at_76) rfl rfl ?_
    show Steps p.tables e below (T35.setTop (mkF m 77 #[.val (.int p1), .unset, .unset, .unset] [(.ref b2), (.ref b2)])) _
    refine XS.bipush X35.here hx rfl (hb hby at_77) ?_
    show Steps p.tables e below (T35.setTop (mkF m 79 #[.val (.int p1), .unset, .unset, .unset] [(.int (11 : Int32)), (.ref b2), (.ref b2)])) _
    refine st37 _ ?_
    show Steps p.tables e below (T37.setTop (mkF m 82 #[.val (.int p1), .unset, .unset, .unset] [(.ref w36), (.int (11 : Int32)), (.ref b2), (.ref b2)])) _
    refine st38 _ ?_
    show Steps p.tables e below (T38.setTop (mkF m 83 #[.val (.int p1), .unset, .unset, .unset] [(.ref b2)])) _
    refine XS.dup X38.here hx rfl (hb hby at_83) rfl rfl ?_
    show Steps p.tables e below (T38.setTop (mkF m 84 #[.val (.int p1), .unset, .unset, .unset] [(.ref b2), (.ref b2)])) _
    refine XS.bipush X38.here hx rfl (hb hby at_84) ?_
    show Steps p.tables e below (T38.setTop (mkF m 86 #[.val (.int p1), .unset, .unset, .unset] [(.int (12 : Int32)), (.ref b2), (.ref b2)])) _
    refine st40 _ ?_
    show Steps p.tables e below (T40.setTop (mkF m 89 #[.val (.int p1), .unset, .unset, .unset] [(.ref w39), (.int (12 : Int32)), (.ref b2), (.ref b2)])) _
    refine st41 _ ?_
    show Steps p.tables e below (T41.setTop (mkF m 90 #[.val (.int p1), .unset, .unset, .unset] [(.ref b2)])) _
    refine XS.dup X41.here hx rfl (hb hby at_90) rfl rfl ?_
    show Steps p.tables e below (T41.setTop (mkF m 91 #[.val (.int p1), .unset, .unset, .unset] [(.ref b2), (.ref b2)])) _
    refine XS.bipush X41.here hx rfl (hb hby at_91) ?_
    show Steps p.tables e below (T41.setTop (mkF m 93 #[.val (.int p1), .unset, .unset, .unset] [(.int (13 : Int32)), (.ref b2), (.ref b2)])) _
    refine st43 _ ?_
    show Steps p.tables e below (T43.setTop (mkF m 96 #[.val (.int p1), .unset, .unset, .unset] [(.ref w42), (.int (13 : Int32)), (.ref b2), (.ref b2)])) _
    refine st44 _ ?_
    show Steps p.tables e below (T44.setTop (mkF m 97 #[.val (.int p1), .unset, .unset, .unset] [(.ref b2)])) _
    refine XS.dup X44.here hx rfl (hb hby at_97) rfl rfl ?_
    show Steps p.tables e below (T44.setTop (mkF m 98 #[.val (.int p1), .unset, .unset, .unset] [(.ref b2), (.ref b2)])) _
    refine XS.bipush X44.here hx rfl (hb hby at_98) ?_
    show Steps p.tables e below (T44.setTop (mkF m 100 #[.val (.int p1), .unset, .unset, .unset] [(.int (14 : Int32)), (.ref b2), (.ref b2)])) _
    refine st46 _ ?_
    show Steps p.tables e below (T46.setTop (mkF m 103 #[.val (.int p1), .unset, .unset, .unset] [(.ref w45), (.int (14 : Int32)), (.ref b2), (.ref b2)])) _
    refine st47 _ ?_
    show Steps p.tables e below (T47.setTop (mkF m 104 #[.val (.int p1), .unset, .unset, .unset] [(.ref b2)])) _
    refine XS.dup X47.here hx rfl (hb hby at_104) rfl rfl ?_
    show Steps p.tables e below (T47.setTop (mkF m 105 #[.val (.int p1), .unset, .unset, .unset] [(.ref b2), (.ref b2)])) _
    refine XS.bipush X47.here hx rfl (hb hby at_105) ?_
    show Steps p.tables e below (T47.setTop (mkF m 107 #[.val (.int p1), .unset, .unset, .unset] [(.int (15 : Int32)), (.ref b2), (.ref b2)])) _
    refine st49 _ ?_
    show Steps p.tables e below (T49.setTop (mkF m 110 #[.val (.int p1), .unset, .unset, .unset] [(.ref w48), (.int (15 : Int32)), (.ref b2), (.ref b2)])) _
    refine st50 _ ?_
    show Steps p.tables e below (T50.setTop (mkF m 111 #[.val (.int p1), .unset, .unset, .unset] [(.ref b2)])) _
    refine XS.dup X50.here hx rfl (hb hby at_111) rfl rfl ?_
    show Steps p.tables e below (T50.setTop (mkF m 112 #[.val (.int p1), .unset, .unset, .unset] [(.ref b2), (.ref b2)])) _
    refine XS.bipush X50.here hx rfl (hb hby at_112) ?_
    show Steps p.tables e below (T50.setTop (mkF m 114 #[.val (.int p1), .unset, .unset, .unset] [(.int (16 : Int32)), (.ref b2), (.ref b2)])) _
    refine st52 _ ?_
    show Steps p.tables e below (T52.setTop (mkF m 117 #[.val (.int p1), .unset, .unset, .unset] [(.ref w51), (.int (16 : Int32)), (.ref b2), (.ref b2)])) _
    refine st53 _ ?_
    show Steps p.tables e below (T53.setTop (mkF m 118 #[.val (.int p1), .unset, .unset, .unset] [(.ref b2)])) _
    refine XS.dup X53.here hx rfl (hb hby at_118) rfl rfl ?_
    show Steps p.tables e below (T53.setTop (mkF m 119 #[.val (.int p1), .unset, .unset, .unset] [(.ref b2), (.ref b2)])) _
    refine XS.bipush X53.here hx rfl (hb hby at_119) ?_
    show Steps p.tables e below (T53.setTop (mkF m 121 #[.val (.int p1), .unset, .unset, .unset] [(.int (17 : Int32)), (.ref b2), (.ref b2)])) _
    refine st55 _ ?_
    show Steps p.tables e below (T55.setTop (mkF m 124 #[.val (.int p1), .unset, .unset, .unset] [(.ref w54), (.int (17 : Int32)), (.ref b2), (.ref b2)])) _
    refine st56 _ ?_
    show Steps p.tables e below (T56.setTop (mkF m 125 #[.val (.int p1), .unset, .unset, .unset] [(.ref b2)])) _
    refine XS.dup X56.here hx rfl (hb hby at_125) rfl rfl ?_
    show Steps p.tables e below (T56.setTop (mkF m 126 #[.val (.int p1), .unset, .unset, .unset] [(.ref b2), (.ref b2)])) _
    refine XS.bipush X56.here hx rfl (hb hby at_126) ?_
    show Steps p.tables e below (T56.setTop (mkF m 128 #[.val (.int p1), .unset, .unset, .unset] [(.int (18 : Int32)), (.ref b2), (.ref b2)])) _
    refine st58 _ ?_
    show Steps p.tables e below (T58.setTop (mkF m 131 #[.val (.int p1), .unset, .unset, .unset] [(.ref w57), (.int (18 : Int32)), (.ref b2), (.ref b2)])) _
    refine st59 _ ?_
    show Steps p.tables e below (T59.setTop (mkF m 132 #[.val (.int p1), .unset, .unset, .unset] [(.ref b2)])) _
    refine XS.dup X59.here hx rfl (hb hby at_132) rfl rfl ?_
    show Steps p.tables e below (T59.setTop (mkF m 133 #[.val (.int p1), .unset, .unset, .unset] [(.ref b2), (.ref b2)])) _
    refine XS.bipush X59.here hx rfl (hb hby at_133) ?_
    show Steps p.tables e below (T59.setTop (mkF m 135 #[.val (.int p1), .unset, .unset, .unset] [(.int (19 : Int32)), (.ref b2), (.ref b2)])) _
    refine st61 _ ?_
    show Steps p.tables e below (T61.setTop (mkF m 138 #[.val (.int p1), .unset, .unset, .unset] [(.ref w60), (.int (19 : Int32)), (.ref b2), (.ref b2)])) _
    refine st62 _ ?_
    show Steps p.tables e below (T62.setTop (mkF m 139 #[.val (.int p1), .unset, .unset, .unset] [(.ref b2)])) _
    refine XS.astoreN X62.here hx rfl (hb hby at_139) rfl rfl (l' := #[.val (.int p1), .val (.ref b2), .unset, .unset]) rfl ?_
    show Steps p.tables e below (T62.setTop (mkF m 140 #[.val (.int p1), .val (.ref b2), .unset, .unset] [])) _
    refine XS.iloadN X62.here hx rfl (hb hby at_140) rfl ?_
    show Steps p.tables e below (T62.setTop (mkF m 141 #[.val (.int p1), .val (.ref b2), .unset, .unset] [(.int p1)])) _
    refine X62.ldcInt hx hown (mvT hZ (hw _ (List.mem_of_getElem? (i := 44) rfl))) (g := (mkF m 141 #[.val (.int p1), .val (.ref b2), .unset, .unset] [(.int p1)])) rfl (hb hby at_141) _ ?_
    show Steps p.tables e below (T62.setTop (mkF m 143 #[.val (.int p1), .val (.ref b2), .unset, .unset] [(.int (2147483647 : Int32)), (.int p1)])) _
    refine XS.iand X62.here hx rfl (hb hby at_143) rfl ?_
    show Steps p.tables e below (T62.setTop (mkF m 144 #[.val (.int p1), .val (.ref b2), .unset, .unset] [(.int (p1 &&& (2147483647 : Int32)))])) _
    refine XS.bipush X62.here hx rfl (hb hby at_144) ?_
    show Steps p.tables e below (T62.setTop (mkF m 146 #[.val (.int p1), .val (.ref b2), .unset, .unset] [(.int (20 : Int32)), (.int (p1 &&& (2147483647 : Int32)))])) _
    refine Jvm.RoadKit.iremM (g := (mkF m 146 #[.val (.int p1), .val (.ref b2), .unset, .unset] [(.int (20 : Int32)), (.int (p1 &&& (2147483647 : Int32)))])) X62 hx rfl (hb hby at_146) rfl (by decide) ?_
    show Steps p.tables e below (T62.setTop (mkF m 147 #[.val (.int p1), .val (.ref b2), .unset, .unset] [(.int ((p1 &&& (2147483647 : Int32)) % (20 : Int32)))])) _
    refine XS.istoreN X62.here hx rfl (hb hby at_147) rfl (l' := #[.val (.int p1), .val (.ref b2), .val (.int ((p1 &&& (2147483647 : Int32)) % (20 : Int32))), .unset]) rfl ?_
    show Steps p.tables e below (T62.setTop (mkF m 148 #[.val (.int p1), .val (.ref b2), .val (.int ((p1 &&& (2147483647 : Int32)) % (20 : Int32))), .unset] [])) _
    refine XS.iloadN X62.here hx rfl (hb hby at_148) rfl ?_
    show Steps p.tables e below (T62.setTop (mkF m 149 #[.val (.int p1), .val (.ref b2), .val (.int ((p1 &&& (2147483647 : Int32)) % (20 : Int32))), .unset] [(.int ((p1 &&& (2147483647 : Int32)) % (20 : Int32)))])) _
    refine XS.bipush X62.here hx rfl (hb hby at_149) ?_
    show Steps p.tables e below (T62.setTop (mkF m 151 #[.val (.int p1), .val (.ref b2), .val (.int ((p1 &&& (2147483647 : Int32)) % (20 : Int32))), .unset] [(.int (19 : Int32)), (.int ((p1 &&& (2147483647 : Int32)) % (20 : Int32)))])) _
    refine XS.icmpNo X62.here hx rfl (hb hby at_151) rfl (feq hc151).1 ?_
    show Steps p.tables e below (T62.setTop (mkF m 154 #[.val (.int p1), .val (.ref b2), .val (.int ((p1 &&& (2147483647 : Int32)) % (20 : Int32))), .unset] [])) _
    refine XS.iconst X62.here hx rfl (hb hby at_154) ?_
    show Steps p.tables e below (T62.setTop (mkF m 155 #[.val (.int p1), .val (.ref b2), .val (.int ((p1 &&& (2147483647 : Int32)) % (20 : Int32))), .unset] [(.int (1 : Int32))])) _
    refine XS.goto X62.here hx rfl (pc0 := 155) (pc' := 159) rfl (hb hby at_155) (by decide) (by decide) ?_
    show Steps p.tables e below (T62.setTop (mkF m 159 #[.val (.int p1), .val (.ref b2), .val (.int ((p1 &&& (2147483647 : Int32)) % (20 : Int32))), .unset] [(.int (1 : Int32))])) _
    refine XS.istoreN X62.here hx rfl (hb hby at_159) rfl (l' := #[.val (.int p1), .val (.ref b2), .val (.int ((p1 &&& (2147483647 : Int32)) % (20 : Int32))), .val (.int (1 : Int32))]) rfl ?_
    show Steps p.tables e below (T62.setTop (mkF m 160 #[.val (.int p1), .val (.ref b2), .val (.int ((p1 &&& (2147483647 : Int32)) % (20 : Int32))), .val (.int (1 : Int32))] [])) _
    refine XS.aloadN X62.here hx rfl (hb hby at_160) rfl rfl ?_
    show Steps p.tables e below (T62.setTop (mkF m 161 #[.val (.int p1), .val (.ref b2), .val (.int ((p1 &&& (2147483647 : Int32)) % (20 : Int32))), .val (.int (1 : Int32))] [(.ref b2)])) _
    refine XS.iloadN X62.here hx rfl (hb hby at_161) rfl ?_
    show Steps p.tables e below (T62.setTop (mkF m 162 #[.val (.int p1), .val (.ref b2), .val (.int ((p1 &&& (2147483647 : Int32)) % (20 : Int32))), .val (.int (1 : Int32))] [(.int ((p1 &&& (2147483647 : Int32)) % (20 : Int32))), (.ref b2)])) _
    refine X62.aaload hx (j := ((p1 &&& (2147483647 : Int32)) % (20 : Int32))) (v := (.ref w63)) (by rw [e62]; exact Ar_b2.1) (State.isArrayOf_alike hZ.alike Ar_b2.2.1) rfl Ar_b2.2.2 hin162 hat162 (g := (mkF m 162 #[.val (.int p1), .val (.ref b2), .val (.int ((p1 &&& (2147483647 : Int32)) % (20 : Int32))), .val (.int (1 : Int32))] [(.int ((p1 &&& (2147483647 : Int32)) % (20 : Int32))), (.ref b2)])) rfl rfl (hb hby at_162) _ ?_
    show Steps p.tables e below (T62.setTop (mkF m 163 #[.val (.int p1), .val (.ref b2), .val (.int ((p1 &&& (2147483647 : Int32)) % (20 : Int32))), .val (.int (1 : Int32))] [(.ref w63)])) _
    refine st64.trans ?_
    show Steps p.tables e below (T64.setTop (mkF m 166 #[.val (.int p1), .val (.ref b2), .val (.int ((p1 &&& (2147483647 : Int32)) % (20 : Int32))), .val (.int (1 : Int32))] [(.int (1 : Int32))])) _
    refine XS.iloadN X64.here hx rfl (hb hby at_166) rfl ?_
    show Steps p.tables e below (T64.setTop (mkF m 167 #[.val (.int p1), .val (.ref b2), .val (.int ((p1 &&& (2147483647 : Int32)) % (20 : Int32))), .val (.int (1 : Int32))] [(.int (1 : Int32)), (.int (1 : Int32))])) _
    refine XS.icmpNo X64.here hx rfl (hb hby at_167) rfl (teq (rfl : (1 : Int32) = (1 : Int32))).2 ?_
    show Steps p.tables e below (T64.setTop (mkF m 170 #[.val (.int p1), .val (.ref b2), .val (.int ((p1 &&& (2147483647 : Int32)) % (20 : Int32))), .val (.int (1 : Int32))] [])) _
    refine XS.iconst X64.here hx rfl (hb hby at_170) ?_
    show Steps p.tables e below (T64.setTop (mkF m 171 #[.val (.int p1), .val (.ref b2), .val (.int ((p1 &&& (2147483647 : Int32)) % (20 : Int32))), .val (.int (1 : Int32))] [(.int (1 : Int32))])) _
    refine XS.goto X64.here hx rfl (pc0 := 171) (pc' := 175) rfl (hb hby at_171) (by decide) (by decide) ?_
    show Steps p.tables e below (T64.setTop (mkF m 175 #[.val (.int p1), .val (.ref b2), .val (.int ((p1 &&& (2147483647 : Int32)) % (20 : Int32))), .val (.int (1 : Int32))] [(.int (1 : Int32))])) _
    exact retN X64 hx (t := .boolean) Bd.returns (by simp) (hb hby at_175) hr
  · show Q0_a Z p1 w3 w6 w9 w12 w15 w18 w21 w24 w27 w30 w33 w36 w39 w42 w45 w48 w51 w54 w57 w60 w63 h0 n0 _ T64.heap _
    exact ⟨rfl, N64⟩
def Q0_b (Z : State) (p1 : Int32) (w3 : Addr) (w6 : Addr) (w9 : Addr) (w12 : Addr) (w15 : Addr) (w18 : Addr) (w21 : Addr) (w24 : Addr) (w27 : Addr) (w30 : Addr) (w33 : Addr) (w36 : Addr) (w39 : Addr) (w42 : Addr) (w45 : Addr) (w48 : Addr) (w51 : Addr) (w54 : Addr) (w57 : Addr) (w60 : Addr) (w63 : Addr) (h0 : Heap) (n0 : Nat) (v : Option Value) (h : Heap) (L : List Loc) : Prop := v = some (.int (1 : Int32)) ∧ Fr n0 L
set_option maxRecDepth 65536 in
set_option maxHeartbeats 40000000 in
theorem rm0_b (l : Launch) (Z : State) (a0 : Array Value) (hw : ∀ d ∈ tables_1, d.before a0 Z = true) (ws : List Jvm.Cond) (p1 : Int32) (w3 : Addr) (w6 : Addr) (w9 : Addr) (w12 : Addr) (w15 : Addr) (w18 : Addr) (w21 : Addr) (w24 : Addr) (w27 : Addr) (w30 : Addr) (w33 : Addr) (w36 : Addr) (w39 : Addr) (w42 : Addr) (w45 : Addr) (w48 : Addr) (w51 : Addr) (w54 : Addr) (w57 : Addr) (w60 : Addr) (w63 : Addr) (h0 : Heap) (n0 : Nat) (Z0 : n0 ≤ h0.size) (S_RECEIVABLES : Sta Z h0 "com/example/arvestus/arvestus/values/AccountRole" "RECEIVABLES" "Lcom/example/arvestus/arvestus/values/AccountRole;" (.ref w3)) (E_w3 : Exa Z h0 w3 "com/example/arvestus/arvestus/values/AccountRole") (S_PAYABLES : Sta Z h0 "com/example/arvestus/arvestus/values/AccountRole" "PAYABLES" "Lcom/example/arvestus/arvestus/values/AccountRole;" (.ref w6)) (E_w6 : Exa Z h0 w6 "com/example/arvestus/arvestus/values/AccountRole") (S_CUSTOMER_PREPAYMENTS : Sta Z h0 "com/example/arvestus/arvestus/values/AccountRole" "CUSTOMER_PREPAYMENTS" "Lcom/example/arvestus/arvestus/values/AccountRole;" (.ref w9)) (E_w9 : Exa Z h0 w9 "com/example/arvestus/arvestus/values/AccountRole") (S_SUPPLIER_PREPAYMENTS : Sta Z h0 "com/example/arvestus/arvestus/values/AccountRole" "SUPPLIER_PREPAYMENTS" "Lcom/example/arvestus/arvestus/values/AccountRole;" (.ref w12)) (E_w12 : Exa Z h0 w12 "com/example/arvestus/arvestus/values/AccountRole") (S_FX_GAIN_TRADE : Sta Z h0 "com/example/arvestus/arvestus/values/AccountRole" "FX_GAIN_TRADE" "Lcom/example/arvestus/arvestus/values/AccountRole;" (.ref w15)) (E_w15 : Exa Z h0 w15 "com/example/arvestus/arvestus/values/AccountRole") (S_FX_LOSS_TRADE : Sta Z h0 "com/example/arvestus/arvestus/values/AccountRole" "FX_LOSS_TRADE" "Lcom/example/arvestus/arvestus/values/AccountRole;" (.ref w18)) (E_w18 : Exa Z h0 w18 "com/example/arvestus/arvestus/values/AccountRole") (S_FX_GAIN_SETTLEMENT : Sta Z h0 "com/example/arvestus/arvestus/values/AccountRole" "FX_GAIN_SETTLEMENT" "Lcom/example/arvestus/arvestus/values/AccountRole;" (.ref w21)) (E_w21 : Exa Z h0 w21 "com/example/arvestus/arvestus/values/AccountRole") (S_FX_LOSS_SETTLEMENT : Sta Z h0 "com/example/arvestus/arvestus/values/AccountRole" "FX_LOSS_SETTLEMENT" "Lcom/example/arvestus/arvestus/values/AccountRole;" (.ref w24)) (E_w24 : Exa Z h0 w24 "com/example/arvestus/arvestus/values/AccountRole") (S_FX_UNREALISED_GAIN : Sta Z h0 "com/example/arvestus/arvestus/values/AccountRole" "FX_UNREALISED_GAIN" "Lcom/example/arvestus/arvestus/values/AccountRole;" (.ref w27)) (E_w27 : Exa Z h0 w27 "com/example/arvestus/arvestus/values/AccountRole") (S_FX_UNREALISED_LOSS : Sta Z h0 "com/example/arvestus/arvestus/values/AccountRole" "FX_UNREALISED_LOSS" "Lcom/example/arvestus/arvestus/values/AccountRole;" (.ref w30)) (E_w30 : Exa Z h0 w30 "com/example/arvestus/arvestus/values/AccountRole") (S_FX_GAIN_REVALUATION : Sta Z h0 "com/example/arvestus/arvestus/values/AccountRole" "FX_GAIN_REVALUATION" "Lcom/example/arvestus/arvestus/values/AccountRole;" (.ref w33)) (E_w33 : Exa Z h0 w33 "com/example/arvestus/arvestus/values/AccountRole") (S_FX_LOSS_REVALUATION : Sta Z h0 "com/example/arvestus/arvestus/values/AccountRole" "FX_LOSS_REVALUATION" "Lcom/example/arvestus/arvestus/values/AccountRole;" (.ref w36)) (E_w36 : Exa Z h0 w36 "com/example/arvestus/arvestus/values/AccountRole") (S_ROUNDING_INCOME : Sta Z h0 "com/example/arvestus/arvestus/values/AccountRole" "ROUNDING_INCOME" "Lcom/example/arvestus/arvestus/values/AccountRole;" (.ref w39)) (E_w39 : Exa Z h0 w39 "com/example/arvestus/arvestus/values/AccountRole") (S_ROUNDING_COST : Sta Z h0 "com/example/arvestus/arvestus/values/AccountRole" "ROUNDING_COST" "Lcom/example/arvestus/arvestus/values/AccountRole;" (.ref w42)) (E_w42 : Exa Z h0 w42 "com/example/arvestus/arvestus/values/AccountRole") (S_REVALUATION_CLEARING : Sta Z h0 "com/example/arvestus/arvestus/values/AccountRole" "REVALUATION_CLEARING" "Lcom/example/arvestus/arvestus/values/AccountRole;" (.ref w45)) (E_w45 : Exa Z h0 w45 "com/example/arvestus/arvestus/values/AccountRole") (S_VAT_OUTPUT : Sta Z h0 "com/example/arvestus/arvestus/values/AccountRole" "VAT_OUTPUT" "Lcom/example/arvestus/arvestus/values/AccountRole;" (.ref w48)) (E_w48 : Exa Z h0 w48 "com/example/arvestus/arvestus/values/AccountRole") (S_VAT_INPUT : Sta Z h0 "com/example/arvestus/arvestus/values/AccountRole" "VAT_INPUT" "Lcom/example/arvestus/arvestus/values/AccountRole;" (.ref w51)) (E_w51 : Exa Z h0 w51 "com/example/arvestus/arvestus/values/AccountRole") (S_VAT_OUTPUT_PREPAYMENTS : Sta Z h0 "com/example/arvestus/arvestus/values/AccountRole" "VAT_OUTPUT_PREPAYMENTS" "Lcom/example/arvestus/arvestus/values/AccountRole;" (.ref w54)) (E_w54 : Exa Z h0 w54 "com/example/arvestus/arvestus/values/AccountRole") (S_VAT_INPUT_PREPAYMENTS : Sta Z h0 "com/example/arvestus/arvestus/values/AccountRole" "VAT_INPUT_PREPAYMENTS" "Lcom/example/arvestus/arvestus/values/AccountRole;" (.ref w57)) (E_w57 : Exa Z h0 w57 "com/example/arvestus/arvestus/values/AccountRole") (S_AVERAGE_RATE_POOL : Sta Z h0 "com/example/arvestus/arvestus/values/AccountRole" "AVERAGE_RATE_POOL" "Lcom/example/arvestus/arvestus/values/AccountRole;" (.ref w60)) (E_w60 : Exa Z h0 w60 "com/example/arvestus/arvestus/values/AccountRole") (E_w63 : Exa Z h0 w63 "com/example/arvestus/arvestus/values/AccountRole") (hc151 : ((p1 &&& (2147483647 : Int32)) % (20 : Int32)) = (19 : Int32)) (hj : ¬ (((p1 &&& (2147483647 : Int32)) % (20 : Int32)) < 0) ∧ ((p1 &&& (2147483647 : Int32)) % (20 : Int32)) < (20 : Int32)) (hu : ([.ref w3, .ref w6, .ref w9, .ref w12, .ref w15, .ref w18, .ref w21, .ref w24, .ref w27, .ref w30, .ref w33, .ref w36, .ref w39, .ref w42, .ref w45, .ref w48, .ref w51, .ref w54, .ref w57, .ref w60] : List Value).getD (((p1 &&& (2147483647 : Int32)) % (20 : Int32))).toNatClampNeg .null = .ref w63) (hsel : w63 = w60) :
    MetFree l x (head1 (Jvm.Cond.code x code maxLocals ret :: ws) room_1) (fun a U => a = #[(.int p1)] ∧ Z.Warmed39 U.vm ∧ U.heap = h0) (fun _ _ _ _ _ => True) (fun _ U o U' => ∃ v L, o = .returned v ∧ Q0_b Z p1 w3 w6 w9 w12 w15 w18 w21 w24 w27 w30 w33 w36 w39 w42 w45 w48 w51 w54 w57 w60 w63 h0 n0 v U'.heap L ∧ FrameEnd U o U' L room_1.cells room_1.slots) := by
  refine MetFree.of_bodySF (plainFor_of_name pn_0) hisR ?_
  intro p e s m args below meth c s₁ Bd hml0 hP hK
  obtain ⟨rfl, hZ, hh⟩ := hP
  have hx := Bd.exec
  have hby := Bd.bytes
  have hml : c.maxLocals = 4 := hml0
  have hown : s.vm.findClass "com/example/arvestus/arvestus/values/AccountRoleIsUniquePinLaw" = some m.cls := findClass_of_methodNamed Bd.named
  have hnm := (name_of_methodNamed Bd.named Bd.method).1
  have X0 : Stand p l e room_1 s m #[(.int p1)] below meth c s₁ [] 0 0 := Stand.of_body Bd
  have e0 : s₁.heap = h0 := by rw [← hh, Bd.state]; rfl
  have N0 := Fr.nil n0
  have pre0 : ∀ t, Steps p.tables e below (s₁.setTop (mkF m 0 #[.val (.int p1), .unset, .unset, .unset] [])) t → Steps p.tables e below (s₁.setTop (entryFrame m #[(.int p1)] maxLocals)) t := fun t k => castTop (ef_0 m p1) k
  obtain ⟨T2, h2, k2, X2, e2, E2, A2, O2, st2⟩ := newR X0 hx hZ hown (hw _ (List.mem_of_getElem? (i := 0) rfl)) (hw _ (List.mem_of_getElem? (i := 1) rfl)) e0 (g := (mkF m 2 #[.val (.int p1), .unset, .unset, .unset] [(.int (20 : Int32))])) rfl (hb hby at_2) rfl (by decide) (cap := 20) (by decide) (by decide) (by decide) (by decide)
  obtain ⟨b2, g2⟩ : ∃ z, z = h0.size := ⟨_, rfl⟩
  rw [← g2] at A2 st2
  have V2 : Arv Z h2 b2 k2 (.object "com/example/arvestus/arvestus/values/AccountRole") (20 : Int32) [.null, .null, .null, .null, .null, .null, .null, .null, .null, .null, .null, .null, .null, .null, .null, .null, .null, .null, .null, .null] .null := (Arv.new A2 (by decide)).pad (pad_rep [] .null 20)
  have g_b2 : n0 ≤ b2 := Nat.le_trans Z0 (Nat.le_of_eq g2.symm)
  have sz_b2 : h0.size ≤ b2 := (Nat.le_trans (Keep.refl h0 []).1 (Nat.le_of_eq g2.symm))
  have K2 : Keep h0 h2 [] := (Keep.refl h0 []).ext E2
  obtain ⟨T4, X4, e4, st4⟩ := getS2 X2 hx hZ hown (host := "") (Or.inl (hw _ (List.mem_of_getElem? (i := 2) rfl))) Via.refl e2 (own_stk S_RECEIVABLES K2) (g := (mkF m 7 #[.val (.int p1), .unset, .unset, .unset] [(.int (0 : Int32)), (.ref b2), (.ref b2)])) rfl (hb hby at_7)
  obtain ⟨cl5, Ar5, q5, sz5, nn5, H5, G5⟩ := V2
  obtain ⟨T5, h5, X5, e5, W5, st5⟩ := stR X4 hx hZ e4 Ar5 (j := (0 : Int32)) (inb_of sz5 (by decide)) rfl (Sto.ofV Ar5 q5 O2 (Ins.self (E_w3.keep K2))) (g := (mkF m 10 #[.val (.int p1), .unset, .unset, .unset] [(.ref w3), (.int (0 : Int32)), (.ref b2), (.ref b2)])) rfl rfl (hb hby at_10)
  have V5 : Arv Z h5 b2 k2 (.object "com/example/arvestus/arvestus/values/AccountRole") (20 : Int32) [.ref w3, .null, .null, .null, .null, .null, .null, .null, .null, .null, .null, .null, .null, .null, .null, .null, .null, .null, .null, .null] .null := Arv.set Ar5 q5 sz5 nn5 H5 G5 rfl W5 0 rfl (Nat.le_of_ble_eq_true rfl)
  have N5 := Fr.snoc X5 N0 g_b2
  have K5 : Keep h0 h5 [] := K2.wr W5 (Or.inr sz_b2)
  obtain ⟨T7, X7, e7, st7⟩ := getS2 X5 hx hZ hown (host := "") (Or.inl (hw _ (List.mem_of_getElem? (i := 6) rfl))) Via.refl e5 (own_stk S_PAYABLES K5) (g := (mkF m 13 #[.val (.int p1), .unset, .unset, .unset] [(.int (1 : Int32)), (.ref b2), (.ref b2)])) rfl (hb hby at_13)
  obtain ⟨cl8, Ar8, q8, sz8, nn8, H8, G8⟩ := V5
  obtain ⟨T8, h8, X8, e8, W8, st8⟩ := stR X7 hx hZ e7 Ar8 (j := (1 : Int32)) (inb_of sz8 (by decide)) rfl (Sto.ofV Ar8 q8 O2 (Ins.self (E_w6.keep K5))) (g := (mkF m 16 #[.val (.int p1), .unset, .unset, .unset] [(.ref w6), (.int (1 : Int32)), (.ref b2), (.ref b2)])) rfl rfl (hb hby at_16)
  have V8 : Arv Z h8 b2 k2 (.object "com/example/arvestus/arvestus/values/AccountRole") (20 : Int32) [.ref w3, .ref w6, .null, .null, .null, .null, .null, .null, .null, .null, .null, .null, .null, .null, .null, .null, .null, .null, .null, .null] .null := Arv.set Ar8 q8 sz8 nn8 H8 G8 rfl W8 1 rfl (Nat.le_of_ble_eq_true rfl)
  have N8 := Fr.snoc X8 N5 g_b2
  have K8 : Keep h0 h8 [] := K5.wr W8 (Or.inr sz_b2)
  obtain ⟨T10, X10, e10, st10⟩ := getS2 X8 hx hZ hown (host := "") (Or.inl (hw _ (List.mem_of_getElem? (i := 8) rfl))) Via.refl e8 (own_stk S_CUSTOMER_PREPAYMENTS K8) (g := (mkF m 19 #[.val (.int p1), .unset, .unset, .unset] [(.int (2 : Int32)), (.ref b2), (.ref b2)])) rfl (hb hby at_19)
  obtain ⟨cl11, Ar11, q11, sz11, nn11, H11, G11⟩ := V8
  obtain ⟨T11, h11, X11, e11, W11, st11⟩ := stR X10 hx hZ e10 Ar11 (j := (2 : Int32)) (inb_of sz11 (by decide)) rfl (Sto.ofV Ar11 q11 O2 (Ins.self (E_w9.keep K8))) (g := (mkF m 22 #[.val (.int p1), .unset, .unset, .unset] [(.ref w9), (.int (2 : Int32)), (.ref b2), (.ref b2)])) rfl rfl (hb hby at_22)
  have V11 : Arv Z h11 b2 k2 (.object "com/example/arvestus/arvestus/values/AccountRole") (20 : Int32) [.ref w3, .ref w6, .ref w9, .null, .null, .null, .null, .null, .null, .null, .null, .null, .null, .null, .null, .null, .null, .null, .null, .null] .null := Arv.set Ar11 q11 sz11 nn11 H11 G11 rfl W11 2 rfl (Nat.le_of_ble_eq_true rfl)
  have N11 := Fr.snoc X11 N8 g_b2
  have K11 : Keep h0 h11 [] := K8.wr W11 (Or.inr sz_b2)
  obtain ⟨T13, X13, e13, st13⟩ := getS2 X11 hx hZ hown (host := "") (Or.inl (hw _ (List.mem_of_getElem? (i := 10) rfl))) Via.refl e11 (own_stk S_SUPPLIER_PREPAYMENTS K11) (g := (mkF m 25 #[.val (.int p1), .unset, .unset, .unset] [(.int (3 : Int32)), (.ref b2), (.ref b2)])) rfl (hb hby at_25)
  obtain ⟨cl14, Ar14, q14, sz14, nn14, H14, G14⟩ := V11
  obtain ⟨T14, h14, X14, e14, W14, st14⟩ := stR X13 hx hZ e13 Ar14 (j := (3 : Int32)) (inb_of sz14 (by decide)) rfl (Sto.ofV Ar14 q14 O2 (Ins.self (E_w12.keep K11))) (g := (mkF m 28 #[.val (.int p1), .unset, .unset, .unset] [(.ref w12), (.int (3 : Int32)), (.ref b2), (.ref b2)])) rfl rfl (hb hby at_28)
  have V14 : Arv Z h14 b2 k2 (.object "com/example/arvestus/arvestus/values/AccountRole") (20 : Int32) [.ref w3, .ref w6, .ref w9, .ref w12, .null, .null, .null, .null, .null, .null, .null, .null, .null, .null, .null, .null, .null, .null, .null, .null] .null := Arv.set Ar14 q14 sz14 nn14 H14 G14 rfl W14 3 rfl (Nat.le_of_ble_eq_true rfl)
  have N14 := Fr.snoc X14 N11 g_b2
  have K14 : Keep h0 h14 [] := K11.wr W14 (Or.inr sz_b2)
  obtain ⟨T16, X16, e16, st16⟩ := getS2 X14 hx hZ hown (host := "") (Or.inl (hw _ (List.mem_of_getElem? (i := 12) rfl))) Via.refl e14 (own_stk S_FX_GAIN_TRADE K14) (g := (mkF m 31 #[.val (.int p1), .unset, .unset, .unset] [(.int (4 : Int32)), (.ref b2), (.ref b2)])) rfl (hb hby at_31)
  obtain ⟨cl17, Ar17, q17, sz17, nn17, H17, G17⟩ := V14
  obtain ⟨T17, h17, X17, e17, W17, st17⟩ := stR X16 hx hZ e16 Ar17 (j := (4 : Int32)) (inb_of sz17 (by decide)) rfl (Sto.ofV Ar17 q17 O2 (Ins.self (E_w15.keep K14))) (g := (mkF m 34 #[.val (.int p1), .unset, .unset, .unset] [(.ref w15), (.int (4 : Int32)), (.ref b2), (.ref b2)])) rfl rfl (hb hby at_34)
  have V17 : Arv Z h17 b2 k2 (.object "com/example/arvestus/arvestus/values/AccountRole") (20 : Int32) [.ref w3, .ref w6, .ref w9, .ref w12, .ref w15, .null, .null, .null, .null, .null, .null, .null, .null, .null, .null, .null, .null, .null, .null, .null] .null := Arv.set Ar17 q17 sz17 nn17 H17 G17 rfl W17 4 rfl (Nat.le_of_ble_eq_true rfl)
  have N17 := Fr.snoc X17 N14 g_b2
  have K17 : Keep h0 h17 [] := K14.wr W17 (Or.inr sz_b2)
  obtain ⟨T19, X19, e19, st19⟩ := getS2 X17 hx hZ hown (host := "") (Or.inl (hw _ (List.mem_of_getElem? (i := 14) rfl))) Via.refl e17 (own_stk S_FX_LOSS_TRADE K17) (g := (mkF m 37 #[.val (.int p1), .unset, .unset, .unset] [(.int (5 : Int32)), (.ref b2), (.ref b2)])) rfl (hb hby at_37)
  obtain ⟨cl20, Ar20, q20, sz20, nn20, H20, G20⟩ := V17
  obtain ⟨T20, h20, X20, e20, W20, st20⟩ := stR X19 hx hZ e19 Ar20 (j := (5 : Int32)) (inb_of sz20 (by decide)) rfl (Sto.ofV Ar20 q20 O2 (Ins.self (E_w18.keep K17))) (g := (mkF m 40 #[.val (.int p1), .unset, .unset, .unset] [(.ref w18), (.int (5 : Int32)), (.ref b2), (.ref b2)])) rfl rfl (hb hby at_40)
  have V20 : Arv Z h20 b2 k2 (.object "com/example/arvestus/arvestus/values/AccountRole") (20 : Int32) [.ref w3, .ref w6, .ref w9, .ref w12, .ref w15, .ref w18, .null, .null, .null, .null, .null, .null, .null, .null, .null, .null, .null, .null, .null, .null] .null := Arv.set Ar20 q20 sz20 nn20 H20 G20 rfl W20 5 rfl (Nat.le_of_ble_eq_true rfl)
  have N20 := Fr.snoc X20 N17 g_b2
  have K20 : Keep h0 h20 [] := K17.wr W20 (Or.inr sz_b2)
  obtain ⟨T22, X22, e22, st22⟩ := getS2 X20 hx hZ hown (host := "") (Or.inl (hw _ (List.mem_of_getElem? (i := 16) rfl))) Via.refl e20 (own_stk S_FX_GAIN_SETTLEMENT K20) (g := (mkF m 44 #[.val (.int p1), .unset, .unset, .unset] [(.int (6 : Int32)), (.ref b2), (.ref b2)])) rfl (hb hby at_44)
  obtain ⟨cl23, Ar23, q23, sz23, nn23, H23, G23⟩ := V20
  obtain ⟨T23, h23, X23, e23, W23, st23⟩ := stR X22 hx hZ e22 Ar23 (j := (6 : Int32)) (inb_of sz23 (by decide)) rfl (Sto.ofV Ar23 q23 O2 (Ins.self (E_w21.keep K20))) (g := (mkF m 47 #[.val (.int p1), .unset, .unset, .unset] [(.ref w21), (.int (6 : Int32)), (.ref b2), (.ref b2)])) rfl rfl (hb hby at_47)
  have V23 : Arv Z h23 b2 k2 (.object "com/example/arvestus/arvestus/values/AccountRole") (20 : Int32) [.ref w3, .ref w6, .ref w9, .ref w12, .ref w15, .ref w18, .ref w21, .null, .null, .null, .null, .null, .null, .null, .null, .null, .null, .null, .null, .null] .null := Arv.set Ar23 q23 sz23 nn23 H23 G23 rfl W23 6 rfl (Nat.le_of_ble_eq_true rfl)
  have N23 := Fr.snoc X23 N20 g_b2
  have K23 : Keep h0 h23 [] := K20.wr W23 (Or.inr sz_b2)
  obtain ⟨T25, X25, e25, st25⟩ := getS2 X23 hx hZ hown (host := "") (Or.inl (hw _ (List.mem_of_getElem? (i := 18) rfl))) Via.refl e23 (own_stk S_FX_LOSS_SETTLEMENT K23) (g := (mkF m 51 #[.val (.int p1), .unset, .unset, .unset] [(.int (7 : Int32)), (.ref b2), (.ref b2)])) rfl (hb hby at_51)
  obtain ⟨cl26, Ar26, q26, sz26, nn26, H26, G26⟩ := V23
  obtain ⟨T26, h26, X26, e26, W26, st26⟩ := stR X25 hx hZ e25 Ar26 (j := (7 : Int32)) (inb_of sz26 (by decide)) rfl (Sto.ofV Ar26 q26 O2 (Ins.self (E_w24.keep K23))) (g := (mkF m 54 #[.val (.int p1), .unset, .unset, .unset] [(.ref w24), (.int (7 : Int32)), (.ref b2), (.ref b2)])) rfl rfl (hb hby at_54)
  have V26 : Arv Z h26 b2 k2 (.object "com/example/arvestus/arvestus/values/AccountRole") (20 : Int32) [.ref w3, .ref w6, .ref w9, .ref w12, .ref w15, .ref w18, .ref w21, .ref w24, .null, .null, .null, .null, .null, .null, .null, .null, .null, .null, .null, .null] .null := Arv.set Ar26 q26 sz26 nn26 H26 G26 rfl W26 7 rfl (Nat.le_of_ble_eq_true rfl)
  have N26 := Fr.snoc X26 N23 g_b2
  have K26 : Keep h0 h26 [] := K23.wr W26 (Or.inr sz_b2)
  obtain ⟨T28, X28, e28, st28⟩ := getS2 X26 hx hZ hown (host := "") (Or.inl (hw _ (List.mem_of_getElem? (i := 20) rfl))) Via.refl e26 (own_stk S_FX_UNREALISED_GAIN K26) (g := (mkF m 58 #[.val (.int p1), .unset, .unset, .unset] [(.int (8 : Int32)), (.ref b2), (.ref b2)])) rfl (hb hby at_58)
  obtain ⟨cl29, Ar29, q29, sz29, nn29, H29, G29⟩ := V26
  obtain ⟨T29, h29, X29, e29, W29, st29⟩ := stR X28 hx hZ e28 Ar29 (j := (8 : Int32)) (inb_of sz29 (by decide)) rfl (Sto.ofV Ar29 q29 O2 (Ins.self (E_w27.keep K26))) (g := (mkF m 61 #[.val (.int p1), .unset, .unset, .unset] [(.ref w27), (.int (8 : Int32)), (.ref b2), (.ref b2)])) rfl rfl (hb hby at_61)
  have V29 : Arv Z h29 b2 k2 (.object "com/example/arvestus/arvestus/values/AccountRole") (20 : Int32) [.ref w3, .ref w6, .ref w9, .ref w12, .ref w15, .ref w18, .ref w21, .ref w24, .ref w27, .null, .null, .null, .null, .null, .null, .null, .null, .null, .null, .null] .null := Arv.set Ar29 q29 sz29 nn29 H29 G29 rfl W29 8 rfl (Nat.le_of_ble_eq_true rfl)
  have N29 := Fr.snoc X29 N26 g_b2
  have K29 : Keep h0 h29 [] := K26.wr W29 (Or.inr sz_b2)
  obtain ⟨T31, X31, e31, st31⟩ := getS2 X29 hx hZ hown (host := "") (Or.inl (hw _ (List.mem_of_getElem? (i := 22) rfl))) Via.refl e29 (own_stk S_FX_UNREALISED_LOSS K29) (g := (mkF m 65 #[.val (.int p1), .unset, .unset, .unset] [(.int (9 : Int32)), (.ref b2), (.ref b2)])) rfl (hb hby at_65)
  obtain ⟨cl32, Ar32, q32, sz32, nn32, H32, G32⟩ := V29
  obtain ⟨T32, h32, X32, e32, W32, st32⟩ := stR X31 hx hZ e31 Ar32 (j := (9 : Int32)) (inb_of sz32 (by decide)) rfl (Sto.ofV Ar32 q32 O2 (Ins.self (E_w30.keep K29))) (g := (mkF m 68 #[.val (.int p1), .unset, .unset, .unset] [(.ref w30), (.int (9 : Int32)), (.ref b2), (.ref b2)])) rfl rfl (hb hby at_68)
  have V32 : Arv Z h32 b2 k2 (.object "com/example/arvestus/arvestus/values/AccountRole") (20 : Int32) [.ref w3, .ref w6, .ref w9, .ref w12, .ref w15, .ref w18, .ref w21, .ref w24, .ref w27, .ref w30, .null, .null, .null, .null, .null, .null, .null, .null, .null, .null] .null := Arv.set Ar32 q32 sz32 nn32 H32 G32 rfl W32 9 rfl (Nat.le_of_ble_eq_true rfl)
  have N32 := Fr.snoc X32 N29 g_b2
  have K32 : Keep h0 h32 [] := K29.wr W32 (Or.inr sz_b2)
  obtain ⟨T34, X34, e34, st34⟩ := getS2 X32 hx hZ hown (host := "") (Or.inl (hw _ (List.mem_of_getElem? (i := 24) rfl))) Via.refl e32 (own_stk S_FX_GAIN_REVALUATION K32) (g := (mkF m 72 #[.val (.int p1), .unset, .unset, .unset] [(.int (10 : Int32)), (.ref b2), (.ref b2)])) rfl (hb hby at_72)
  obtain ⟨cl35, Ar35, q35, sz35, nn35, H35, G35⟩ := V32
  obtain ⟨T35, h35, X35, e35, W35, st35⟩ := stR X34 hx hZ e34 Ar35 (j := (10 : Int32)) (inb_of sz35 (by decide)) rfl (Sto.ofV Ar35 q35 O2 (Ins.self (E_w33.keep K32))) (g := (mkF m 75 #[.val (.int p1), .unset, .unset, .unset] [(.ref w33), (.int (10 : Int32)), (.ref b2), (.ref b2)])) rfl rfl (hb hby at_75)
  have V35 : Arv Z h35 b2 k2 (.object "com/example/arvestus/arvestus/values/AccountRole") (20 : Int32) [.ref w3, .ref w6, .ref w9, .ref w12, .ref w15, .ref w18, .ref w21, .ref w24, .ref w27, .ref w30, .ref w33, .null, .null, .null, .null, .null, .null, .null, .null, .null] .null := Arv.set Ar35 q35 sz35 nn35 H35 G35 rfl W35 10 rfl (Nat.le_of_ble_eq_true rfl)
  have N35 := Fr.snoc X35 N32 g_b2
  have K35 : Keep h0 h35 [] := K32.wr W35 (Or.inr sz_b2)
  obtain ⟨T37, X37, e37, st37⟩ := getS2 X35 hx hZ hown (host := "") (Or.inl (hw _ (List.mem_of_getElem? (i := 26) rfl))) Via.refl e35 (own_stk S_FX_LOSS_REVALUATION K35) (g := (mkF m 79 #[.val (.int p1), .unset, .unset, .unset] [(.int (11 : Int32)), (.ref b2), (.ref b2)])) rfl (hb hby at_79)
  obtain ⟨cl38, Ar38, q38, sz38, nn38, H38, G38⟩ := V35
  obtain ⟨T38, h38, X38, e38, W38, st38⟩ := stR X37 hx hZ e37 Ar38 (j := (11 : Int32)) (inb_of sz38 (by decide)) rfl (Sto.ofV Ar38 q38 O2 (Ins.self (E_w36.keep K35))) (g := (mkF m 82 #[.val (.int p1), .unset, .unset, .unset] [(.ref w36), (.int (11 : Int32)), (.ref b2), (.ref b2)])) rfl rfl (hb hby at_82)
  have V38 : Arv Z h38 b2 k2 (.object "com/example/arvestus/arvestus/values/AccountRole") (20 : Int32) [.ref w3, .ref w6, .ref w9, .ref w12, .ref w15, .ref w18, .ref w21, .ref w24, .ref w27, .ref w30, .ref w33, .ref w36, .null, .null, .null, .null, .null, .null, .null, .null] .null := Arv.set Ar38 q38 sz38 nn38 H38 G38 rfl W38 11 rfl (Nat.le_of_ble_eq_true rfl)
  have N38 := Fr.snoc X38 N35 g_b2
  have K38 : Keep h0 h38 [] := K35.wr W38 (Or.inr sz_b2)
  obtain ⟨T40, X40, e40, st40⟩ := getS2 X38 hx hZ hown (host := "") (Or.inl (hw _ (List.mem_of_getElem? (i := 28) rfl))) Via.refl e38 (own_stk S_ROUNDING_INCOME K38) (g := (mkF m 86 #[.val (.int p1), .unset, .unset, .unset] [(.int (12 : Int32)), (.ref b2), (.ref b2)])) rfl (hb hby at_86)
  obtain ⟨cl41, Ar41, q41, sz41, nn41, H41, G41⟩ := V38
  obtain ⟨T41, h41, X41, e41, W41, st41⟩ := stR X40 hx hZ e40 Ar41 (j := (12 : Int32)) (inb_of sz41 (by decide)) rfl (Sto.ofV Ar41 q41 O2 (Ins.self (E_w39.keep K38))) (g := (mkF m 89 #[.val (.int p1), .unset, .unset, .unset] [(.ref w39), (.int (12 : Int32)), (.ref b2), (.ref b2)])) rfl rfl (hb hby at_89)
  have V41 : Arv Z h41 b2 k2 (.object "com/example/arvestus/arvestus/values/AccountRole") (20 : Int32) [.ref w3, .ref w6, .ref w9, .ref w12, .ref w15, .ref w18, .ref w21, .ref w24, .ref w27, .ref w30, .ref w33, .ref w36, .ref w39, .null, .null, .null, .null, .null, .null, .null] .null := Arv.set Ar41 q41 sz41 nn41 H41 G41 rfl W41 12 rfl (Nat.le_of_ble_eq_true rfl)
  have N41 := Fr.snoc X41 N38 g_b2
  have K41 : Keep h0 h41 [] := K38.wr W41 (Or.inr sz_b2)
  obtain ⟨T43, X43, e43, st43⟩ := getS2 X41 hx hZ hown (host := "") (Or.inl (hw _ (List.mem_of_getElem? (i := 30) rfl))) Via.refl e41 (own_stk S_ROUNDING_COST K41) (g := (mkF m 93 #[.val (.int p1), .unset, .unset, .unset] [(.int (13 : Int32)), (.ref b2), (.ref b2)])) rfl (hb hby at_93)
  obtain ⟨cl44, Ar44, q44, sz44, nn44, H44, G44⟩ := V41
  obtain ⟨T44, h44, X44, e44, W44, st44⟩ := stR X43 hx hZ e43 Ar44 (j := (13 : Int32)) (inb_of sz44 (by decide)) rfl (Sto.ofV Ar44 q44 O2 (Ins.self (E_w42.keep K41))) (g := (mkF m 96 #[.val (.int p1), .unset, .unset, .unset] [(.ref w42), (.int (13 : Int32)), (.ref b2), (.ref b2)])) rfl rfl (hb hby at_96)
  have V44 : Arv Z h44 b2 k2 (.object "com/example/arvestus/arvestus/values/AccountRole") (20 : Int32) [.ref w3, .ref w6, .ref w9, .ref w12, .ref w15, .ref w18, .ref w21, .ref w24, .ref w27, .ref w30, .ref w33, .ref w36, .ref w39, .ref w42, .null, .null, .null, .null, .null, .null] .null := Arv.set Ar44 q44 sz44 nn44 H44 G44 rfl W44 13 rfl (Nat.le_of_ble_eq_true rfl)
  have N44 := Fr.snoc X44 N41 g_b2
  have K44 : Keep h0 h44 [] := K41.wr W44 (Or.inr sz_b2)
  obtain ⟨T46, X46, e46, st46⟩ := getS2 X44 hx hZ hown (host := "") (Or.inl (hw _ (List.mem_of_getElem? (i := 32) rfl))) Via.refl e44 (own_stk S_REVALUATION_CLEARING K44) (g := (mkF m 100 #[.val (.int p1), .unset, .unset, .unset] [(.int (14 : Int32)), (.ref b2), (.ref b2)])) rfl (hb hby at_100)
  obtain ⟨cl47, Ar47, q47, sz47, nn47, H47, G47⟩ := V44
  obtain ⟨T47, h47, X47, e47, W47, st47⟩ := stR X46 hx hZ e46 Ar47 (j := (14 : Int32)) (inb_of sz47 (by decide)) rfl (Sto.ofV Ar47 q47 O2 (Ins.self (E_w45.keep K44))) (g := (mkF m 103 #[.val (.int p1), .unset, .unset, .unset] [(.ref w45), (.int (14 : Int32)), (.ref b2), (.ref b2)])) rfl rfl (hb hby at_103)
  have V47 : Arv Z h47 b2 k2 (.object "com/example/arvestus/arvestus/values/AccountRole") (20 : Int32) [.ref w3, .ref w6, .ref w9, .ref w12, .ref w15, .ref w18, .ref w21, .ref w24, .ref w27, .ref w30, .ref w33, .ref w36, .ref w39, .ref w42, .ref w45, .null, .null, .null, .null, .null] .null := Arv.set Ar47 q47 sz47 nn47 H47 G47 rfl W47 14 rfl (Nat.le_of_ble_eq_true rfl)
  have N47 := Fr.snoc X47 N44 g_b2
  have K47 : Keep h0 h47 [] := K44.wr W47 (Or.inr sz_b2)
  obtain ⟨T49, X49, e49, st49⟩ := getS2 X47 hx hZ hown (host := "") (Or.inl (hw _ (List.mem_of_getElem? (i := 34) rfl))) Via.refl e47 (own_stk S_VAT_OUTPUT K47) (g := (mkF m 107 #[.val (.int p1), .unset, .unset, .unset] [(.int (15 : Int32)), (.ref b2), (.ref b2)])) rfl (hb hby at_107)
  obtain ⟨cl50, Ar50, q50, sz50, nn50, H50, G50⟩ := V47
  obtain ⟨T50, h50, X50, e50, W50, st50⟩ := stR X49 hx hZ e49 Ar50 (j := (15 : Int32)) (inb_of sz50 (by decide)) rfl (Sto.ofV Ar50 q50 O2 (Ins.self (E_w48.keep K47))) (g := (mkF m 110 #[.val (.int p1), .unset, .unset, .unset] [(.ref w48), (.int (15 : Int32)), (.ref b2), (.ref b2)])) rfl rfl (hb hby at_110)
  have V50 : Arv Z h50 b2 k2 (.object "com/example/arvestus/arvestus/values/AccountRole") (20 : Int32) [.ref w3, .ref w6, .ref w9, .ref w12, .ref w15, .ref w18, .ref w21, .ref w24, .ref w27, .ref w30, .ref w33, .ref w36, .ref w39, .ref w42, .ref w45, .ref w48, .null, .null, .null, .null] .null := Arv.set Ar50 q50 sz50 nn50 H50 G50 rfl W50 15 rfl (Nat.le_of_ble_eq_true rfl)
  have N50 := Fr.snoc X50 N47 g_b2
  have K50 : Keep h0 h50 [] := K47.wr W50 (Or.inr sz_b2)
  obtain ⟨T52, X52, e52, st52⟩ := getS2 X50 hx hZ hown (host := "") (Or.inl (hw _ (List.mem_of_getElem? (i := 36) rfl))) Via.refl e50 (own_stk S_VAT_INPUT K50) (g := (mkF m 114 #[.val (.int p1), .unset, .unset, .unset] [(.int (16 : Int32)), (.ref b2), (.ref b2)])) rfl (hb hby at_114)
  obtain ⟨cl53, Ar53, q53, sz53, nn53, H53, G53⟩ := V50
  obtain ⟨T53, h53, X53, e53, W53, st53⟩ := stR X52 hx hZ e52 Ar53 (j := (16 : Int32)) (inb_of sz53 (by decide)) rfl (Sto.ofV Ar53 q53 O2 (Ins.self (E_w51.keep K50))) (g := (mkF m 117 #[.val (.int p1), .unset, .unset, .unset] [(.ref w51), (.int (16 : Int32)), (.ref b2), (.ref b2)])) rfl rfl (hb hby at_117)
  have V53 : Arv Z h53 b2 k2 (.object "com/example/arvestus/arvestus/values/AccountRole") (20 : Int32) [.ref w3, .ref w6, .ref w9, .ref w12, .ref w15, .ref w18, .ref w21, .ref w24, .ref w27, .ref w30, .ref w33, .ref w36, .ref w39, .ref w42, .ref w45, .ref w48, .ref w51, .null, .null, .null] .null := Arv.set Ar53 q53 sz53 nn53 H53 G53 rfl W53 16 rfl (Nat.le_of_ble_eq_true rfl)
  have N53 := Fr.snoc X53 N50 g_b2
  have K53 : Keep h0 h53 [] := K50.wr W53 (Or.inr sz_b2)
  obtain ⟨T55, X55, e55, st55⟩ := getS2 X53 hx hZ hown (host := "") (Or.inl (hw _ (List.mem_of_getElem? (i := 38) rfl))) Via.refl e53 (own_stk S_VAT_OUTPUT_PREPAYMENTS K53) (g := (mkF m 121 #[.val (.int p1), .unset, .unset, .unset] [(.int (17 : Int32)), (.ref b2), (.ref b2)])) rfl (hb hby at_121)
  obtain ⟨cl56, Ar56, q56, sz56, nn56, H56, G56⟩ := V53
  obtain ⟨T56, h56, X56, e56, W56, st56⟩ := stR X55 hx hZ e55 Ar56 (j := (17 : Int32)) (inb_of sz56 (by decide)) rfl (Sto.ofV Ar56 q56 O2 (Ins.self (E_w54.keep K53))) (g := (mkF m 124 #[.val (.int p1), .unset, .unset, .unset] [(.ref w54), (.int (17 : Int32)), (.ref b2), (.ref b2)])) rfl rfl (hb hby at_124)
  have V56 : Arv Z h56 b2 k2 (.object "com/example/arvestus/arvestus/values/AccountRole") (20 : Int32) [.ref w3, .ref w6, .ref w9, .ref w12, .ref w15, .ref w18, .ref w21, .ref w24, .ref w27, .ref w30, .ref w33, .ref w36, .ref w39, .ref w42, .ref w45, .ref w48, .ref w51, .ref w54, .null, .null] .null := Arv.set Ar56 q56 sz56 nn56 H56 G56 rfl W56 17 rfl (Nat.le_of_ble_eq_true rfl)
  have N56 := Fr.snoc X56 N53 g_b2
  have K56 : Keep h0 h56 [] := K53.wr W56 (Or.inr sz_b2)
  obtain ⟨T58, X58, e58, st58⟩ := getS2 X56 hx hZ hown (host := "") (Or.inl (hw _ (List.mem_of_getElem? (i := 40) rfl))) Via.refl e56 (own_stk S_VAT_INPUT_PREPAYMENTS K56) (g := (mkF m 128 #[.val (.int p1), .unset, .unset, .unset] [(.int (18 : Int32)), (.ref b2), (.ref b2)])) rfl (hb hby at_128)
  obtain ⟨cl59, Ar59, q59, sz59, nn59, H59, G59⟩ := V56
  obtain ⟨T59, h59, X59, e59, W59, st59⟩ := stR X58 hx hZ e58 Ar59 (j := (18 : Int32)) (inb_of sz59 (by decide)) rfl (Sto.ofV Ar59 q59 O2 (Ins.self (E_w57.keep K56))) (g := (mkF m 131 #[.val (.int p1), .unset, .unset, .unset] [(.ref w57), (.int (18 : Int32)), (.ref b2), (.ref b2)])) rfl rfl (hb hby at_131)
  have V59 : Arv Z h59 b2 k2 (.object "com/example/arvestus/arvestus/values/AccountRole") (20 : Int32) [.ref w3, .ref w6, .ref w9, .ref w12, .ref w15, .ref w18, .ref w21, .ref w24, .ref w27, .ref w30, .ref w33, .ref w36, .ref w39, .ref w42, .ref w45, .ref w48, .ref w51, .ref w54, .ref w57, .null] .null := Arv.set Ar59 q59 sz59 nn59 H59 G59 rfl W59 18 rfl (Nat.le_of_ble_eq_true rfl)
  have N59 := Fr.snoc X59 N56 g_b2
  have K59 : Keep h0 h59 [] := K56.wr W59 (Or.inr sz_b2)
  obtain ⟨T61, X61, e61, st61⟩ := getS2 X59 hx hZ hown (host := "") (Or.inl (hw _ (List.mem_of_getElem? (i := 42) rfl))) Via.refl e59 (own_stk S_AVERAGE_RATE_POOL K59) (g := (mkF m 135 #[.val (.int p1), .unset, .unset, .unset] [(.int (19 : Int32)), (.ref b2), (.ref b2)])) rfl (hb hby at_135)
  obtain ⟨cl62, Ar62, q62, sz62, nn62, H62, G62⟩ := V59
  obtain ⟨T62, h62, X62, e62, W62, st62⟩ := stR X61 hx hZ e61 Ar62 (j := (19 : Int32)) (inb_of sz62 (by decide)) rfl (Sto.ofV Ar62 q62 O2 (Ins.self (E_w60.keep K59))) (g := (mkF m 138 #[.val (.int p1), .unset, .unset, .unset] [(.ref w60), (.int (19 : Int32)), (.ref b2), (.ref b2)])) rfl rfl (hb hby at_138)
  have V62 : Arv Z h62 b2 k2 (.object "com/example/arvestus/arvestus/values/AccountRole") (20 : Int32) [.ref w3, .ref w6, .ref w9, .ref w12, .ref w15, .ref w18, .ref w21, .ref w24, .ref w27, .ref w30, .ref w33, .ref w36, .ref w39, .ref w42, .ref w45, .ref w48, .ref w51, .ref w54, .ref w57, .ref w60] .null := Arv.set Ar62 q62 sz62 nn62 H62 G62 rfl W62 19 rfl (Nat.le_of_ble_eq_true rfl)
  have N62 := Fr.snoc X62 N59 g_b2
  have K62 : Keep h0 h62 [] := K59.wr W62 (Or.inr sz_b2)
  obtain ⟨clA, Ar_b2, qA, szA, nnA, HA, GA⟩ := V62
  have hin162 := inb_of szA hj
  have hat162 := HA.at hin162 hu
  obtain ⟨cq64, kq64, q64a, q64b, q64c⟩ := isOf hZ e62 (E_w63.keep K62)
  obtain ⟨_, _, ⟨T64, L64, k64, n64⟩, -, X64, ⟨Lc64, hQ64, l64, y64, z64⟩, st64⟩ := X62.virtualBack hx (y := (⟨"com/example/arvestus/arvestus/values/AccountRole", "isUnique", "()Z"⟩ : MethodName)) (z := (⟨"com/example/arvestus/arvestus/values/AccountRole", "isUnique", "()Z"⟩ : MethodName)) hown (mvT hZ (hw _ (List.mem_of_getElem? (i := 45) rfl))) (mvT hZ (hw _ (List.mem_of_getElem? (i := 46) rfl))) (notFace_of_selects (args := #[]) (mvT hZ (hw _ (List.mem_of_getElem? (i := 48) rfl)))) (mvT hZ (hw _ (List.mem_of_getElem? (i := 48) rfl))) (mvT hZ (hw _ (List.mem_of_getElem? (i := 47) rfl))) (by decide) (backOf (W := 0) (rm1_t l Z a0 hw [] w63 w60 h62 n0 (Nat.le_trans Z0 K62.1) (own_stk S_AVERAGE_RATE_POOL K62) hsel) hZ (hw _ (List.mem_of_getElem? (i := 49) rfl)) (hw _ (List.mem_of_getElem? (i := 3) rfl)) (by decide) (by decide)) q64a q64c (g := (mkF m 163 #[.val (.int p1), .val (.ref b2), .val (.int ((p1 &&& (2147483647 : Int32)) % (20 : Int32))), .val (.int (0 : Int32))] [(.ref w63)])) rfl (by rw [hml]; rfl) (Steps.refl _) (argsL := []) (rest := []) (lenOf pd_0_0_a rfl) rfl (by show 2 * 0 + _ ≤ _; exact Nat.le_of_eq rfl) (hb hby at_163) (fun _ _ => ⟨rfl, e62, (by decide : 1 + 0 ≤ _), (by decide : 20 + 0 ≤ _)⟩)
  dsimp only [Pt.U, Pt.locs, Pt.cells, Pt.slots] at X64 l64 y64 z64 st64 hQ64
  subst l64 y64 z64
  obtain ⟨rfl, N64q, hhx⟩ := hQ64
  have N64 := Fr.app N62 N64q
  obtain ⟨fs, hr, hrun, hended, hW, hsame⟩ := X64.leave (v := some (.int (1 : Int32))) (fun h => by rw [Bd.returns] at h; cases h)
  refine ⟨_, _, pre0 _ ?_, hrun, hended, _, _, rfl, ?_, ⟨_, rfl⟩, hW, hsame.mono (by decide) (by decide)⟩
  · show Steps p.tables e below (s₁.setTop (mkF m 0 #[.val (.int p1), .unset, .unset, .unset] [])) _
    refine XS.bipush X0.here hx rfl (hb hby at_0) ?_
    show Steps p.tables e below (s₁.setTop (mkF m 2 #[.val (.int p1), .unset, .unset, .unset] [(.int (20 : Int32))])) _
    refine st2 _ ?_
    show Steps p.tables e below (T2.setTop (mkF m 5 #[.val (.int p1), .unset, .unset, .unset] [(.ref b2)])) _
    refine XS.dup X2.here hx rfl (hb hby at_5) rfl rfl ?_
    show Steps p.tables e below (T2.setTop (mkF m 6 #[.val (.int p1), .unset, .unset, .unset] [(.ref b2), (.ref b2)])) _
    refine XS.iconst X2.here hx rfl (hb hby at_6) ?_
    show Steps p.tables e below (T2.setTop (mkF m 7 #[.val (.int p1), .unset, .unset, .unset] [(.int (0 : Int32)), (.ref b2), (.ref b2)])) _
    refine st4 _ ?_
    show Steps p.tables e below (T4.setTop (mkF m 10 #[.val (.int p1), .unset, .unset, .unset] [(.ref w3), (.int (0 : Int32)), (.ref b2), (.ref b2)])) _
    refine st5 _ ?_
    show Steps p.tables e below (T5.setTop (mkF m 11 #[.val (.int p1), .unset, .unset, .unset] [(.ref b2)])) _
    refine XS.dup X5.here hx rfl (hb hby at_11) rfl rfl ?_
    show Steps p.tables e below (T5.setTop (mkF m 12 #[.val (.int p1), .unset, .unset, .unset] [(.ref b2), (.ref b2)])) _
    refine XS.iconst X5.here hx rfl (hb hby at_12) ?_
    show Steps p.tables e below (T5.setTop (mkF m 13 #[.val (.int p1), .unset, .unset, .unset] [(.int (1 : Int32)), (.ref b2), (.ref b2)])) _
    refine st7 _ ?_
    show Steps p.tables e below (T7.setTop (mkF m 16 #[.val (.int p1), .unset, .unset, .unset] [(.ref w6), (.int (1 : Int32)), (.ref b2), (.ref b2)])) _
    refine st8 _ ?_
    show Steps p.tables e below (T8.setTop (mkF m 17 #[.val (.int p1), .unset, .unset, .unset] [(.ref b2)])) _
    refine XS.dup X8.here hx rfl (hb hby at_17) rfl rfl ?_
    show Steps p.tables e below (T8.setTop (mkF m 18 #[.val (.int p1), .unset, .unset, .unset] [(.ref b2), (.ref b2)])) _
    refine XS.iconst X8.here hx rfl (hb hby at_18) ?_
    show Steps p.tables e below (T8.setTop (mkF m 19 #[.val (.int p1), .unset, .unset, .unset] [(.int (2 : Int32)), (.ref b2), (.ref b2)])) _
    refine st10 _ ?_
    show Steps p.tables e below (T10.setTop (mkF m 22 #[.val (.int p1), .unset, .unset, .unset] [(.ref w9), (.int (2 : Int32)), (.ref b2), (.ref b2)])) _
    refine st11 _ ?_
    show Steps p.tables e below (T11.setTop (mkF m 23 #[.val (.int p1), .unset, .unset, .unset] [(.ref b2)])) _
    refine XS.dup X11.here hx rfl (hb hby at_23) rfl rfl ?_
    show Steps p.tables e below (T11.setTop (mkF m 24 #[.val (.int p1), .unset, .unset, .unset] [(.ref b2), (.ref b2)])) _
    refine XS.iconst X11.here hx rfl (hb hby at_24) ?_
    show Steps p.tables e below (T11.setTop (mkF m 25 #[.val (.int p1), .unset, .unset, .unset] [(.int (3 : Int32)), (.ref b2), (.ref b2)])) _
    refine st13 _ ?_
    show Steps p.tables e below (T13.setTop (mkF m 28 #[.val (.int p1), .unset, .unset, .unset] [(.ref w12), (.int (3 : Int32)), (.ref b2), (.ref b2)])) _
    refine st14 _ ?_
    show Steps p.tables e below (T14.setTop (mkF m 29 #[.val (.int p1), .unset, .unset, .unset] [(.ref b2)])) _
    refine XS.dup X14.here hx rfl (hb hby at_29) rfl rfl ?_
    show Steps p.tables e below (T14.setTop (mkF m 30 #[.val (.int p1), .unset, .unset, .unset] [(.ref b2), (.ref b2)])) _
    refine XS.iconst X14.here hx rfl (hb hby at_30) ?_
    show Steps p.tables e below (T14.setTop (mkF m 31 #[.val (.int p1), .unset, .unset, .unset] [(.int (4 : Int32)), (.ref b2), (.ref b2)])) _
    refine st16 _ ?_
    show Steps p.tables e below (T16.setTop (mkF m 34 #[.val (.int p1), .unset, .unset, .unset] [(.ref w15), (.int (4 : Int32)), (.ref b2), (.ref b2)])) _
    refine st17 _ ?_
    show Steps p.tables e below (T17.setTop (mkF m 35 #[.val (.int p1), .unset, .unset, .unset] [(.ref b2)])) _
    refine XS.dup X17.here hx rfl (hb hby at_35) rfl rfl ?_
    show Steps p.tables e below (T17.setTop (mkF m 36 #[.val (.int p1), .unset, .unset, .unset] [(.ref b2), (.ref b2)])) _
    refine XS.iconst X17.here hx rfl (hb hby at_36) ?_
    show Steps p.tables e below (T17.setTop (mkF m 37 #[.val (.int p1), .unset, .unset, .unset] [(.int (5 : Int32)), (.ref b2), (.ref b2)])) _
    refine st19 _ ?_
    show Steps p.tables e below (T19.setTop (mkF m 40 #[.val (.int p1), .unset, .unset, .unset] [(.ref w18), (.int (5 : Int32)), (.ref b2), (.ref b2)])) _
    refine st20 _ ?_
    show Steps p.tables e below (T20.setTop (mkF m 41 #[.val (.int p1), .unset, .unset, .unset] [(.ref b2)])) _
    refine XS.dup X20.here hx rfl (hb hby at_41) rfl rfl ?_
    show Steps p.tables e below (T20.setTop (mkF m 42 #[.val (.int p1), .unset, .unset, .unset] [(.ref b2), (.ref b2)])) _
    refine XS.bipush X20.here hx rfl (hb hby at_42) ?_
    show Steps p.tables e below (T20.setTop (mkF m 44 #[.val (.int p1), .unset, .unset, .unset] [(.int (6 : Int32)), (.ref b2), (.ref b2)])) _
    refine st22 _ ?_
    show Steps p.tables e below (T22.setTop (mkF m 47 #[.val (.int p1), .unset, .unset, .unset] [(.ref w21), (.int (6 : Int32)), (.ref b2), (.ref b2)])) _
    refine st23 _ ?_
    show Steps p.tables e below (T23.setTop (mkF m 48 #[.val (.int p1), .unset, .unset, .unset] [(.ref b2)])) _
    refine XS.dup X23.here hx rfl (hb hby at_48) rfl rfl ?_
    show Steps p.tables e below (T23.setTop (mkF m 49 #[.val (.int p1), .unset, .unset, .unset] [(.ref b2), (.ref b2)])) _
    refine XS.bipush X23.here hx rfl (hb hby at_49) ?_
    show Steps p.tables e below (T23.setTop (mkF m 51 #[.val (.int p1), .unset, .unset, .unset] [(.int (7 : Int32)), (.ref b2), (.ref b2)])) _
    refine st25 _ ?_
    show Steps p.tables e below (T25.setTop (mkF m 54 #[.val (.int p1), .unset, .unset, .unset] [(.ref w24), (.int (7 : Int32)), (.ref b2), (.ref b2)])) _
    refine st26 _ ?_
    show Steps p.tables e below (T26.setTop (mkF m 55 #[.val (.int p1), .unset, .unset, .unset] [(.ref b2)])) _
    refine XS.dup X26.here hx rfl (hb hby at_55) rfl rfl ?_
    show Steps p.tables e below (T26.setTop (mkF m 56 #[.val (.int p1), .unset, .unset, .unset] [(.ref b2), (.ref b2)])) _
    refine XS.bipush X26.here hx rfl (hb hby at_56) ?_
    show Steps p.tables e below (T26.setTop (mkF m 58 #[.val (.int p1), .unset, .unset, .unset] [(.int (8 : Int32)), (.ref b2), (.ref b2)])) _
    refine st28 _ ?_
    show Steps p.tables e below (T28.setTop (mkF m 61 #[.val (.int p1), .unset, .unset, .unset] [(.ref w27), (.int (8 : Int32)), (.ref b2), (.ref b2)])) _
    refine st29 _ ?_
    show Steps p.tables e below (T29.setTop (mkF m 62 #[.val (.int p1), .unset, .unset, .unset] [(.ref b2)])) _
    refine XS.dup X29.here hx rfl (hb hby at_62) rfl rfl ?_
    show Steps p.tables e below (T29.setTop (mkF m 63 #[.val (.int p1), .unset, .unset, .unset] [(.ref b2), (.ref b2)])) _
    refine XS.bipush X29.here hx rfl (hb hby at_63) ?_
    show Steps p.tables e below (T29.setTop (mkF m 65 #[.val (.int p1), .unset, .unset, .unset] [(.int (9 : Int32)), (.ref b2), (.ref b2)])) _
    refine st31 _ ?_
    show Steps p.tables e below (T31.setTop (mkF m 68 #[.val (.int p1), .unset, .unset, .unset] [(.ref w30), (.int (9 : Int32)), (.ref b2), (.ref b2)])) _
    refine st32 _ ?_
    show Steps p.tables e below (T32.setTop (mkF m 69 #[.val (.int p1), .unset, .unset, .unset] [(.ref b2)])) _
    refine XS.dup X32.here hx rfl (hb hby at_69) rfl rfl ?_
    show Steps p.tables e below (T32.setTop (mkF m 70 #[.val (.int p1), .unset, .unset, .unset] [(.ref b2), (.ref b2)])) _
    refine XS.bipush X32.here hx rfl (hb hby at_70) ?_
    show Steps p.tables e below (T32.setTop (mkF m 72 #[.val (.int p1), .unset, .unset, .unset] [(.int (10 : Int32)), (.ref b2), (.ref b2)])) _
    refine st34 _ ?_
    show Steps p.tables e below (T34.setTop (mkF m 75 #[.val (.int p1), .unset, .unset, .unset] [(.ref w33), (.int (10 : Int32)), (.ref b2), (.ref b2)])) _
    refine st35 _ ?_
    show Steps p.tables e below (T35.setTop (mkF m 76 #[.val (.int p1), .unset, .unset, .unset] [(.ref b2)])) _
    refine XS.dup X35.here hx rfl (hb hby at_76) rfl rfl ?_
    show Steps p.tables e below (T35.setTop (mkF m 77 #[.val (.int p1), .unset, .unset, .unset] [(.ref b2), (.ref b2)])) _
    refine XS.bipush X35.here hx rfl (hb hby at_77) ?_
    show Steps p.tables e below (T35.setTop (mkF m 79 #[.val (.int p1), .unset, .unset, .unset] [(.int (11 : Int32)), (.ref b2), (.ref b2)])) _
    refine st37 _ ?_
    show Steps p.tables e below (T37.setTop (mkF m 82 #[.val (.int p1), .unset, .unset, .unset] [(.ref w36), (.int (11 : Int32)), (.ref b2), (.ref b2)])) _
    refine st38 _ ?_
    show Steps p.tables e below (T38.setTop (mkF m 83 #[.val (.int p1), .unset, .unset, .unset] [(.ref b2)])) _
    refine XS.dup X38.here hx rfl (hb hby at_83) rfl rfl ?_
    show Steps p.tables e below (T38.setTop (mkF m 84 #[.val (.int p1), .unset, .unset, .unset] [(.ref b2), (.ref b2)])) _
    refine XS.bipush X38.here hx rfl (hb hby at_84) ?_
    show Steps p.tables e below (T38.setTop (mkF m 86 #[.val (.int p1), .unset, .unset, .unset] [(.int (12 : Int32)), (.ref b2), (.ref b2)])) _
    refine st40 _ ?_
    show Steps p.tables e below (T40.setTop (mkF m 89 #[.val (.int p1), .unset, .unset, .unset] [(.ref w39), (.int (12 : Int32)), (.ref b2), (.ref b2)])) _
    refine st41 _ ?_
    show Steps p.tables e below (T41.setTop (mkF m 90 #[.val (.int p1), .unset, .unset, .unset] [(.ref b2)])) _
    refine XS.dup X41.here hx rfl (hb hby at_90) rfl rfl ?_
    show Steps p.tables e below (T41.setTop (mkF m 91 #[.val (.int p1), .unset, .unset, .unset] [(.ref b2), (.ref b2)])) _
    refine XS.bipush X41.here hx rfl (hb hby at_91) ?_
    show Steps p.tables e below (T41.setTop (mkF m 93 #[.val (.int p1), .unset, .unset, .unset] [(.int (13 : Int32)), (.ref b2), (.ref b2)])) _
    refine st43 _ ?_
    show Steps p.tables e below (T43.setTop (mkF m 96 #[.val (.int p1), .unset, .unset, .unset] [(.ref w42), (.int (13 : Int32)), (.ref b2), (.ref b2)])) _
    refine st44 _ ?_
    show Steps p.tables e below (T44.setTop (mkF m 97 #[.val (.int p1), .unset, .unset, .unset] [(.ref b2)])) _
    refine XS.dup X44.here hx rfl (hb hby at_97) rfl rfl ?_
    show Steps p.tables e below (T44.setTop (mkF m 98 #[.val (.int p1), .unset, .unset, .unset] [(.ref b2), (.ref b2)])) _
    refine XS.bipush X44.here hx rfl (hb hby at_98) ?_
    show Steps p.tables e below (T44.setTop (mkF m 100 #[.val (.int p1), .unset, .unset, .unset] [(.int (14 : Int32)), (.ref b2), (.ref b2)])) _
    refine st46 _ ?_
    show Steps p.tables e below (T46.setTop (mkF m 103 #[.val (.int p1), .unset, .unset, .unset] [(.ref w45), (.int (14 : Int32)), (.ref b2), (.ref b2)])) _
    refine st47 _ ?_
    show Steps p.tables e below (T47.setTop (mkF m 104 #[.val (.int p1), .unset, .unset, .unset] [(.ref b2)])) _
    refine XS.dup X47.here hx rfl (hb hby at_104) rfl rfl ?_
    show Steps p.tables e below (T47.setTop (mkF m 105 #[.val (.int p1), .unset, .unset, .unset] [(.ref b2), (.ref b2)])) _
    refine XS.bipush X47.here hx rfl (hb hby at_105) ?_
    show Steps p.tables e below (T47.setTop (mkF m 107 #[.val (.int p1), .unset, .unset, .unset] [(.int (15 : Int32)), (.ref b2), (.ref b2)])) _
    refine st49 _ ?_
    show Steps p.tables e below (T49.setTop (mkF m 110 #[.val (.int p1), .unset, .unset, .unset] [(.ref w48), (.int (15 : Int32)), (.ref b2), (.ref b2)])) _
    refine st50 _ ?_
    show Steps p.tables e below (T50.setTop (mkF m 111 #[.val (.int p1), .unset, .unset, .unset] [(.ref b2)])) _
    refine XS.dup X50.here hx rfl (hb hby at_111) rfl rfl ?_
    show Steps p.tables e below (T50.setTop (mkF m 112 #[.val (.int p1), .unset, .unset, .unset] [(.ref b2), (.ref b2)])) _
    refine XS.bipush X50.here hx rfl (hb hby at_112) ?_
    show Steps p.tables e below (T50.setTop (mkF m 114 #[.val (.int p1), .unset, .unset, .unset] [(.int (16 : Int32)), (.ref b2), (.ref b2)])) _
    refine st52 _ ?_
    show Steps p.tables e below (T52.setTop (mkF m 117 #[.val (.int p1), .unset, .unset, .unset] [(.ref w51), (.int (16 : Int32)), (.ref b2), (.ref b2)])) _
    refine st53 _ ?_
    show Steps p.tables e below (T53.setTop (mkF m 118 #[.val (.int p1), .unset, .unset, .unset] [(.ref b2)])) _
    refine XS.dup X53.here hx rfl (hb hby at_118) rfl rfl ?_
    show Steps p.tables e below (T53.setTop (mkF m 119 #[.val (.int p1), .unset, .unset, .unset] [(.ref b2), (.ref b2)])) _
    refine XS.bipush X53.here hx rfl (hb hby at_119) ?_
    show Steps p.tables e below (T53.setTop (mkF m 121 #[.val (.int p1), .unset, .unset, .unset] [(.int (17 : Int32)), (.ref b2), (.ref b2)])) _
    refine st55 _ ?_
    show Steps p.tables e below (T55.setTop (mkF m 124 #[.val (.int p1), .unset, .unset, .unset] [(.ref w54), (.int (17 : Int32)), (.ref b2), (.ref b2)])) _
    refine st56 _ ?_
    show Steps p.tables e below (T56.setTop (mkF m 125 #[.val (.int p1), .unset, .unset, .unset] [(.ref b2)])) _
    refine XS.dup X56.here hx rfl (hb hby at_125) rfl rfl ?_
    show Steps p.tables e below (T56.setTop (mkF m 126 #[.val (.int p1), .unset, .unset, .unset] [(.ref b2), (.ref b2)])) _
    refine XS.bipush X56.here hx rfl (hb hby at_126) ?_
    show Steps p.tables e below (T56.setTop (mkF m 128 #[.val (.int p1), .unset, .unset, .unset] [(.int (18 : Int32)), (.ref b2), (.ref b2)])) _
    refine st58 _ ?_
    show Steps p.tables e below (T58.setTop (mkF m 131 #[.val (.int p1), .unset, .unset, .unset] [(.ref w57), (.int (18 : Int32)), (.ref b2), (.ref b2)])) _
    refine st59 _ ?_
    show Steps p.tables e below (T59.setTop (mkF m 132 #[.val (.int p1), .unset, .unset, .unset] [(.ref b2)])) _
    refine XS.dup X59.here hx rfl (hb hby at_132) rfl rfl ?_
    show Steps p.tables e below (T59.setTop (mkF m 133 #[.val (.int p1), .unset, .unset, .unset] [(.ref b2), (.ref b2)])) _
    refine XS.bipush X59.here hx rfl (hb hby at_133) ?_
    show Steps p.tables e below (T59.setTop (mkF m 135 #[.val (.int p1), .unset, .unset, .unset] [(.int (19 : Int32)), (.ref b2), (.ref b2)])) _
    refine st61 _ ?_
    show Steps p.tables e below (T61.setTop (mkF m 138 #[.val (.int p1), .unset, .unset, .unset] [(.ref w60), (.int (19 : Int32)), (.ref b2), (.ref b2)])) _
    refine st62 _ ?_
    show Steps p.tables e below (T62.setTop (mkF m 139 #[.val (.int p1), .unset, .unset, .unset] [(.ref b2)])) _
    refine XS.astoreN X62.here hx rfl (hb hby at_139) rfl rfl (l' := #[.val (.int p1), .val (.ref b2), .unset, .unset]) rfl ?_
    show Steps p.tables e below (T62.setTop (mkF m 140 #[.val (.int p1), .val (.ref b2), .unset, .unset] [])) _
    refine XS.iloadN X62.here hx rfl (hb hby at_140) rfl ?_
    show Steps p.tables e below (T62.setTop (mkF m 141 #[.val (.int p1), .val (.ref b2), .unset, .unset] [(.int p1)])) _
    refine X62.ldcInt hx hown (mvT hZ (hw _ (List.mem_of_getElem? (i := 44) rfl))) (g := (mkF m 141 #[.val (.int p1), .val (.ref b2), .unset, .unset] [(.int p1)])) rfl (hb hby at_141) _ ?_
    show Steps p.tables e below (T62.setTop (mkF m 143 #[.val (.int p1), .val (.ref b2), .unset, .unset] [(.int (2147483647 : Int32)), (.int p1)])) _
    refine XS.iand X62.here hx rfl (hb hby at_143) rfl ?_
    show Steps p.tables e below (T62.setTop (mkF m 144 #[.val (.int p1), .val (.ref b2), .unset, .unset] [(.int (p1 &&& (2147483647 : Int32)))])) _
    refine XS.bipush X62.here hx rfl (hb hby at_144) ?_
    show Steps p.tables e below (T62.setTop (mkF m 146 #[.val (.int p1), .val (.ref b2), .unset, .unset] [(.int (20 : Int32)), (.int (p1 &&& (2147483647 : Int32)))])) _
    refine Jvm.RoadKit.iremM (g := (mkF m 146 #[.val (.int p1), .val (.ref b2), .unset, .unset] [(.int (20 : Int32)), (.int (p1 &&& (2147483647 : Int32)))])) X62 hx rfl (hb hby at_146) rfl (by decide) ?_
    show Steps p.tables e below (T62.setTop (mkF m 147 #[.val (.int p1), .val (.ref b2), .unset, .unset] [(.int ((p1 &&& (2147483647 : Int32)) % (20 : Int32)))])) _
    refine XS.istoreN X62.here hx rfl (hb hby at_147) rfl (l' := #[.val (.int p1), .val (.ref b2), .val (.int ((p1 &&& (2147483647 : Int32)) % (20 : Int32))), .unset]) rfl ?_
    show Steps p.tables e below (T62.setTop (mkF m 148 #[.val (.int p1), .val (.ref b2), .val (.int ((p1 &&& (2147483647 : Int32)) % (20 : Int32))), .unset] [])) _
    refine XS.iloadN X62.here hx rfl (hb hby at_148) rfl ?_
    show Steps p.tables e below (T62.setTop (mkF m 149 #[.val (.int p1), .val (.ref b2), .val (.int ((p1 &&& (2147483647 : Int32)) % (20 : Int32))), .unset] [(.int ((p1 &&& (2147483647 : Int32)) % (20 : Int32)))])) _
    refine XS.bipush X62.here hx rfl (hb hby at_149) ?_
    show Steps p.tables e below (T62.setTop (mkF m 151 #[.val (.int p1), .val (.ref b2), .val (.int ((p1 &&& (2147483647 : Int32)) % (20 : Int32))), .unset] [(.int (19 : Int32)), (.int ((p1 &&& (2147483647 : Int32)) % (20 : Int32)))])) _
    refine XS.icmpYes X62.here hx rfl (pc0 := 151) (pc' := 158) rfl (hb hby at_151) rfl (teq hc151).1 (by decide) (by decide) ?_
    show Steps p.tables e below (T62.setTop (mkF m 158 #[.val (.int p1), .val (.ref b2), .val (.int ((p1 &&& (2147483647 : Int32)) % (20 : Int32))), .unset] [])) _
    refine XS.iconst X62.here hx rfl (hb hby at_158) ?_
    show Steps p.tables e below (T62.setTop (mkF m 159 #[.val (.int p1), .val (.ref b2), .val (.int ((p1 &&& (2147483647 : Int32)) % (20 : Int32))), .unset] [(.int (0 : Int32))])) _
    refine XS.istoreN X62.here hx rfl (hb hby at_159) rfl (l' := #[.val (.int p1), .val (.ref b2), .val (.int ((p1 &&& (2147483647 : Int32)) % (20 : Int32))), .val (.int (0 : Int32))]) rfl ?_
    show Steps p.tables e below (T62.setTop (mkF m 160 #[.val (.int p1), .val (.ref b2), .val (.int ((p1 &&& (2147483647 : Int32)) % (20 : Int32))), .val (.int (0 : Int32))] [])) _
    refine XS.aloadN X62.here hx rfl (hb hby at_160) rfl rfl ?_
    show Steps p.tables e below (T62.setTop (mkF m 161 #[.val (.int p1), .val (.ref b2), .val (.int ((p1 &&& (2147483647 : Int32)) % (20 : Int32))), .val (.int (0 : Int32))] [(.ref b2)])) _
    refine XS.iloadN X62.here hx rfl (hb hby at_161) rfl ?_
    show Steps p.tables e below (T62.setTop (mkF m 162 #[.val (.int p1), .val (.ref b2), .val (.int ((p1 &&& (2147483647 : Int32)) % (20 : Int32))), .val (.int (0 : Int32))] [(.int ((p1 &&& (2147483647 : Int32)) % (20 : Int32))), (.ref b2)])) _
    refine X62.aaload hx (j := ((p1 &&& (2147483647 : Int32)) % (20 : Int32))) (v := (.ref w63)) (by rw [e62]; exact Ar_b2.1) (State.isArrayOf_alike hZ.alike Ar_b2.2.1) rfl Ar_b2.2.2 hin162 hat162 (g := (mkF m 162 #[.val (.int p1), .val (.ref b2), .val (.int ((p1 &&& (2147483647 : Int32)) % (20 : Int32))), .val (.int (0 : Int32))] [(.int ((p1 &&& (2147483647 : Int32)) % (20 : Int32))), (.ref b2)])) rfl rfl (hb hby at_162) _ ?_
    show Steps p.tables e below (T62.setTop (mkF m 163 #[.val (.int p1), .val (.ref b2), .val (.int ((p1 &&& (2147483647 : Int32)) % (20 : Int32))), .val (.int (0 : Int32))] [(.ref w63)])) _
    refine st64.trans ?_
    show Steps p.tables e below (T64.setTop (mkF m 166 #[.val (.int p1), .val (.ref b2), .val (.int ((p1 &&& (2147483647 : Int32)) % (20 : Int32))), .val (.int (0 : Int32))] [(.int (0 : Int32))])) _
    refine XS.iloadN X64.here hx rfl (hb hby at_166) rfl ?_
    show Steps p.tables e below (T64.setTop (mkF m 167 #[.val (.int p1), .val (.ref b2), .val (.int ((p1 &&& (2147483647 : Int32)) % (20 : Int32))), .val (.int (0 : Int32))] [(.int (0 : Int32)), (.int (0 : Int32))])) _
    refine XS.icmpNo X64.here hx rfl (hb hby at_167) rfl (teq (rfl : (0 : Int32) = (0 : Int32))).2 ?_
    show Steps p.tables e below (T64.setTop (mkF m 170 #[.val (.int p1), .val (.ref b2), .val (.int ((p1 &&& (2147483647 : Int32)) % (20 : Int32))), .val (.int (0 : Int32))] [])) _
    refine XS.iconst X64.here hx rfl (hb hby at_170) ?_
    show Steps p.tables e below (T64.setTop (mkF m 171 #[.val (.int p1), .val (.ref b2), .val (.int ((p1 &&& (2147483647 : Int32)) % (20 : Int32))), .val (.int (0 : Int32))] [(.int (1 : Int32))])) _
    refine XS.goto X64.here hx rfl (pc0 := 171) (pc' := 175) rfl (hb hby at_171) (by decide) (by decide) ?_
    show Steps p.tables e below (T64.setTop (mkF m 175 #[.val (.int p1), .val (.ref b2), .val (.int ((p1 &&& (2147483647 : Int32)) % (20 : Int32))), .val (.int (0 : Int32))] [(.int (1 : Int32))])) _
    exact retN X64 hx (t := .boolean) Bd.returns (by simp) (hb hby at_175) hr
  · show Q0_b Z p1 w3 w6 w9 w12 w15 w18 w21 w24 w27 w30 w33 w36 w39 w42 w45 w48 w51 w54 w57 w60 w63 h0 n0 _ T64.heap _
    exact ⟨rfl, N64⟩
theorem own_choice {Z : State} {h : Heap} {K : String} (a0 : Addr) (a1 : Addr) (a2 : Addr) (a3 : Addr) (a4 : Addr) (a5 : Addr) (a6 : Addr) (a7 : Addr) (a8 : Addr) (a9 : Addr) (a10 : Addr) (a11 : Addr) (a12 : Addr) (a13 : Addr) (a14 : Addr) (a15 : Addr) (a16 : Addr) (a17 : Addr) (a18 : Addr) (a19 : Addr) (E0 : Exa Z h a0 K) (E1 : Exa Z h a1 K) (E2 : Exa Z h a2 K) (E3 : Exa Z h a3 K) (E4 : Exa Z h a4 K) (E5 : Exa Z h a5 K) (E6 : Exa Z h a6 K) (E7 : Exa Z h a7 K) (E8 : Exa Z h a8 K) (E9 : Exa Z h a9 K) (E10 : Exa Z h a10 K) (E11 : Exa Z h a11 K) (E12 : Exa Z h a12 K) (E13 : Exa Z h a13 K) (E14 : Exa Z h a14 K) (E15 : Exa Z h a15 K) (E16 : Exa Z h a16 K) (E17 : Exa Z h a17 K) (E18 : Exa Z h a18 K) (E19 : Exa Z h a19 K) (N0 : ¬ (a0 = a19)) (N1 : ¬ (a1 = a19)) (N2 : ¬ (a2 = a19)) (N3 : ¬ (a3 = a19)) (N4 : ¬ (a4 = a19)) (N5 : ¬ (a5 = a19)) (N6 : ¬ (a6 = a19)) (N7 : ¬ (a7 = a19)) (N8 : ¬ (a8 = a19)) (N9 : ¬ (a9 = a19)) (N10 : ¬ (a10 = a19)) (N11 : ¬ (a11 = a19)) (N12 : ¬ (a12 = a19)) (N13 : ¬ (a13 = a19)) (N14 : ¬ (a14 = a19)) (N15 : ¬ (a15 = a19)) (N16 : ¬ (a16 = a19)) (N17 : ¬ (a17 = a19)) (N18 : ¬ (a18 = a19)) {n : Nat} (hn : n < 20) : ∃ y, ([.ref a0, .ref a1, .ref a2, .ref a3, .ref a4, .ref a5, .ref a6, .ref a7, .ref a8, .ref a9, .ref a10, .ref a11, .ref a12, .ref a13, .ref a14, .ref a15, .ref a16, .ref a17, .ref a18, .ref a19] : List Value).getD n .null = .ref y ∧ Exa Z h y K ∧ (n ≠ 19 → ¬ (y = a19)) ∧ (n = 19 → y = a19) := by
  match n, hn with
  | 0, _ => exact ⟨a0, rfl, E0, fun _ => N0, fun q => absurd q (by decide)⟩
  | 1, _ => exact ⟨a1, rfl, E1, fun _ => N1, fun q => absurd q (by decide)⟩
  | 2, _ => exact ⟨a2, rfl, E2, fun _ => N2, fun q => absurd q (by decide)⟩
  | 3, _ => exact ⟨a3, rfl, E3, fun _ => N3, fun q => absurd q (by decide)⟩
  | 4, _ => exact ⟨a4, rfl, E4, fun _ => N4, fun q => absurd q (by decide)⟩
  | 5, _ => exact ⟨a5, rfl, E5, fun _ => N5, fun q => absurd q (by decide)⟩
  | 6, _ => exact ⟨a6, rfl, E6, fun _ => N6, fun q => absurd q (by decide)⟩
  | 7, _ => exact ⟨a7, rfl, E7, fun _ => N7, fun q => absurd q (by decide)⟩
  | 8, _ => exact ⟨a8, rfl, E8, fun _ => N8, fun q => absurd q (by decide)⟩
  | 9, _ => exact ⟨a9, rfl, E9, fun _ => N9, fun q => absurd q (by decide)⟩
  | 10, _ => exact ⟨a10, rfl, E10, fun _ => N10, fun q => absurd q (by decide)⟩
  | 11, _ => exact ⟨a11, rfl, E11, fun _ => N11, fun q => absurd q (by decide)⟩
  | 12, _ => exact ⟨a12, rfl, E12, fun _ => N12, fun q => absurd q (by decide)⟩
  | 13, _ => exact ⟨a13, rfl, E13, fun _ => N13, fun q => absurd q (by decide)⟩
  | 14, _ => exact ⟨a14, rfl, E14, fun _ => N14, fun q => absurd q (by decide)⟩
  | 15, _ => exact ⟨a15, rfl, E15, fun _ => N15, fun q => absurd q (by decide)⟩
  | 16, _ => exact ⟨a16, rfl, E16, fun _ => N16, fun q => absurd q (by decide)⟩
  | 17, _ => exact ⟨a17, rfl, E17, fun _ => N17, fun q => absurd q (by decide)⟩
  | 18, _ => exact ⟨a18, rfl, E18, fun _ => N18, fun q => absurd q (by decide)⟩
  | 19, _ => exact ⟨a19, rfl, E19, fun q => absurd rfl q, fun _ => rfl⟩
  | n + 20, hn => exact absurd hn (by omega)
set_option maxRecDepth 65536 in
set_option maxHeartbeats 40000000 in
theorem comes_1 {Post : Tables → Env → Array Value → State → Outcome → State → Prop} (hpost : ∀ tb e args s v u, (limb_1_1.after args s (.returned v) u = true ∧ limb_1_2.after args s (.returned v) u = true ∧ True) → FrameEnd s (.returned v) u (Jvm.fieldLocs frame_1_writes args s ++ Jvm.arrayLocs frame_1_arrays args s ++ Jvm.staticLocs frame_1_statics s) 16 128 → Post tb e args s (.returned v) u) :
    ArmFor flags0 classFile x code maxLocals ret World_1 tables_1 room_1 Calls_1 rest_1 Pre_1 Post := by
  intro l hfl _ _ p e ha hc hk s m args below hf hA hF happ hP
  obtain ⟨hcalls, hrest, hpre⟩ := hP
  obtain ⟨-, -, -, hnamed, -, -, -, hat⟩ := (Spec.applies_iff hf).mp happ
  obtain ⟨hg, hn⟩ := and_e (Cond.before_iff.mp (show (Jvm.Cond.and given_1 narrow_1).before args s = true from hpre))
  obtain ⟨g65, g66⟩ := and_e hg
  obtain ⟨w0, rfl⟩ : ∃ w0 : Value, args = #[w0] := by
    have hs : args.size = 1 := by simpa [Cond.value, given_1] using g65
    obtain ⟨L⟩ := args
    match L, hs with
    | [w0], _ => exact ⟨w0, rfl⟩
  have hw := fun d (hd : d ∈ tables_1) => atoms_spec (ws := Jvm.Cond.code x code maxLocals ret :: tables_1) hat d (List.mem_cons_of_mem _ hd)
  have hfit : Fit s := fun {y c} hc i hi => by
    obtain ⟨ha, rfl⟩ := Array.getElem?_eq_some_iff.mp hc
    have q := List.all_eq_true.mp ((Array.all_eq_true_iff_forall_mem.mp hF) _ (Array.getElem_mem ha)) i (List.mem_range.mpr hi)
    simpa [Array.getElem?_eq_getElem hi] using q
  obtain ⟨i0, ei0⟩ := is_v g66
  obtain rfl : w0 = (.int i0) := Option.some.inj ei0
  obtain ⟨pn0, hn⟩ := and_e hn
  obtain ⟨pn1, hn⟩ := and_e hn
  obtain ⟨pn2, hn⟩ := and_e hn
  obtain ⟨pn3, hn⟩ := and_e hn
  obtain ⟨pn4, hn⟩ := and_e hn
  obtain ⟨pn5, hn⟩ := and_e hn
  obtain ⟨pn6, hn⟩ := and_e hn
  obtain ⟨pn7, hn⟩ := and_e hn
  obtain ⟨pn8, hn⟩ := and_e hn
  obtain ⟨pn9, hn⟩ := and_e hn
  obtain ⟨pn10, hn⟩ := and_e hn
  obtain ⟨pn11, hn⟩ := and_e hn
  obtain ⟨pn12, hn⟩ := and_e hn
  obtain ⟨pn13, hn⟩ := and_e hn
  obtain ⟨pn14, hn⟩ := and_e hn
  obtain ⟨pn15, hn⟩ := and_e hn
  obtain ⟨pn16, hn⟩ := and_e hn
  obtain ⟨pn17, hn⟩ := and_e hn
  obtain ⟨pn18, hn⟩ := and_e hn
  obtain ⟨pn19, hn⟩ := and_e hn
  obtain ⟨pn20, hn⟩ := and_e hn
  obtain ⟨pn21, hn⟩ := and_e hn
  obtain ⟨pn22, hn⟩ := and_e hn
  obtain ⟨pn23, hn⟩ := and_e hn
  obtain ⟨pn24, hn⟩ := and_e hn
  obtain ⟨pn25, hn⟩ := and_e hn
  obtain ⟨pn26, hn⟩ := and_e hn
  obtain ⟨pn27, hn⟩ := and_e hn
  obtain ⟨pn28, hn⟩ := and_e hn
  obtain ⟨pn29, hn⟩ := and_e hn
  obtain ⟨pn30, hn⟩ := and_e hn
  obtain ⟨pn31, hn⟩ := and_e hn
  obtain ⟨pn32, hn⟩ := and_e hn
  obtain ⟨pn33, hn⟩ := and_e hn
  obtain ⟨pn34, hn⟩ := and_e hn
  obtain ⟨pn35, hn⟩ := and_e hn
  obtain ⟨pn36, hn⟩ := and_e hn
  obtain ⟨pn37, hn⟩ := and_e hn
  obtain ⟨pn38, hn⟩ := and_e hn
  have pn39 := hn
  obtain ⟨a_RECEIVABLES, v_RECEIVABLES, S_RECEIVABLES, E_RECEIVABLES⟩ := own_pin pn0 (hw _ (List.mem_of_getElem? (i := 3) rfl)) (hw _ (List.mem_of_getElem? (i := 4) rfl))
  obtain ⟨a_PAYABLES, v_PAYABLES, S_PAYABLES, E_PAYABLES⟩ := own_pin pn1 (hw _ (List.mem_of_getElem? (i := 3) rfl)) (hw _ (List.mem_of_getElem? (i := 7) rfl))
  obtain ⟨a_CUSTOMER_PREPAYMENTS, v_CUSTOMER_PREPAYMENTS, S_CUSTOMER_PREPAYMENTS, E_CUSTOMER_PREPAYMENTS⟩ := own_pin pn2 (hw _ (List.mem_of_getElem? (i := 3) rfl)) (hw _ (List.mem_of_getElem? (i := 9) rfl))
  obtain ⟨a_SUPPLIER_PREPAYMENTS, v_SUPPLIER_PREPAYMENTS, S_SUPPLIER_PREPAYMENTS, E_SUPPLIER_PREPAYMENTS⟩ := own_pin pn3 (hw _ (List.mem_of_getElem? (i := 3) rfl)) (hw _ (List.mem_of_getElem? (i := 11) rfl))
  obtain ⟨a_FX_GAIN_TRADE, v_FX_GAIN_TRADE, S_FX_GAIN_TRADE, E_FX_GAIN_TRADE⟩ := own_pin pn4 (hw _ (List.mem_of_getElem? (i := 3) rfl)) (hw _ (List.mem_of_getElem? (i := 13) rfl))
  obtain ⟨a_FX_LOSS_TRADE, v_FX_LOSS_TRADE, S_FX_LOSS_TRADE, E_FX_LOSS_TRADE⟩ := own_pin pn5 (hw _ (List.mem_of_getElem? (i := 3) rfl)) (hw _ (List.mem_of_getElem? (i := 15) rfl))
  obtain ⟨a_FX_GAIN_SETTLEMENT, v_FX_GAIN_SETTLEMENT, S_FX_GAIN_SETTLEMENT, E_FX_GAIN_SETTLEMENT⟩ := own_pin pn6 (hw _ (List.mem_of_getElem? (i := 3) rfl)) (hw _ (List.mem_of_getElem? (i := 17) rfl))
  obtain ⟨a_FX_LOSS_SETTLEMENT, v_FX_LOSS_SETTLEMENT, S_FX_LOSS_SETTLEMENT, E_FX_LOSS_SETTLEMENT⟩ := own_pin pn7 (hw _ (List.mem_of_getElem? (i := 3) rfl)) (hw _ (List.mem_of_getElem? (i := 19) rfl))
  obtain ⟨a_FX_UNREALISED_GAIN, v_FX_UNREALISED_GAIN, S_FX_UNREALISED_GAIN, E_FX_UNREALISED_GAIN⟩ := own_pin pn8 (hw _ (List.mem_of_getElem? (i := 3) rfl)) (hw _ (List.mem_of_getElem? (i := 21) rfl))
  obtain ⟨a_FX_UNREALISED_LOSS, v_FX_UNREALISED_LOSS, S_FX_UNREALISED_LOSS, E_FX_UNREALISED_LOSS⟩ := own_pin pn9 (hw _ (List.mem_of_getElem? (i := 3) rfl)) (hw _ (List.mem_of_getElem? (i := 23) rfl))
  obtain ⟨a_FX_GAIN_REVALUATION, v_FX_GAIN_REVALUATION, S_FX_GAIN_REVALUATION, E_FX_GAIN_REVALUATION⟩ := own_pin pn10 (hw _ (List.mem_of_getElem? (i := 3) rfl)) (hw _ (List.mem_of_getElem? (i := 25) rfl))
  obtain ⟨a_FX_LOSS_REVALUATION, v_FX_LOSS_REVALUATION, S_FX_LOSS_REVALUATION, E_FX_LOSS_REVALUATION⟩ := own_pin pn11 (hw _ (List.mem_of_getElem? (i := 3) rfl)) (hw _ (List.mem_of_getElem? (i := 27) rfl))
  obtain ⟨a_ROUNDING_INCOME, v_ROUNDING_INCOME, S_ROUNDING_INCOME, E_ROUNDING_INCOME⟩ := own_pin pn12 (hw _ (List.mem_of_getElem? (i := 3) rfl)) (hw _ (List.mem_of_getElem? (i := 29) rfl))
  obtain ⟨a_ROUNDING_COST, v_ROUNDING_COST, S_ROUNDING_COST, E_ROUNDING_COST⟩ := own_pin pn13 (hw _ (List.mem_of_getElem? (i := 3) rfl)) (hw _ (List.mem_of_getElem? (i := 31) rfl))
  obtain ⟨a_REVALUATION_CLEARING, v_REVALUATION_CLEARING, S_REVALUATION_CLEARING, E_REVALUATION_CLEARING⟩ := own_pin pn14 (hw _ (List.mem_of_getElem? (i := 3) rfl)) (hw _ (List.mem_of_getElem? (i := 33) rfl))
  obtain ⟨a_VAT_OUTPUT, v_VAT_OUTPUT, S_VAT_OUTPUT, E_VAT_OUTPUT⟩ := own_pin pn15 (hw _ (List.mem_of_getElem? (i := 3) rfl)) (hw _ (List.mem_of_getElem? (i := 35) rfl))
  obtain ⟨a_VAT_INPUT, v_VAT_INPUT, S_VAT_INPUT, E_VAT_INPUT⟩ := own_pin pn16 (hw _ (List.mem_of_getElem? (i := 3) rfl)) (hw _ (List.mem_of_getElem? (i := 37) rfl))
  obtain ⟨a_VAT_OUTPUT_PREPAYMENTS, v_VAT_OUTPUT_PREPAYMENTS, S_VAT_OUTPUT_PREPAYMENTS, E_VAT_OUTPUT_PREPAYMENTS⟩ := own_pin pn17 (hw _ (List.mem_of_getElem? (i := 3) rfl)) (hw _ (List.mem_of_getElem? (i := 39) rfl))
  obtain ⟨a_VAT_INPUT_PREPAYMENTS, v_VAT_INPUT_PREPAYMENTS, S_VAT_INPUT_PREPAYMENTS, E_VAT_INPUT_PREPAYMENTS⟩ := own_pin pn18 (hw _ (List.mem_of_getElem? (i := 3) rfl)) (hw _ (List.mem_of_getElem? (i := 41) rfl))
  obtain ⟨a_AVERAGE_RATE_POOL, v_AVERAGE_RATE_POOL, S_AVERAGE_RATE_POOL, E_AVERAGE_RATE_POOL⟩ := own_pin pn19 (hw _ (List.mem_of_getElem? (i := 3) rfl)) (hw _ (List.mem_of_getElem? (i := 43) rfl))
  have f_RECEIVABLES := own_fld v_RECEIVABLES pn20
  have f_AVERAGE_RATE_POOL := own_fld v_AVERAGE_RATE_POOL pn21
  have f_SUPPLIER_PREPAYMENTS := own_fld v_SUPPLIER_PREPAYMENTS pn22
  have f_FX_GAIN_REVALUATION := own_fld v_FX_GAIN_REVALUATION pn23
  have f_FX_LOSS_REVALUATION := own_fld v_FX_LOSS_REVALUATION pn24
  have f_REVALUATION_CLEARING := own_fld v_REVALUATION_CLEARING pn25
  have f_FX_LOSS_SETTLEMENT := own_fld v_FX_LOSS_SETTLEMENT pn26
  have f_CUSTOMER_PREPAYMENTS := own_fld v_CUSTOMER_PREPAYMENTS pn27
  have f_FX_UNREALISED_GAIN := own_fld v_FX_UNREALISED_GAIN pn28
  have f_PAYABLES := own_fld v_PAYABLES pn29
  have f_VAT_OUTPUT := own_fld v_VAT_OUTPUT pn30
  have f_FX_GAIN_SETTLEMENT := own_fld v_FX_GAIN_SETTLEMENT pn31
  have f_VAT_OUTPUT_PREPAYMENTS := own_fld v_VAT_OUTPUT_PREPAYMENTS pn32
  have f_VAT_INPUT := own_fld v_VAT_INPUT pn33
  have f_ROUNDING_INCOME := own_fld v_ROUNDING_INCOME pn34
  have f_FX_LOSS_TRADE := own_fld v_FX_LOSS_TRADE pn35
  have f_FX_GAIN_TRADE := own_fld v_FX_GAIN_TRADE pn36
  have f_FX_UNREALISED_LOSS := own_fld v_FX_UNREALISED_LOSS pn37
  have f_ROUNDING_COST := own_fld v_ROUNDING_COST pn38
  have f_VAT_INPUT_PREPAYMENTS := own_fld v_VAT_INPUT_PREPAYMENTS pn39
  have hj := own_idx i0
  obtain ⟨hlt, h19⟩ := own_clamp hj
  obtain ⟨y, hu, E_y, hy1, hy2⟩ := own_choice a_RECEIVABLES a_PAYABLES a_CUSTOMER_PREPAYMENTS a_SUPPLIER_PREPAYMENTS a_FX_GAIN_TRADE a_FX_LOSS_TRADE a_FX_GAIN_SETTLEMENT a_FX_LOSS_SETTLEMENT a_FX_UNREALISED_GAIN a_FX_UNREALISED_LOSS a_FX_GAIN_REVALUATION a_FX_LOSS_REVALUATION a_ROUNDING_INCOME a_ROUNDING_COST a_REVALUATION_CLEARING a_VAT_OUTPUT a_VAT_INPUT a_VAT_OUTPUT_PREPAYMENTS a_VAT_INPUT_PREPAYMENTS a_AVERAGE_RATE_POOL E_RECEIVABLES E_PAYABLES E_CUSTOMER_PREPAYMENTS E_SUPPLIER_PREPAYMENTS E_FX_GAIN_TRADE E_FX_LOSS_TRADE E_FX_GAIN_SETTLEMENT E_FX_LOSS_SETTLEMENT E_FX_UNREALISED_GAIN E_FX_UNREALISED_LOSS E_FX_GAIN_REVALUATION E_FX_LOSS_REVALUATION E_ROUNDING_INCOME E_ROUNDING_COST E_REVALUATION_CLEARING E_VAT_OUTPUT E_VAT_INPUT E_VAT_OUTPUT_PREPAYMENTS E_VAT_INPUT_PREPAYMENTS E_AVERAGE_RATE_POOL (own_ne f_RECEIVABLES f_AVERAGE_RATE_POOL (by decide)) (own_ne f_PAYABLES f_AVERAGE_RATE_POOL (by decide)) (own_ne f_CUSTOMER_PREPAYMENTS f_AVERAGE_RATE_POOL (by decide)) (own_ne f_SUPPLIER_PREPAYMENTS f_AVERAGE_RATE_POOL (by decide)) (own_ne f_FX_GAIN_TRADE f_AVERAGE_RATE_POOL (by decide)) (own_ne f_FX_LOSS_TRADE f_AVERAGE_RATE_POOL (by decide)) (own_ne f_FX_GAIN_SETTLEMENT f_AVERAGE_RATE_POOL (by decide)) (own_ne f_FX_LOSS_SETTLEMENT f_AVERAGE_RATE_POOL (by decide)) (own_ne f_FX_UNREALISED_GAIN f_AVERAGE_RATE_POOL (by decide)) (own_ne f_FX_UNREALISED_LOSS f_AVERAGE_RATE_POOL (by decide)) (own_ne f_FX_GAIN_REVALUATION f_AVERAGE_RATE_POOL (by decide)) (own_ne f_FX_LOSS_REVALUATION f_AVERAGE_RATE_POOL (by decide)) (own_ne f_ROUNDING_INCOME f_AVERAGE_RATE_POOL (by decide)) (own_ne f_ROUNDING_COST f_AVERAGE_RATE_POOL (by decide)) (own_ne f_REVALUATION_CLEARING f_AVERAGE_RATE_POOL (by decide)) (own_ne f_VAT_OUTPUT f_AVERAGE_RATE_POOL (by decide)) (own_ne f_VAT_INPUT f_AVERAGE_RATE_POOL (by decide)) (own_ne f_VAT_OUTPUT_PREPAYMENTS f_AVERAGE_RATE_POOL (by decide)) (own_ne f_VAT_INPUT_PREPAYMENTS f_AVERAGE_RATE_POOL (by decide)) hlt
  by_cases q : ((i0 &&& (2147483647 : Int32)) % (20 : Int32)) = (19 : Int32)
  · obtain ⟨n, o, h1, h2, h3, _, L, rfl, ⟨rfl, N⟩, hq⟩ := rm0_b l s _ hw tables_1 i0 a_RECEIVABLES a_PAYABLES a_CUSTOMER_PREPAYMENTS a_SUPPLIER_PREPAYMENTS a_FX_GAIN_TRADE a_FX_LOSS_TRADE a_FX_GAIN_SETTLEMENT a_FX_LOSS_SETTLEMENT a_FX_UNREALISED_GAIN a_FX_UNREALISED_LOSS a_FX_GAIN_REVALUATION a_FX_LOSS_REVALUATION a_ROUNDING_INCOME a_ROUNDING_COST a_REVALUATION_CLEARING a_VAT_OUTPUT a_VAT_INPUT a_VAT_OUTPUT_PREPAYMENTS a_VAT_INPUT_PREPAYMENTS a_AVERAGE_RATE_POOL y s.heap s.heap.size (Nat.le_refl _) S_RECEIVABLES E_RECEIVABLES S_PAYABLES E_PAYABLES S_CUSTOMER_PREPAYMENTS E_CUSTOMER_PREPAYMENTS S_SUPPLIER_PREPAYMENTS E_SUPPLIER_PREPAYMENTS S_FX_GAIN_TRADE E_FX_GAIN_TRADE S_FX_LOSS_TRADE E_FX_LOSS_TRADE S_FX_GAIN_SETTLEMENT E_FX_GAIN_SETTLEMENT S_FX_LOSS_SETTLEMENT E_FX_LOSS_SETTLEMENT S_FX_UNREALISED_GAIN E_FX_UNREALISED_GAIN S_FX_UNREALISED_LOSS E_FX_UNREALISED_LOSS S_FX_GAIN_REVALUATION E_FX_GAIN_REVALUATION S_FX_LOSS_REVALUATION E_FX_LOSS_REVALUATION S_ROUNDING_INCOME E_ROUNDING_INCOME S_ROUNDING_COST E_ROUNDING_COST S_REVALUATION_CLEARING E_REVALUATION_CLEARING S_VAT_OUTPUT E_VAT_OUTPUT S_VAT_INPUT E_VAT_INPUT S_VAT_OUTPUT_PREPAYMENTS E_VAT_OUTPUT_PREPAYMENTS S_VAT_INPUT_PREPAYMENTS E_VAT_INPUT_PREPAYMENTS S_AVERAGE_RATE_POOL E_AVERAGE_RATE_POOL E_y q hj hu (hy2 (h19.mpr q)) p e ha hc hk s m _ below hf ((Spec.applies_iff_loose hf).mp happ).1 ⟨rfl, State.Warmed39.refl s, rfl⟩ trivial
    refine ⟨n, _, h1, h2, h3, hpost _ _ _ _ _ _ ⟨Cond.after_iff.mpr rfl, Cond.after_iff.mpr (eq_i res_at (Term.int_eval (1)) rfl), trivial⟩ ⟨hq.1, hq.2.1, (hq.2.2.sift fun y hy => Or.inr (N y hy)).mono (by decide) (by decide)⟩⟩
  · obtain ⟨n, o, h1, h2, h3, _, L, rfl, ⟨rfl, N⟩, hq⟩ := rm0_a l s _ hw tables_1 i0 a_RECEIVABLES a_PAYABLES a_CUSTOMER_PREPAYMENTS a_SUPPLIER_PREPAYMENTS a_FX_GAIN_TRADE a_FX_LOSS_TRADE a_FX_GAIN_SETTLEMENT a_FX_LOSS_SETTLEMENT a_FX_UNREALISED_GAIN a_FX_UNREALISED_LOSS a_FX_GAIN_REVALUATION a_FX_LOSS_REVALUATION a_ROUNDING_INCOME a_ROUNDING_COST a_REVALUATION_CLEARING a_VAT_OUTPUT a_VAT_INPUT a_VAT_OUTPUT_PREPAYMENTS a_VAT_INPUT_PREPAYMENTS a_AVERAGE_RATE_POOL y s.heap s.heap.size (Nat.le_refl _) S_RECEIVABLES E_RECEIVABLES S_PAYABLES E_PAYABLES S_CUSTOMER_PREPAYMENTS E_CUSTOMER_PREPAYMENTS S_SUPPLIER_PREPAYMENTS E_SUPPLIER_PREPAYMENTS S_FX_GAIN_TRADE E_FX_GAIN_TRADE S_FX_LOSS_TRADE E_FX_LOSS_TRADE S_FX_GAIN_SETTLEMENT E_FX_GAIN_SETTLEMENT S_FX_LOSS_SETTLEMENT E_FX_LOSS_SETTLEMENT S_FX_UNREALISED_GAIN E_FX_UNREALISED_GAIN S_FX_UNREALISED_LOSS E_FX_UNREALISED_LOSS S_FX_GAIN_REVALUATION E_FX_GAIN_REVALUATION S_FX_LOSS_REVALUATION E_FX_LOSS_REVALUATION S_ROUNDING_INCOME E_ROUNDING_INCOME S_ROUNDING_COST E_ROUNDING_COST S_REVALUATION_CLEARING E_REVALUATION_CLEARING S_VAT_OUTPUT E_VAT_OUTPUT S_VAT_INPUT E_VAT_INPUT S_VAT_OUTPUT_PREPAYMENTS E_VAT_OUTPUT_PREPAYMENTS S_VAT_INPUT_PREPAYMENTS E_VAT_INPUT_PREPAYMENTS S_AVERAGE_RATE_POOL E_AVERAGE_RATE_POOL E_y q hj hu (hy1 fun z => q (h19.mp z)) p e ha hc hk s m _ below hf ((Spec.applies_iff_loose hf).mp happ).1 ⟨rfl, State.Warmed39.refl s, rfl⟩ trivial
    refine ⟨n, _, h1, h2, h3, hpost _ _ _ _ _ _ ⟨Cond.after_iff.mpr rfl, Cond.after_iff.mpr (eq_i res_at (Term.int_eval (1)) rfl), trivial⟩ ⟨hq.1, hq.2.1, (hq.2.2.sift fun y hy => Or.inr (N y hy)).mono (by decide) (by decide)⟩⟩
theorem main_1_1 : Claimed_1_1 := comes_1 fun _ _ _ _ _ _ h hF => ⟨h.1, hF⟩
theorem main_1_2 : Claimed_1_2 := comes_1 fun _ _ _ _ _ _ h hF => ⟨h.2.1, hF⟩
end Jvm.Pilot.@@N@@
namespace Jvm.Pilot.@@N@@
open Jvm Jvm.ClassFile Sem Op Lib Jvm.Free Jvm.Stand Jvm.Pilot.@@N@@.Jvm.D
/-! MADE BY PROGRAM (witnessworld.py) out of the Statement's table words and the real class files: 13 classes; the members and pool entries that the words name. The judged class is class 1, her method 1. -/
namespace start1
open Jvm.ClassFile
def u (s : String) : CpInfo := .utf8 (stringToUtf16 s)
/-- a pool by its gaps: so many unusable entries, then the entry; so many at the end -/
def gap : Nat → List CpInfo → List CpInfo
  | 0, r => r
  | n + 1, r => .unusable :: gap n r
def poolList (es : List (Nat × CpInfo)) (last : Nat) : List CpInfo := es.foldr (fun e r => gap e.1 (e.2 :: r)) (gap last [])
def pool (es : List (Nat × CpInfo)) (last : Nat) : Array CpInfo := ⟨poolList es last⟩
def fileOf (pool : Array CpInfo) (this : Nat) (attrs : Array Attribute := #[]) (ms : Array MethodInfo := #[]) (fl : Nat := 33) (sup : Nat := 0) (ifs : Array Nat := #[]) (fds : Array FieldInfo := #[]) : ClassFile where
  minorVersion := 0
  majorVersion := 65
  constantPool := pool
  accessFlags := fl
  thisClass := this
  superClass := sup
  interfaces := ifs
  fields := fds
  methods := ms
  attributes := attrs
def plain (name : String) (sup : Option ClassId) : Class where
  name := name
  kind := .ordinary
  loader := none
  accessFlags := 33
  super := sup
  interfaces := #[]
  cf := none
  fields := #[]
  methods := #[]
  instanceTypes := #[]
  staticTypes := #[]
  resolved := #[]
  callSites := []
  init := .initialized
  statics := none
  mirror := none

def pool0 : Array CpInfo := pool [(5, u "<init>"), (0, u "()V"), (1, .class_ 10), (1, u "java/lang/Object")] 113

def k0m0 : Method := { name := "<init>", desc := "()V", sig := { parameters := [], returnType := none }, accessFlags := 1, code := none }
/-- java/lang/Object -/
def k0 : Class := { plain "java/lang/Object" none with
  accessFlags := 33
  interfaces := #[]
  cf := some (fileOf pool0 8 #[] #[{ accessFlags := 1, nameIndex := 5, descriptorIndex := 6, attributes := #[] }] 33 0 #[] #[])
  fields := #[]
  methods := #[k0m0]
  instanceTypes := #[]
  staticTypes := #[]
  resolved := Array.replicate 124 none
  statics := none }

def pool1 : Array CpInfo := pool [(2, .class_ 4), (1, u "java/lang/Object"), (0, u "<init>"), (0, u "()V"), (0, .class_ 8), (0, u "com/example/arvestus/arvestus/values/AccountRole"), (0, .fieldref 7 10), (0, .nameAndType 11 12), (0, u "RECEIVABLES"), (0, u "Lcom/example/arvestus/arvestus/values/AccountRole;"), (0, .fieldref 7 14), (0, .nameAndType 15 12), (0, u "PAYABLES"), (0, .fieldref 7 17), (0, .nameAndType 18 12), (0, u "CUSTOMER_PREPAYMENTS"), (0, .fieldref 7 20), (0, .nameAndType 21 12), (0, u "SUPPLIER_PREPAYMENTS"), (0, .fieldref 7 23), (0, .nameAndType 24 12), (0, u "FX_GAIN_TRADE"), (0, .fieldref 7 26), (0, .nameAndType 27 12), (0, u "FX_LOSS_TRADE"), (0, .fieldref 7 29), (0, .nameAndType 30 12), (0, u "FX_GAIN_SETTLEMENT"), (0, .fieldref 7 32), (0, .nameAndType 33 12), (0, u "FX_LOSS_SETTLEMENT"), (0, .fieldref 7 35), (0, .nameAndType 36 12), (0, u "FX_UNREALISED_GAIN"), (0, .fieldref 7 38), (0, .nameAndType 39 12), (0, u "FX_UNREALISED_LOSS"), (0, .fieldref 7 41), (0, .nameAndType 42 12), (0, u "FX_GAIN_REVALUATION"), (0, .fieldref 7 44), (0, .nameAndType 45 12), (0, u "FX_LOSS_REVALUATION"), (0, .fieldref 7 47), (0, .nameAndType 48 12), (0, u "ROUNDING_INCOME"), (0, .fieldref 7 50), (0, .nameAndType 51 12), (0, u "ROUNDING_COST"), (0, .fieldref 7 53), (0, .nameAndType 54 12), (0, u "REVALUATION_CLEARING"), (0, .fieldref 7 56), (0, .nameAndType 57 12), (0, u "VAT_OUTPUT"), (0, .fieldref 7 59), (0, .nameAndType 60 12), (0, u "VAT_INPUT"), (0, .fieldref 7 62), (0, .nameAndType 63 12), (0, u "VAT_OUTPUT_PREPAYMENTS"), (0, .fieldref 7 65), (0, .nameAndType 66 12), (0, u "VAT_INPUT_PREPAYMENTS"), (0, .fieldref 7 68), (0, .nameAndType 69 12), (0, u "AVERAGE_RATE_POOL"), (0, .integer 2147483647), (0, .methodref 7 72), (0, .nameAndType 73 74), (0, u "isUnique"), (0, u "()Z"), (0, .class_ 76), (0, u "com/example/arvestus/arvestus/values/AccountRoleIsUniquePinLaw"), (2, u "law"), (0, u "(I)Z")] 5

def k1m0 : Method := { name := "<init>", desc := "()V", sig := { parameters := [], returnType := none }, accessFlags := 2, code := none }
def k1c1 : Code := { maxStack := 4, maxLocals := 4, code := code, exceptionTable := #[], attributes := #[] }
def k1m1 : Method := { name := "law", desc := "(I)Z", sig := { parameters := [.int], returnType := some .boolean }, accessFlags := 9, code := some k1c1 }
/-- com/example/arvestus/arvestus/values/AccountRoleIsUniquePinLaw -/
def k1 : Class := { plain "com/example/arvestus/arvestus/values/AccountRoleIsUniquePinLaw" (some 0) with
  accessFlags := 49
  interfaces := #[]
  cf := some (fileOf pool1 75 #[] #[{ accessFlags := 2, nameIndex := 5, descriptorIndex := 6, attributes := #[] }, { accessFlags := 9, nameIndex := 79, descriptorIndex := 80, attributes := #[] }] 49 2 #[] #[])
  fields := #[]
  methods := #[k1m0, k1m1]
  instanceTypes := #[]
  staticTypes := #[]
  resolved := Array.replicate 86 none
  statics := none }

def pool2 : Array CpInfo := pool [(1, .class_ 2), (0, u "java/lang/constant/Constable"), (0, .class_ 4), (0, u "java/lang/Object")] 6

/-- java/lang/constant/Constable -/
def k2 : Class := { plain "java/lang/constant/Constable" (some 0) with
  accessFlags := 1537
  interfaces := #[]
  cf := some (fileOf pool2 1 #[] #[] 1537 3 #[] #[])
  fields := #[]
  methods := #[]
  instanceTypes := #[]
  staticTypes := #[]
  resolved := Array.replicate 11 none
  statics := none }

def pool3 : Array CpInfo := pool [(1, .class_ 2), (0, u "java/lang/Comparable"), (0, .class_ 4), (0, u "java/lang/Object")] 7

/-- java/lang/Comparable -/
def k3 : Class := { plain "java/lang/Comparable" (some 0) with
  accessFlags := 1537
  interfaces := #[]
  cf := some (fileOf pool3 1 #[] #[] 1537 3 #[] #[])
  fields := #[]
  methods := #[]
  instanceTypes := #[]
  staticTypes := #[]
  resolved := Array.replicate 12 none
  statics := none }

def pool4 : Array CpInfo := pool [(1, .class_ 2), (0, u "java/io/Serializable"), (0, .class_ 4), (0, u "java/lang/Object")] 2

/-- java/io/Serializable -/
def k4 : Class := { plain "java/io/Serializable" (some 0) with
  accessFlags := 1537
  interfaces := #[]
  cf := some (fileOf pool4 1 #[] #[] 1537 3 #[] #[])
  fields := #[]
  methods := #[]
  instanceTypes := #[]
  staticTypes := #[]
  resolved := Array.replicate 7 none
  statics := none }

def pool5 : Array CpInfo := pool [(2, .class_ 4), (1, u "java/lang/Enum"), (0, u "name"), (0, u "Ljava/lang/String;"), (2, u "ordinal"), (0, u "I"), (1, .class_ 14), (1, u "java/lang/Object"), (4, u "hash"), (86, .class_ 108), (1, u "java/lang/Enum$EnumDesc"), (2, .class_ 112), (0, u "java/lang/constant/Constable"), (0, .class_ 114), (0, u "java/lang/Comparable"), (0, .class_ 116), (0, u "java/io/Serializable")] 87

/-- java/lang/Enum -/
def k5 : Class := { plain "java/lang/Enum" (some 0) with
  accessFlags := 1057
  interfaces := #[2, 3, 4]
  cf := some (fileOf pool5 2 #[.nestMembers #[106]] #[] 1057 12 #[111, 113, 115] #[{ accessFlags := 18, nameIndex := 5, descriptorIndex := 6, attributes := #[] }, { accessFlags := 18, nameIndex := 9, descriptorIndex := 10, attributes := #[] }, { accessFlags := 2, nameIndex := 19, descriptorIndex := 10, attributes := #[] }])
  fields := #[{ name := "name", type := (.object "java/lang/String"), accessFlags := 18, slot := 0, constantValue := 0 }, { name := "ordinal", type := .int, accessFlags := 18, slot := 1, constantValue := 0 }, { name := "hash", type := .int, accessFlags := 2, slot := 2, constantValue := 0 }]
  methods := #[]
  instanceTypes := #[(.object "java/lang/String"), .int, .int]
  staticTypes := #[]
  resolved := Array.replicate 204 none
  statics := none }

def pool6 : Array CpInfo := pool [(1, .class_ 2), (0, u "com/example/arvestus/arvestus/values/AccountRole"), (2, u "RECEIVABLES"), (0, u "Lcom/example/arvestus/arvestus/values/AccountRole;"), (2, u "PAYABLES"), (2, u "CUSTOMER_PREPAYMENTS"), (2, u "SUPPLIER_PREPAYMENTS"), (2, u "FX_GAIN_TRADE"), (2, u "FX_LOSS_TRADE"), (2, u "FX_GAIN_SETTLEMENT"), (2, u "FX_LOSS_SETTLEMENT"), (2, u "FX_UNREALISED_GAIN"), (2, u "FX_UNREALISED_LOSS"), (2, u "FX_GAIN_REVALUATION"), (2, u "FX_LOSS_REVALUATION"), (2, u "ROUNDING_INCOME"), (2, u "ROUNDING_COST"), (2, u "REVALUATION_CLEARING"), (2, u "VAT_OUTPUT"), (2, u "VAT_INPUT"), (2, u "VAT_OUTPUT_PREPAYMENTS"), (2, u "VAT_INPUT_PREPAYMENTS"), (0, .fieldref 1 62), (0, .nameAndType 63 6), (0, u "AVERAGE_RATE_POOL"), (2, u "$VALUES"), (0, u "[Lcom/example/arvestus/arvestus/values/AccountRole;"), (6, .class_ 76), (1, u "java/lang/Enum"), (11, u "items"), (0, u "Lcom/example/arvestus/arvestus/values/AccountRole$Items;"), (49, .class_ 141), (1, u "com/example/arvestus/arvestus/values/AccountRole$Items"), (36, u "isUnique"), (0, u "()Z")] 24

def k6c0 : Code := { maxStack := 2, maxLocals := 1, code := prog_9_method_6_code, exceptionTable := #[], attributes := #[] }
def k6m0 : Method := { name := "isUnique", desc := "()Z", sig := { parameters := [], returnType := some .boolean }, accessFlags := 1, code := some k6c0 }
/-- com/example/arvestus/arvestus/values/AccountRole -/
def k6 : Class := { plain "com/example/arvestus/arvestus/values/AccountRole" (some 5) with
  accessFlags := 16433
  interfaces := #[]
  cf := some (fileOf pool6 1 #[.nestMembers #[139]] #[{ accessFlags := 1, nameIndex := 178, descriptorIndex := 179, attributes := #[] }] 16433 74 #[] #[{ accessFlags := 16409, nameIndex := 5, descriptorIndex := 6, attributes := #[] }, { accessFlags := 16409, nameIndex := 9, descriptorIndex := 6, attributes := #[] }, { accessFlags := 16409, nameIndex := 12, descriptorIndex := 6, attributes := #[] }, { accessFlags := 16409, nameIndex := 15, descriptorIndex := 6, attributes := #[] }, { accessFlags := 16409, nameIndex := 18, descriptorIndex := 6, attributes := #[] }, { accessFlags := 16409, nameIndex := 21, descriptorIndex := 6, attributes := #[] }, { accessFlags := 16409, nameIndex := 24, descriptorIndex := 6, attributes := #[] }, { accessFlags := 16409, nameIndex := 27, descriptorIndex := 6, attributes := #[] }, { accessFlags := 16409, nameIndex := 30, descriptorIndex := 6, attributes := #[] }, { accessFlags := 16409, nameIndex := 33, descriptorIndex := 6, attributes := #[] }, { accessFlags := 16409, nameIndex := 36, descriptorIndex := 6, attributes := #[] }, { accessFlags := 16409, nameIndex := 39, descriptorIndex := 6, attributes := #[] }, { accessFlags := 16409, nameIndex := 42, descriptorIndex := 6, attributes := #[] }, { accessFlags := 16409, nameIndex := 45, descriptorIndex := 6, attributes := #[] }, { accessFlags := 16409, nameIndex := 48, descriptorIndex := 6, attributes := #[] }, { accessFlags := 16409, nameIndex := 51, descriptorIndex := 6, attributes := #[] }, { accessFlags := 16409, nameIndex := 54, descriptorIndex := 6, attributes := #[] }, { accessFlags := 16409, nameIndex := 57, descriptorIndex := 6, attributes := #[] }, { accessFlags := 16409, nameIndex := 60, descriptorIndex := 6, attributes := #[] }, { accessFlags := 16409, nameIndex := 63, descriptorIndex := 6, attributes := #[] }, { accessFlags := 18, nameIndex := 88, descriptorIndex := 89, attributes := #[] }, { accessFlags := 4122, nameIndex := 66, descriptorIndex := 67, attributes := #[] }])
  fields := #[{ name := "RECEIVABLES", type := (.object "com/example/arvestus/arvestus/values/AccountRole"), accessFlags := 16409, slot := 0, constantValue := 0 }, { name := "PAYABLES", type := (.object "com/example/arvestus/arvestus/values/AccountRole"), accessFlags := 16409, slot := 1, constantValue := 0 }, { name := "CUSTOMER_PREPAYMENTS", type := (.object "com/example/arvestus/arvestus/values/AccountRole"), accessFlags := 16409, slot := 2, constantValue := 0 }, { name := "SUPPLIER_PREPAYMENTS", type := (.object "com/example/arvestus/arvestus/values/AccountRole"), accessFlags := 16409, slot := 3, constantValue := 0 }, { name := "FX_GAIN_TRADE", type := (.object "com/example/arvestus/arvestus/values/AccountRole"), accessFlags := 16409, slot := 4, constantValue := 0 }, { name := "FX_LOSS_TRADE", type := (.object "com/example/arvestus/arvestus/values/AccountRole"), accessFlags := 16409, slot := 5, constantValue := 0 }, { name := "FX_GAIN_SETTLEMENT", type := (.object "com/example/arvestus/arvestus/values/AccountRole"), accessFlags := 16409, slot := 6, constantValue := 0 }, { name := "FX_LOSS_SETTLEMENT", type := (.object "com/example/arvestus/arvestus/values/AccountRole"), accessFlags := 16409, slot := 7, constantValue := 0 }, { name := "FX_UNREALISED_GAIN", type := (.object "com/example/arvestus/arvestus/values/AccountRole"), accessFlags := 16409, slot := 8, constantValue := 0 }, { name := "FX_UNREALISED_LOSS", type := (.object "com/example/arvestus/arvestus/values/AccountRole"), accessFlags := 16409, slot := 9, constantValue := 0 }, { name := "FX_GAIN_REVALUATION", type := (.object "com/example/arvestus/arvestus/values/AccountRole"), accessFlags := 16409, slot := 10, constantValue := 0 }, { name := "FX_LOSS_REVALUATION", type := (.object "com/example/arvestus/arvestus/values/AccountRole"), accessFlags := 16409, slot := 11, constantValue := 0 }, { name := "ROUNDING_INCOME", type := (.object "com/example/arvestus/arvestus/values/AccountRole"), accessFlags := 16409, slot := 12, constantValue := 0 }, { name := "ROUNDING_COST", type := (.object "com/example/arvestus/arvestus/values/AccountRole"), accessFlags := 16409, slot := 13, constantValue := 0 }, { name := "REVALUATION_CLEARING", type := (.object "com/example/arvestus/arvestus/values/AccountRole"), accessFlags := 16409, slot := 14, constantValue := 0 }, { name := "VAT_OUTPUT", type := (.object "com/example/arvestus/arvestus/values/AccountRole"), accessFlags := 16409, slot := 15, constantValue := 0 }, { name := "VAT_INPUT", type := (.object "com/example/arvestus/arvestus/values/AccountRole"), accessFlags := 16409, slot := 16, constantValue := 0 }, { name := "VAT_OUTPUT_PREPAYMENTS", type := (.object "com/example/arvestus/arvestus/values/AccountRole"), accessFlags := 16409, slot := 17, constantValue := 0 }, { name := "VAT_INPUT_PREPAYMENTS", type := (.object "com/example/arvestus/arvestus/values/AccountRole"), accessFlags := 16409, slot := 18, constantValue := 0 }, { name := "AVERAGE_RATE_POOL", type := (.object "com/example/arvestus/arvestus/values/AccountRole"), accessFlags := 16409, slot := 19, constantValue := 0 }, { name := "items", type := (.object "com/example/arvestus/arvestus/values/AccountRole$Items"), accessFlags := 18, slot := 3, constantValue := 0 }, { name := "$VALUES", type := (.array (.object "com/example/arvestus/arvestus/values/AccountRole")), accessFlags := 4122, slot := 20, constantValue := 0 }]
  methods := #[k6m0]
  instanceTypes := #[(.object "java/lang/String"), .int, .int, (.object "com/example/arvestus/arvestus/values/AccountRole$Items")]
  staticTypes := #[(.object "com/example/arvestus/arvestus/values/AccountRole"), (.object "com/example/arvestus/arvestus/values/AccountRole"), (.object "com/example/arvestus/arvestus/values/AccountRole"), (.object "com/example/arvestus/arvestus/values/AccountRole"), (.object "com/example/arvestus/arvestus/values/AccountRole"), (.object "com/example/arvestus/arvestus/values/AccountRole"), (.object "com/example/arvestus/arvestus/values/AccountRole"), (.object "com/example/arvestus/arvestus/values/AccountRole"), (.object "com/example/arvestus/arvestus/values/AccountRole"), (.object "com/example/arvestus/arvestus/values/AccountRole"), (.object "com/example/arvestus/arvestus/values/AccountRole"), (.object "com/example/arvestus/arvestus/values/AccountRole"), (.object "com/example/arvestus/arvestus/values/AccountRole"), (.object "com/example/arvestus/arvestus/values/AccountRole"), (.object "com/example/arvestus/arvestus/values/AccountRole"), (.object "com/example/arvestus/arvestus/values/AccountRole"), (.object "com/example/arvestus/arvestus/values/AccountRole"), (.object "com/example/arvestus/arvestus/values/AccountRole"), (.object "com/example/arvestus/arvestus/values/AccountRole"), (.object "com/example/arvestus/arvestus/values/AccountRole"), (.array (.object "com/example/arvestus/arvestus/values/AccountRole"))]
  resolved := Array.replicate 204 none
  statics := some 0 }

def pool7 : Array CpInfo := pool [(1, u "java/lang/Cloneable"), (0, .class_ 1), (0, u "java/lang/Object"), (0, .class_ 3)] 3

/-- java/lang/Cloneable -/
def k7 : Class := { plain "java/lang/Cloneable" (some 0) with
  accessFlags := 1537
  interfaces := #[]
  cf := some (fileOf pool7 2 #[] #[] 1537 4 #[] #[])
  fields := #[]
  methods := #[]
  instanceTypes := #[]
  staticTypes := #[]
  resolved := Array.replicate 8 none
  statics := none }

/-- the primitive byte -/
def k8 : Class := { plain "byte" none with kind := .primitive 'B', accessFlags := 0x411 }
/-- [B -/
def k9 : Class := { plain "[B" (some 0) with kind := .array 8 .byte, interfaces := #[7, 4], accessFlags := 1041 }

/-- the primitive int -/
def k10 : Class := { plain "int" none with kind := .primitive 'I', accessFlags := 0x411 }
/-- [I -/
def k11 : Class := { plain "[I" (some 0) with kind := .array 10 .int, interfaces := #[7, 4], accessFlags := 1041 }

/-- [Lcom/example/arvestus/arvestus/values/AccountRole; -/
def k12 : Class := { plain "[Lcom/example/arvestus/arvestus/values/AccountRole;" (some 0) with kind := .array 6 (.object "com/example/arvestus/arvestus/values/AccountRole"), interfaces := #[7, 4], accessFlags := 1041 }

def heap : Heap := #[{ cls := 6, slots := #[.ref 1, .ref 2, .ref 3, .ref 4, .ref 5, .ref 6, .ref 7, .ref 8, .ref 9, .ref 10, .ref 11, .ref 12, .ref 13, .ref 14, .ref 15, .ref 16, .ref 17, .ref 18, .ref 19, .ref 20, .null], vm := .statics 6 },
  { cls := 6, slots := #[.null, .int 0, .int 0, .null], vm := .none },
  { cls := 6, slots := #[.null, .int 1, .int 0, .null], vm := .none },
  { cls := 6, slots := #[.null, .int 2, .int 0, .null], vm := .none },
  { cls := 6, slots := #[.null, .int 3, .int 0, .null], vm := .none },
  { cls := 6, slots := #[.null, .int 4, .int 0, .null], vm := .none },
  { cls := 6, slots := #[.null, .int 5, .int 0, .null], vm := .none },
  { cls := 6, slots := #[.null, .int 6, .int 0, .null], vm := .none },
  { cls := 6, slots := #[.null, .int 7, .int 0, .null], vm := .none },
  { cls := 6, slots := #[.null, .int 8, .int 0, .null], vm := .none },
  { cls := 6, slots := #[.null, .int 9, .int 0, .null], vm := .none },
  { cls := 6, slots := #[.null, .int 10, .int 0, .null], vm := .none },
  { cls := 6, slots := #[.null, .int 11, .int 0, .null], vm := .none },
  { cls := 6, slots := #[.null, .int 12, .int 0, .null], vm := .none },
  { cls := 6, slots := #[.null, .int 13, .int 0, .null], vm := .none },
  { cls := 6, slots := #[.null, .int 14, .int 0, .null], vm := .none },
  { cls := 6, slots := #[.null, .int 15, .int 0, .null], vm := .none },
  { cls := 6, slots := #[.null, .int 16, .int 0, .null], vm := .none },
  { cls := 6, slots := #[.null, .int 17, .int 0, .null], vm := .none },
  { cls := 6, slots := #[.null, .int 18, .int 0, .null], vm := .none },
  { cls := 6, slots := #[.null, .int 19, .int 0, .null], vm := .none }]
def classes : Array Class := #[k0, k1, k2, k3, k4, k5, k6, k7, k8, k9, k10, k11, k12]
def interned : List (Array UInt16 × Addr) := []
def slotsUsed : Nat := 101
def theMethod : MethodId := ⟨1, 1⟩
def args0 : Array Value := #[.int 5]
def aboutOver (below : List Frame) : State where
  vm := { classes := classes, interned := interned.toArray }
  heap := heap
  slotsUsed := slotsUsed
  threads := #[{ frames := .invoking theMethod args0 :: below }]
def below0 : List Frame := [.native { method := ⟨0, 0⟩, args := #[] }]
def about1 : State := aboutOver below0
def p0 : Program := .bare "" "" ""
def e0 : Env := launch0.env 0 0 0
theorem w_frames : about1.frames = Frame.invoking theMethod args0 :: below0 := rfl
set_option maxRecDepth 65536 in
theorem w_args : argsFit about1.vm theMethod args0 = true := by decide +kernel
set_option maxRecDepth 65536 in
theorem w_heap : heapFits about1 = true := by decide +kernel
set_option maxRecDepth 65536 in
theorem w_runnable : about1.curStatus? = some .runnable := by decide +kernel
set_option maxRecDepth 65536 in
theorem w_alone : about1.alone = true := by decide +kernel
set_option maxRecDepth 65536 in
theorem w_named : about1.methodNamed? x = some theMethod := by decide +kernel
set_option maxRecDepth 65536 in
theorem w_hears : about1.hears theMethod below0 = true := by decide +kernel
set_option maxRecDepth 65536 in
theorem w_ripe : about1.ripe theMethod args0 below0 = true := by decide +kernel
theorem w_running : about1.status = .running := rfl
set_option maxRecDepth 65536 in
theorem w_room : about1.hasRoom e0.platform room_1 = true :=
  launch0.hasRoom_least _ room_1 (by decide +kernel) (by decide +kernel) (by decide +kernel) (by decide +kernel) (by decide +kernel) (by decide +kernel)
theorem allAtoms_all (ts : List Jvm.Cond) (a : Array Jvm.Value) (st : Jvm.State) : (allAtoms ts).before a st = ts.all (fun c => c.before a st) := by
  induction ts with
  | nil => rfl
  | cons c t ih =>
    show (Jvm.Cond.and c (allAtoms t)).before a st = _
    rw [Jvm.Cond.before_and, ih, List.all_cons]
def words1 : List Jvm.Cond := Jvm.Cond.code x code maxLocals ret :: tables_1
/-- a 'code' word, met by the world's own term for the bytes: nothing is compared byte by byte -/
theorem code_word {y : MethodName} {bytes : ByteArray} {mx : Nat} {rt : Option FieldType} {a : Array Value} {s : State} {m : MethodId} {meth : Method} {c : Code} (h1 : s.methodNamed? y = some m) (h2 : s.vm.method? m = some meth) (h3 : meth.code = some c) (h4 : c.code = bytes)
    (h5 : (c.maxLocals == mx && c.exceptionTable.isEmpty && decide (c.maxStack ≤ mostOperands) && decide (meth.sig.returnType = rt) && !meth.locks && decide (parseMethodDescriptor y.desc = some meth.sig)) = true) : (Jvm.Cond.code y bytes mx rt).before a s = true := by
  simp only [Bool.and_eq_true, beq_iff_eq, Bool.not_eq_true', decide_eq_true_eq] at h5
  obtain ⟨⟨⟨⟨⟨g1, g2⟩, g3⟩, g4⟩, g5⟩, g6⟩ := h5
  simp [Cond.before, Cond.holds, Cond.value, h1, h2, h3, h4, g1, g2, g3, g4, g5, g6]
def isCode : Jvm.Cond → Bool
  | .code _ _ _ _ => true
  | _ => false
theorem all_split {L : List Jvm.Cond} {P : Jvm.Cond → Bool} (h1 : L.all (fun c => isCode c || P c) = true) (h2 : ∀ c ∈ L.filter isCode, P c = true) : L.all P = true := by
  refine List.all_eq_true.mpr fun c hc => ?_
  have h := List.all_eq_true.mp h1 c hc
  rcases Bool.eq_false_or_eq_true (isCode c) with hi | hi
  · exact h2 c (List.mem_filter.mpr ⟨hc, hi⟩)
  · simpa [hi] using h
set_option maxRecDepth 65536 in
theorem w_c0 : (Jvm.Cond.code x code maxLocals ret).before args0 about1 = true := code_word (m := ⟨1, 1⟩) (meth := k1m1) (c := k1c1) (by decide +kernel) rfl rfl rfl (by decide +kernel)
set_option maxRecDepth 65536 in
theorem w_c1 : (Jvm.Cond.code ({ cls := "com/example/arvestus/arvestus/values/AccountRole", name := "isUnique", desc := "()Z" } : Jvm.MethodName) prog_9_method_6_code (1 : Nat) (Option.some Jvm.ClassFile.FieldType.boolean)).before args0 about1 = true := code_word (m := ⟨6, 0⟩) (meth := k6m0) (c := k6c0) (by decide +kernel) rfl rfl rfl (by decide +kernel)
def codes1 : List Jvm.Cond := [Jvm.Cond.code x code maxLocals ret, Jvm.Cond.code ({ cls := "com/example/arvestus/arvestus/values/AccountRole", name := "isUnique", desc := "()Z" } : Jvm.MethodName) prog_9_method_6_code (1 : Nat) (Option.some Jvm.ClassFile.FieldType.boolean)]
set_option maxRecDepth 65536 in
theorem codes_eq : words1.filter isCode = codes1 := rfl
theorem w_codes : ∀ c ∈ words1.filter isCode, c.before args0 about1 = true := by
  rw [codes_eq]
  intro c hc
  simp only [codes1, List.mem_cons, List.not_mem_nil, or_false] at hc
  rcases hc with rfl | rfl
  · exact w_c0
  · exact w_c1
set_option maxRecDepth 65536 in
theorem w_t1 : (words1.take 24).all (fun c => isCode c || c.before args0 about1) = true := by decide +kernel
set_option maxRecDepth 65536 in
theorem w_t2 : ((words1.drop 24).take 24).all (fun c => isCode c || c.before args0 about1) = true := by decide +kernel
set_option maxRecDepth 65536 in
theorem w_t3 : ((words1.drop 24).drop 24).all (fun c => isCode c || c.before args0 about1) = true := by decide +kernel
theorem w_tables : (allAtoms (Jvm.Cond.code x code maxLocals ret :: tables_1)).before args0 about1 = true := by
  rw [allAtoms_all]
  show words1.all (fun c => c.before args0 about1) = true
  refine all_split ?_ w_codes
  rw [← List.take_append_drop 24 words1, List.all_append, w_t1, ← List.take_append_drop 24 (words1.drop 24), List.all_append, w_t2, w_t3]
  rfl
set_option maxRecDepth 65536 in
theorem w_case : (Jvm.Cond.and given_1 narrow_1).before args0 about1 = true := by decide +kernel
theorem w_applies : (headSpec (Jvm.Cond.code x code maxLocals ret :: tables_1) room_1).applies x e0.platform about1 = true :=
  (Spec.applies_iff w_frames).mpr ⟨w_running, w_runnable, w_alone, w_named, w_hears, w_ripe, w_room, w_tables⟩
theorem atStart : AtStart classFile x code maxLocals ret World_1 tables_1 room_1 Calls_1 rest_1 Pre_1 launch0 p0 e0 about1 theMethod args0 below0 :=
  ⟨lists_1, trivial, launch0.admits_env _ _ _, launch0.least_env, fairChoices_fair.cas, fairChoices_fair.clock, w_frames, w_args, w_heap, w_applies, trivial, trivial, w_case⟩
end start1
theorem witness_1 : WitnessClaimed_1 := ⟨start1.p0, start1.e0, start1.about1, start1.theMethod, start1.args0, start1.below0, start1.atStart⟩
end Jvm.Pilot.@@N@@
