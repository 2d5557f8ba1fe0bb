import JvmDerived
import JvmDerived.Pilot.@@N@@Statement
import JvmDerived.Pilot.@@N@@Code
set_option linter.unusedVariables false
set_option linter.unusedSimpArgs false
namespace Jvm.RoadKit
open Sem ClassFile Op Lib Jvm.Stand Jvm.Free Jvm.LawKit
section New
variable {p : Program} {l : Launch} {e : Env} {R : Room} {s : State} {m : MethodId} {args : Array Value} {below : List Frame} {meth : Method} {c : Code} {T : State} {locs : List Loc} {cells slots : Nat}
theorem retI (X : Stand p l e R s m args below meth c T locs cells slots) (hx : p.tables.exec = Jvm.exec) {pc : Nat} {Ls : Array Slot} {z : Int32} {rest : List Value} (hret : meth.sig.returnType = some .int) (hd : decode c.code pc = .ok (.ireturn, 1)) {fs : List Frame}
    (hl : ∀ (f : JFrame) (acts : List Action), f.method = m → f.locked = none → f.entered = [] → (doReturn e (T.setTop f) acts (some (.int z))).1 = T.setFrames fs) : Steps p.tables e below (T.setTop (mkF m pc Ls (.int z :: rest))) (T.setFrames fs) := by
  have hm' : T.vm.method? m = some meth := X.method'
  have hn : narrow .int (.int z) = .int z := rfl
  show Steps p.tables e below (T.setTop { method := m, pc := pc, locals := Ls, stack := _ :: rest, locked := none }) _
  jvm_step X.here [X.here.top, hx, hd, hm', hret, hn]
  first | (intro acts; rw [hl _ acts rfl rfl rfl]) | rw [hl _ _ rfl rfl rfl]
  exact Steps.refl _
end New
end Jvm.RoadKit
namespace Jvm.Pilot.@@N@@
open Jvm Jvm.ClassFile Sem Op Lib Jvm.Free Jvm.Stand Jvm.LawKit Jvm.RoadKit Bundle Jvm.Pilot.@@N@@.Jvm.D

/-! numbers -/
def own_due (d p : Int32) : Int32 := if p = 0 then d else 0
def own_by (d : Int32) (B : Int64) (p : Int32) : Int64 := if (0 : Int32) < p then (if d = 0 then B + p.toInt64 else p.toInt64) else B
def own_pc (d : Int32) (B : Int64) : Int32 := if d = 0 then (if lcmpW B (65536 : Int64) < (0 : Int32) then 0 else 1) else 0
def own_nrm (a : Int32) : Int32 := if a < 0 then -1 else a
def own_bit (x : Int32) : Int32 := if x = 0 then 0 else 1
def own_and (s a : Int32) : Int32 := if s = 0 then 0 else if a = 0 then 1 else 0
def own_or (d s : Int32) : Int32 := if d = 0 then (if s = 0 then 0 else 1) else 1
def own_if (s d : Int32) : Int32 := if s = 0 then d else 1
def own_b1 (a : Int32) : Int64 := if (0 : Int32) < a then a.toInt64 else 0
theorem own_bit_01 (x : Int32) : own_bit x = 0 ∨ own_bit x = 1 := by unfold own_bit; split <;> simp
theorem own_and_due {s a : Int32} (h : s = 0 ∨ s = 1) : own_and s a = own_due s a := by
  unfold own_and own_due
  rcases h with rfl | rfl <;> by_cases q : a = 0 <;> simp [q]
theorem own_due_01 {d p : Int32} (h : d = 0 ∨ d = 1) : own_due d p = 0 ∨ own_due d p = 1 := by
  unfold own_due; split
  · exact h
  · exact Or.inl rfl
theorem own_if_01 {s d : Int32} (h : d = 0 ∨ d = 1) : own_if s d = 0 ∨ own_if s d = 1 := by
  unfold own_if; split
  · exact h
  · exact Or.inr rfl
theorem own_or_if {s d : Int32} (h : d = 0 ∨ d = 1) : own_or d s = own_if s d := by
  unfold own_or own_if
  rcases h with rfl | rfl <;> by_cases q : s = 0 <;> simp [q]
theorem own_if_0 {s : Int32} (h : s = 0 ∨ s = 1) : own_if s 0 = s := by
  unfold own_if; rcases h with rfl | rfl <;> simp
theorem own_b1_by (s a : Int32) : own_b1 a = own_by s 0 a := by
  unfold own_b1 own_by; split
  · split
    · exact (Int64.zero_add _).symm
    · rfl
  · rfl
theorem own_nar {d : Int32} (h : d = 0 ∨ d = 1) : nar .boolean d = d := by rcases h with rfl | rfl <;> decide
theorem own_pc_01 (d : Int32) (B : Int64) : own_pc d B = 0 ∨ own_pc d B = 1 := by
  unfold own_pc; split
  · split <;> simp
  · exact Or.inl rfl

theorem d1_0 : decode prog_14_method_1_code 0 = .ok (.aload_n 0, 1) := by decide +kernel
theorem d1_1 : decode prog_14_method_1_code 1 = .ok (.invokespecial 1, 3) := by decide +kernel
theorem d1_4 : decode prog_14_method_1_code 4 = .ok (.return_, 1) := by decide +kernel
theorem pn_1 : plainName "com/example/antechamber/antechamber/DatabaseSocket$Turn" = true := by first | (simp [plainName, overriddenIn]; done) | decide +kernel
theorem ef_1 (m : MethodId) (x0 : Addr) : entryFrame m #[(.ref x0)] 1 = mkF m 0 #[.val (.ref x0)] [] := by first | (simp [entryFrame, mkF, argsToLocals, Value.category]; done) | rfl
def Q1 (Z : State) (a1 : Addr) (h0 : Heap) (n0 : Nat) (v : Option Value) (h : Heap) (L : List Loc) : Prop := v = none ∧ Fr n0 L ∧ h = h0
set_option maxRecDepth 65536 in
set_option maxHeartbeats 40000000 in
theorem rm1 (l : Launch) (Z : State) (a0 : Array Value) (hw : ∀ d ∈ tables_1, d.before a0 Z = true) (ws : List Jvm.Cond) (a1 : Addr) (h0 : Heap) (n0 : Nat) (Z0 : n0 ≤ h0.size) :
    MetFree l (⟨"com/example/antechamber/antechamber/DatabaseSocket$Turn", "<init>", "()V"⟩ : MethodName) (head1 (Jvm.Cond.code (⟨"com/example/antechamber/antechamber/DatabaseSocket$Turn", "<init>", "()V"⟩ : MethodName) prog_14_method_1_code 1 none :: ws) ({ frames := 1, cells := 0, slots := 0, locals := 12 } : Room)) (fun a U => a = #[(.ref a1)] ∧ Z.Warmed39 U.vm ∧ U.heap = h0) (fun _ _ _ _ _ => True) (fun _ U o U' => ∃ v L, o = .returned v ∧ Q1 Z a1 h0 n0 v U'.heap L ∧ FrameEnd U o U' L ({ frames := 1, cells := 0, slots := 0, locals := 12 } : Room).cells ({ frames := 1, cells := 0, slots := 0, locals := 12 } : Room).slots) := by
  refine MetFree.of_bodySF (plainFor_of_name pn_1) hisR ?_
  intro p e s m args below meth c s₁ Bd hml0 hP hK
  obtain ⟨rfl, hZ, hh⟩ := hP
  have hx := Bd.exec
  have hby := Bd.bytes
  have hml : c.maxLocals = 1 := hml0
  have hown : s.vm.findClass "com/example/antechamber/antechamber/DatabaseSocket$Turn" = some m.cls := findClass_of_methodNamed Bd.named
  have hnm := (name_of_methodNamed Bd.named Bd.method).1
  have X0 : Stand p l e ({ frames := 1, cells := 0, slots := 0, locals := 12 } : Room) s m #[(.ref a1)] below meth c s₁ [] 0 0 := Stand.of_body Bd
  have e0 : s₁.heap = h0 := by rw [← hh, Bd.state]; rfl
  have N0 := Fr.nil n0
  have pre0 : ∀ t, Steps p.tables e below (s₁.setTop (mkF m 0 #[.val (.ref a1)] [])) t → Steps p.tables e below (s₁.setTop (entryFrame m #[(.ref a1)] 1)) t := fun t k => castTop (ef_1 m a1) k
  -- 3. LAWS
  obtain ⟨T2, X2, e2, st2⟩ := initO X0 hx hZ hown (hw _ (List.mem_of_getElem? (i := 6) rfl)) (hw _ (List.mem_of_getElem? (i := 7) rfl)) (hw _ (List.mem_of_getElem? (i := 8) rfl)) e0 (g := (mkF m 1 #[.val (.ref a1)] [(.ref a1)])) rfl (by rw [hml]; rfl) rfl (hb hby d1_1) (by decide) (W := 0) (by show 2 * 0 + _ ≤ _; exact Nat.le_of_eq rfl) (by decide)
  obtain ⟨fs, hr, hrun, hended, hW, hsame⟩ := X2.leave (v := none) (fun _ => rfl)
  refine ⟨_, _, pre0 _ ?_, hrun, hended, _, _, rfl, ?_, ⟨_, rfl⟩, hW, hsame.mono (by decide) (by decide)⟩
  -- 4. STEPS
  · show Steps p.tables e below (s₁.setTop (mkF m 0 #[.val (.ref a1)] [])) _
    refine XS.aloadN X0.here hx rfl (hb hby d1_0) rfl rfl ?_
    show Steps p.tables e below (s₁.setTop (mkF m 1 #[.val (.ref a1)] [(.ref a1)])) _
    refine st2 _ ?_
    show Steps p.tables e below (T2.setTop (mkF m 4 #[.val (.ref a1)] [])) _
    exact X2.returnOut hx Bd.returns (hb hby d1_4) hr
  · show Q1 Z a1 h0 n0 _ T2.heap _
    rw [e2]
    exact ⟨rfl, N0, rfl⟩
def QT (Z : State) (a1 : Addr) (d : Int32) (B : Int64) (h0 : Heap) (n0 : Nat) (v : Option Value) (h : Heap) (L : List Loc) : Prop := v = none ∧ Fr n0 L ∧ Keep h0 h [a1] ∧ Exa Z h a1 "com/example/antechamber/antechamber/DatabaseSocket$Turn" ∧ Fld Z h a1 "com/example/antechamber/antechamber/DatabaseSocket$Turn" "answerDue" "Z" (.int d) ∧ Fld Z h a1 "com/example/antechamber/antechamber/DatabaseSocket$Turn" "answerBytes" "J" (.long B)
theorem d3_0 : decode prog_14_method_2_code 0 = .ok (.aload_n 0, 1) := by decide +kernel
theorem d3_1 : decode prog_14_method_2_code 1 = .ok (.iconst 1, 1) := by decide +kernel
theorem d3_2 : decode prog_14_method_2_code 2 = .ok (.putfield 7, 3) := by decide +kernel
theorem d3_5 : decode prog_14_method_2_code 5 = .ok (.return_, 1) := by decide +kernel
theorem pn_3 : plainName "com/example/antechamber/antechamber/DatabaseSocket$Turn" = true := by first | (simp [plainName, overriddenIn]; done) | decide +kernel
theorem ef_3 (m : MethodId) (x0 : Addr) : entryFrame m #[(.ref x0)] 1 = mkF m 0 #[.val (.ref x0)] [] := by first | (simp [entryFrame, mkF, argsToLocals, Value.category]; done) | rfl
set_option maxRecDepth 65536 in
set_option maxHeartbeats 40000000 in
theorem rm3 (l : Launch) (Z : State) (a0 : Array Value) (hw : ∀ d ∈ tables_1, d.before a0 Z = true) (ws : List Jvm.Cond) (a1 : Addr) (w3 : Int32) (w5 : Int64) (h0 : Heap) (n0 : Nat) (Z0 : n0 ≤ h0.size) (E_a1 : Exa Z h0 a1 "com/example/antechamber/antechamber/DatabaseSocket$Turn") (F_answerDue_a1 : Fld Z h0 a1 "com/example/antechamber/antechamber/DatabaseSocket$Turn" "answerDue" "Z" (.int w3)) (F_answerBytes_a1 : Fld Z h0 a1 "com/example/antechamber/antechamber/DatabaseSocket$Turn" "answerBytes" "J" (.long w5)) (g_a1 : n0 ≤ a1) :
    MetFree l (⟨"com/example/antechamber/antechamber/DatabaseSocket$Turn", "sent", "()V"⟩ : MethodName) (head1 (Jvm.Cond.code (⟨"com/example/antechamber/antechamber/DatabaseSocket$Turn", "sent", "()V"⟩ : MethodName) prog_14_method_2_code 1 none :: ws) ({ frames := 0, cells := 0, slots := 0, locals := 0 } : Room)) (fun a U => a = #[(.ref a1)] ∧ Z.Warmed39 U.vm ∧ U.heap = h0) (fun _ _ _ _ _ => True) (fun _ U o U' => ∃ v L, o = .returned v ∧ QT Z a1 1 w5 h0 n0 v U'.heap L ∧ FrameEnd U o U' L ({ frames := 0, cells := 0, slots := 0, locals := 0 } : Room).cells ({ frames := 0, cells := 0, slots := 0, locals := 0 } : Room).slots) := by
  refine MetFree.of_bodySF (plainFor_of_name pn_3) hisR ?_
  intro p e s m args below meth c s₁ Bd hml0 hP hK
  obtain ⟨rfl, hZ, hh⟩ := hP
  have hx := Bd.exec
  have hby := Bd.bytes
  have hml : c.maxLocals = 1 := hml0
  have hown : s.vm.findClass "com/example/antechamber/antechamber/DatabaseSocket$Turn" = some m.cls := findClass_of_methodNamed Bd.named
  have hnm := (name_of_methodNamed Bd.named Bd.method).1
  have X0 : Stand p l e ({ frames := 0, cells := 0, slots := 0, locals := 0 } : Room) s m #[(.ref a1)] below meth c s₁ [] 0 0 := Stand.of_body Bd
  have e0 : s₁.heap = h0 := by rw [← hh, Bd.state]; rfl
  have N0 := Fr.nil n0
  have pre0 : ∀ t, Steps p.tables e below (s₁.setTop (mkF m 0 #[.val (.ref a1)] [])) t → Steps p.tables e below (s₁.setTop (entryFrame m #[(.ref a1)] 1)) t := fun t k => castTop (ef_3 m a1) k
  -- 3. LAWS
  obtain ⟨T2, h2, X2, e2, W2, st2⟩ := putFN X0 hx hZ hown (hw _ (List.mem_of_getElem? (i := 14) rfl)) Via.refl e0 F_answerDue_a1 E_a1 (Or.inl (hw _ (List.mem_of_getElem? (i := 15) rfl))) (hw _ (List.mem_of_getElem? (i := 1) rfl)) (ty := .boolean) (v' := (.int (1 : Int32))) (by decide) rfl (by decide) (g := (mkF m 2 #[.val (.ref a1)] [(.int (1 : Int32)), (.ref a1)])) rfl rfl (hb hby d3_2)
  have Fw2 := F_answerDue_a1.same W2      -- the field now holds (.int (1 : Int32))
  have K2 : Keep h0 h2 [a1] := (Keep.refl h0 [a1]).wr W2 (Or.inl (List.mem_of_getElem? (i := 0) rfl))
  have N2 := Fr.snoc X2 N0 g_a1
  obtain ⟨fs, hr, hrun, hended, hW, hsame⟩ := X2.leave (v := none) (fun _ => rfl)
  refine ⟨_, _, pre0 _ ?_, hrun, hended, _, _, rfl, ?_, ⟨_, rfl⟩, hW, hsame.mono (by decide) (by decide)⟩
  -- 4. STEPS
  · show Steps p.tables e below (s₁.setTop (mkF m 0 #[.val (.ref a1)] [])) _
    refine XS.aloadN X0.here hx rfl (hb hby d3_0) rfl rfl ?_
    show Steps p.tables e below (s₁.setTop (mkF m 1 #[.val (.ref a1)] [(.ref a1)])) _
    refine XS.iconst X0.here hx rfl (hb hby d3_1) ?_
    show Steps p.tables e below (s₁.setTop (mkF m 2 #[.val (.ref a1)] [(.int (1 : Int32)), (.ref a1)])) _
    refine st2 _ ?_
    show Steps p.tables e below (T2.setTop (mkF m 5 #[.val (.ref a1)] [])) _
    exact X2.returnOut hx Bd.returns (hb hby d3_5) hr
  · show QT Z a1 1 w5 h0 n0 _ T2.heap _
    rw [e2]
    exact ⟨rfl, N2, K2, (E_a1.wr W2), Fw2, F_answerBytes_a1.other W2 (Or.inr (slot_ne (Or.inl (hw _ (List.mem_of_getElem? (i := 32) rfl))) (Or.inl (hw _ (List.mem_of_getElem? (i := 15) rfl))) (by decide) (t := .long) (t' := .boolean) (by decide) (by decide)))⟩
theorem d4_0 : decode prog_14_method_4_code 0 = .ok (.iload_n 1, 1) := by decide +kernel
theorem d4_1 : decode prog_14_method_4_code 1 = .ok (.ifCond .le 26, 3) := by decide +kernel
theorem d4_27 : decode prog_14_method_4_code 27 = .ok (.iload_n 1, 1) := by decide +kernel
theorem d4_28 : decode prog_14_method_4_code 28 = .ok (.ifCond .eq 8, 3) := by decide +kernel
theorem d4_36 : decode prog_14_method_4_code 36 = .ok (.return_, 1) := by decide +kernel
theorem pn_4 : plainName "com/example/antechamber/antechamber/DatabaseSocket$Turn" = true := by first | (simp [plainName, overriddenIn]; done) | decide +kernel
theorem ef_4 (m : MethodId) (x0 : Addr) (x1 : Int32) : entryFrame m #[(.ref x0), (.int x1)] 2 = mkF m 0 #[.val (.ref x0), .val (.int x1)] [] := by first | (simp [entryFrame, mkF, argsToLocals, Value.category]; done) | rfl
set_option maxRecDepth 65536 in
set_option maxHeartbeats 40000000 in
theorem rm4_tt (l : Launch) (Z : State) (a0 : Array Value) (hw : ∀ d ∈ tables_1, d.before a0 Z = true) (ws : List Jvm.Cond) (a1 : Addr) (p2 : Int32) (w3 : Int32) (w5 : Int64) (h0 : Heap) (n0 : Nat) (Z0 : n0 ≤ h0.size) (E_a1 : Exa Z h0 a1 "com/example/antechamber/antechamber/DatabaseSocket$Turn") (F_answerDue_a1 : Fld Z h0 a1 "com/example/antechamber/antechamber/DatabaseSocket$Turn" "answerDue" "Z" (.int w3)) (F_answerBytes_a1 : Fld Z h0 a1 "com/example/antechamber/antechamber/DatabaseSocket$Turn" "answerBytes" "J" (.long w5)) (g_a1 : n0 ≤ a1) (hc1 : ¬ ((0 : Int32) < p2)) (hc28 : p2 = (0 : Int32)) :
    MetFree l (⟨"com/example/antechamber/antechamber/DatabaseSocket$Turn", "took", "(I)V"⟩ : MethodName) (head1 (Jvm.Cond.code (⟨"com/example/antechamber/antechamber/DatabaseSocket$Turn", "took", "(I)V"⟩ : MethodName) prog_14_method_4_code 2 none :: ws) ({ frames := 0, cells := 0, slots := 0, locals := 0 } : Room)) (fun a U => a = #[(.ref a1), (.int p2)] ∧ Z.Warmed39 U.vm ∧ U.heap = h0) (fun _ _ _ _ _ => True) (fun _ U o U' => ∃ v L, o = .returned v ∧ QT Z a1 w3 w5 h0 n0 v U'.heap L ∧ FrameEnd U o U' L ({ frames := 0, cells := 0, slots := 0, locals := 0 } : Room).cells ({ frames := 0, cells := 0, slots := 0, locals := 0 } : Room).slots) := by
  refine MetFree.of_bodySF (plainFor_of_name pn_4) hisR ?_
  intro p e s m args below meth c s₁ Bd hml0 hP hK
  obtain ⟨rfl, hZ, hh⟩ := hP
  have hx := Bd.exec
  have hby := Bd.bytes
  have hml : c.maxLocals = 2 := hml0
  have hown : s.vm.findClass "com/example/antechamber/antechamber/DatabaseSocket$Turn" = some m.cls := findClass_of_methodNamed Bd.named
  have hnm := (name_of_methodNamed Bd.named Bd.method).1
  have X0 : Stand p l e ({ frames := 0, cells := 0, slots := 0, locals := 0 } : Room) s m #[(.ref a1), (.int p2)] below meth c s₁ [] 0 0 := Stand.of_body Bd
  have e0 : s₁.heap = h0 := by rw [← hh, Bd.state]; rfl
  have N0 := Fr.nil n0
  have pre0 : ∀ t, Steps p.tables e below (s₁.setTop (mkF m 0 #[.val (.ref a1), .val (.int p2)] [])) t → Steps p.tables e below (s₁.setTop (entryFrame m #[(.ref a1), (.int p2)] 2)) t := fun t k => castTop (ef_4 m a1 p2) k
  -- 3. LAWS

  obtain ⟨fs, hr, hrun, hended, hW, hsame⟩ := X0.leave (v := none) (fun _ => rfl)
  refine ⟨_, _, pre0 _ ?_, hrun, hended, _, _, rfl, ?_, ⟨_, rfl⟩, hW, hsame.mono (by decide) (by decide)⟩
  -- 4. STEPS
  · show Steps p.tables e below (s₁.setTop (mkF m 0 #[.val (.ref a1), .val (.int p2)] [])) _
    refine XS.iloadN X0.here hx rfl (hb hby d4_0) rfl ?_
    show Steps p.tables e below (s₁.setTop (mkF m 1 #[.val (.ref a1), .val (.int p2)] [(.int p2)])) _
    refine XS.ifYes X0.here hx rfl (pc0 := 1) (pc' := 27) rfl (hb hby d4_1) rfl ((if0 _ _).trans (flt hc1).2.2.2) (by decide) (by decide) ?_
    show Steps p.tables e below (s₁.setTop (mkF m 27 #[.val (.ref a1), .val (.int p2)] [])) _
    refine XS.iloadN X0.here hx rfl (hb hby d4_27) rfl ?_
    show Steps p.tables e below (s₁.setTop (mkF m 28 #[.val (.ref a1), .val (.int p2)] [(.int p2)])) _
    refine XS.ifYes X0.here hx rfl (pc0 := 28) (pc' := 36) rfl (hb hby d4_28) rfl ((if0 _ _).trans (teq hc28).1) (by decide) (by decide) ?_
    show Steps p.tables e below (s₁.setTop (mkF m 36 #[.val (.ref a1), .val (.int p2)] [])) _
    exact X0.returnOut hx Bd.returns (hb hby d4_36) hr
  · show QT Z a1 w3 w5 h0 n0 _ s₁.heap _
    rw [e0]
    exact ⟨rfl, N0, Keep.refl h0 [a1], E_a1, F_answerDue_a1, F_answerBytes_a1⟩
theorem d4_31 : decode prog_14_method_4_code 31 = .ok (.aload_n 0, 1) := by decide +kernel
theorem d4_32 : decode prog_14_method_4_code 32 = .ok (.iconst 0, 1) := by decide +kernel
theorem d4_33 : decode prog_14_method_4_code 33 = .ok (.putfield 7, 3) := by decide +kernel
set_option maxRecDepth 65536 in
set_option maxHeartbeats 40000000 in
theorem rm4_tf (l : Launch) (Z : State) (a0 : Array Value) (hw : ∀ d ∈ tables_1, d.before a0 Z = true) (ws : List Jvm.Cond) (a1 : Addr) (p2 : Int32) (w3 : Int32) (w5 : Int64) (h0 : Heap) (n0 : Nat) (Z0 : n0 ≤ h0.size) (E_a1 : Exa Z h0 a1 "com/example/antechamber/antechamber/DatabaseSocket$Turn") (F_answerDue_a1 : Fld Z h0 a1 "com/example/antechamber/antechamber/DatabaseSocket$Turn" "answerDue" "Z" (.int w3)) (F_answerBytes_a1 : Fld Z h0 a1 "com/example/antechamber/antechamber/DatabaseSocket$Turn" "answerBytes" "J" (.long w5)) (g_a1 : n0 ≤ a1) (hc1 : ¬ ((0 : Int32) < p2)) (hc28 : ¬ (p2 = (0 : Int32))) :
    MetFree l (⟨"com/example/antechamber/antechamber/DatabaseSocket$Turn", "took", "(I)V"⟩ : MethodName) (head1 (Jvm.Cond.code (⟨"com/example/antechamber/antechamber/DatabaseSocket$Turn", "took", "(I)V"⟩ : MethodName) prog_14_method_4_code 2 none :: ws) ({ frames := 0, cells := 0, slots := 0, locals := 0 } : Room)) (fun a U => a = #[(.ref a1), (.int p2)] ∧ Z.Warmed39 U.vm ∧ U.heap = h0) (fun _ _ _ _ _ => True) (fun _ U o U' => ∃ v L, o = .returned v ∧ QT Z a1 0 w5 h0 n0 v U'.heap L ∧ FrameEnd U o U' L ({ frames := 0, cells := 0, slots := 0, locals := 0 } : Room).cells ({ frames := 0, cells := 0, slots := 0, locals := 0 } : Room).slots) := by
  refine MetFree.of_bodySF (plainFor_of_name pn_4) hisR ?_
  intro p e s m args below meth c s₁ Bd hml0 hP hK
  obtain ⟨rfl, hZ, hh⟩ := hP
  have hx := Bd.exec
  have hby := Bd.bytes
  have hml : c.maxLocals = 2 := hml0
  have hown : s.vm.findClass "com/example/antechamber/antechamber/DatabaseSocket$Turn" = some m.cls := findClass_of_methodNamed Bd.named
  have hnm := (name_of_methodNamed Bd.named Bd.method).1
  have X0 : Stand p l e ({ frames := 0, cells := 0, slots := 0, locals := 0 } : Room) s m #[(.ref a1), (.int p2)] below meth c s₁ [] 0 0 := Stand.of_body Bd
  have e0 : s₁.heap = h0 := by rw [← hh, Bd.state]; rfl
  have N0 := Fr.nil n0
  have pre0 : ∀ t, Steps p.tables e below (s₁.setTop (mkF m 0 #[.val (.ref a1), .val (.int p2)] [])) t → Steps p.tables e below (s₁.setTop (entryFrame m #[(.ref a1), (.int p2)] 2)) t := fun t k => castTop (ef_4 m a1 p2) k
  -- 3. LAWS
  obtain ⟨T3, h3, X3, e3, W3, st3⟩ := putFN X0 hx hZ hown (hw _ (List.mem_of_getElem? (i := 14) rfl)) Via.refl e0 F_answerDue_a1 E_a1 (Or.inl (hw _ (List.mem_of_getElem? (i := 15) rfl))) (hw _ (List.mem_of_getElem? (i := 1) rfl)) (ty := .boolean) (v' := (.int (0 : Int32))) (by decide) rfl (by decide) (g := (mkF m 33 #[.val (.ref a1), .val (.int p2)] [(.int (0 : Int32)), (.ref a1)])) rfl rfl (hb hby d4_33)
  have Fw3 := F_answerDue_a1.same W3      -- the field now holds (.int (0 : Int32))
  have K3 : Keep h0 h3 [a1] := (Keep.refl h0 [a1]).wr W3 (Or.inl (List.mem_of_getElem? (i := 0) rfl))
  have N3 := Fr.snoc X3 N0 g_a1
  obtain ⟨fs, hr, hrun, hended, hW, hsame⟩ := X3.leave (v := none) (fun _ => rfl)
  refine ⟨_, _, pre0 _ ?_, hrun, hended, _, _, rfl, ?_, ⟨_, rfl⟩, hW, hsame.mono (by decide) (by decide)⟩
  -- 4. STEPS
  · show Steps p.tables e below (s₁.setTop (mkF m 0 #[.val (.ref a1), .val (.int p2)] [])) _
    refine XS.iloadN X0.here hx rfl (hb hby d4_0) rfl ?_
    show Steps p.tables e below (s₁.setTop (mkF m 1 #[.val (.ref a1), .val (.int p2)] [(.int p2)])) _
    refine XS.ifYes X0.here hx rfl (pc0 := 1) (pc' := 27) rfl (hb hby d4_1) rfl ((if0 _ _).trans (flt hc1).2.2.2) (by decide) (by decide) ?_
    show Steps p.tables e below (s₁.setTop (mkF m 27 #[.val (.ref a1), .val (.int p2)] [])) _
    refine XS.iloadN X0.here hx rfl (hb hby d4_27) rfl ?_
    show Steps p.tables e below (s₁.setTop (mkF m 28 #[.val (.ref a1), .val (.int p2)] [(.int p2)])) _
    refine XS.ifNo X0.here hx rfl (hb hby d4_28) rfl ((if0 _ _).trans (feq hc28).1) ?_
    show Steps p.tables e below (s₁.setTop (mkF m 31 #[.val (.ref a1), .val (.int p2)] [])) _
    refine XS.aloadN X0.here hx rfl (hb hby d4_31) rfl rfl ?_
    show Steps p.tables e below (s₁.setTop (mkF m 32 #[.val (.ref a1), .val (.int p2)] [(.ref a1)])) _
    refine XS.iconst X0.here hx rfl (hb hby d4_32) ?_
    show Steps p.tables e below (s₁.setTop (mkF m 33 #[.val (.ref a1), .val (.int p2)] [(.int (0 : Int32)), (.ref a1)])) _
    refine st3 _ ?_
    show Steps p.tables e below (T3.setTop (mkF m 36 #[.val (.ref a1), .val (.int p2)] [])) _
    exact X3.returnOut hx Bd.returns (hb hby d4_36) hr
  · show QT Z a1 0 w5 h0 n0 _ T3.heap _
    rw [e3]
    exact ⟨rfl, N3, K3, (E_a1.wr W3), Fw3, F_answerBytes_a1.other W3 (Or.inr (slot_ne (Or.inl (hw _ (List.mem_of_getElem? (i := 32) rfl))) (Or.inl (hw _ (List.mem_of_getElem? (i := 15) rfl))) (by decide) (t := .long) (t' := .boolean) (by decide) (by decide)))⟩
theorem d4_4 : decode prog_14_method_4_code 4 = .ok (.aload_n 0, 1) := by decide +kernel
theorem d4_5 : decode prog_14_method_4_code 5 = .ok (.aload_n 0, 1) := by decide +kernel
theorem d4_6 : decode prog_14_method_4_code 6 = .ok (.getfield 7, 3) := by decide +kernel
theorem d4_9 : decode prog_14_method_4_code 9 = .ok (.ifCond .eq 8, 3) := by decide +kernel
theorem d4_17 : decode prog_14_method_4_code 17 = .ok (.aload_n 0, 1) := by decide +kernel
theorem d4_18 : decode prog_14_method_4_code 18 = .ok (.getfield 13, 3) := by decide +kernel
theorem d4_21 : decode prog_14_method_4_code 21 = .ok (.iload_n 1, 1) := by decide +kernel
theorem d4_22 : decode prog_14_method_4_code 22 = .ok (.i2l, 1) := by decide +kernel
theorem d4_23 : decode prog_14_method_4_code 23 = .ok (.ladd, 1) := by decide +kernel
theorem d4_24 : decode prog_14_method_4_code 24 = .ok (.putfield 13, 3) := by decide +kernel
set_option maxRecDepth 65536 in
set_option maxHeartbeats 40000000 in
theorem rm4_ftf (l : Launch) (Z : State) (a0 : Array Value) (hw : ∀ d ∈ tables_1, d.before a0 Z = true) (ws : List Jvm.Cond) (a1 : Addr) (p2 : Int32) (w3 : Int32) (w5 : Int64) (h0 : Heap) (n0 : Nat) (Z0 : n0 ≤ h0.size) (E_a1 : Exa Z h0 a1 "com/example/antechamber/antechamber/DatabaseSocket$Turn") (F_answerDue_a1 : Fld Z h0 a1 "com/example/antechamber/antechamber/DatabaseSocket$Turn" "answerDue" "Z" (.int w3)) (F_answerBytes_a1 : Fld Z h0 a1 "com/example/antechamber/antechamber/DatabaseSocket$Turn" "answerBytes" "J" (.long w5)) (g_a1 : n0 ≤ a1) (hc1 : (0 : Int32) < p2) (hc9 : w3 = (0 : Int32)) (hc28 : ¬ (p2 = (0 : Int32))) :
    MetFree l (⟨"com/example/antechamber/antechamber/DatabaseSocket$Turn", "took", "(I)V"⟩ : MethodName) (head1 (Jvm.Cond.code (⟨"com/example/antechamber/antechamber/DatabaseSocket$Turn", "took", "(I)V"⟩ : MethodName) prog_14_method_4_code 2 none :: ws) ({ frames := 0, cells := 0, slots := 0, locals := 0 } : Room)) (fun a U => a = #[(.ref a1), (.int p2)] ∧ Z.Warmed39 U.vm ∧ U.heap = h0) (fun _ _ _ _ _ => True) (fun _ U o U' => ∃ v L, o = .returned v ∧ QT Z a1 0 (w5 + p2.toInt64) h0 n0 v U'.heap L ∧ FrameEnd U o U' L ({ frames := 0, cells := 0, slots := 0, locals := 0 } : Room).cells ({ frames := 0, cells := 0, slots := 0, locals := 0 } : Room).slots) := by
  refine MetFree.of_bodySF (plainFor_of_name pn_4) hisR ?_
  intro p e s m args below meth c s₁ Bd hml0 hP hK
  obtain ⟨rfl, hZ, hh⟩ := hP
  have hx := Bd.exec
  have hby := Bd.bytes
  have hml : c.maxLocals = 2 := hml0
  have hown : s.vm.findClass "com/example/antechamber/antechamber/DatabaseSocket$Turn" = some m.cls := findClass_of_methodNamed Bd.named
  have hnm := (name_of_methodNamed Bd.named Bd.method).1
  have X0 : Stand p l e ({ frames := 0, cells := 0, slots := 0, locals := 0 } : Room) s m #[(.ref a1), (.int p2)] below meth c s₁ [] 0 0 := Stand.of_body Bd
  have e0 : s₁.heap = h0 := by rw [← hh, Bd.state]; rfl
  have N0 := Fr.nil n0
  have pre0 : ∀ t, Steps p.tables e below (s₁.setTop (mkF m 0 #[.val (.ref a1), .val (.int p2)] [])) t → Steps p.tables e below (s₁.setTop (entryFrame m #[(.ref a1), (.int p2)] 2)) t := fun t k => castTop (ef_4 m a1 p2) k
  -- 3. LAWS
  obtain ⟨T4, X4, e4, st4⟩ := getF X0 hx hZ hown (host := "") (Or.inl (hw _ (List.mem_of_getElem? (i := 14) rfl))) Via.refl e0 F_answerDue_a1 (g := (mkF m 6 #[.val (.ref a1), .val (.int p2)] [(.ref a1), (.ref a1)])) rfl rfl (hb hby d4_6)
  obtain ⟨T6, X6, e6, st6⟩ := getF X4 hx hZ hown (host := "") (Or.inl (hw _ (List.mem_of_getElem? (i := 31) rfl))) Via.refl e4 F_answerBytes_a1 (g := (mkF m 18 #[.val (.ref a1), .val (.int p2)] [(.ref a1), (.ref a1)])) rfl rfl (hb hby d4_18)
  obtain ⟨T7, h7, X7, e7, W7, st7⟩ := putF X6 hx hZ hown (host := "") (Or.inl (hw _ (List.mem_of_getElem? (i := 31) rfl))) Via.refl e6 F_answerBytes_a1 E_a1 (Or.inl (hw _ (List.mem_of_getElem? (i := 32) rfl))) (hw _ (List.mem_of_getElem? (i := 1) rfl)) (ty := .long) (by decide) rfl rfl (g := (mkF m 24 #[.val (.ref a1), .val (.int p2)] [(.long (w5 + (p2.toInt64))), (.ref a1)])) rfl rfl (hb hby d4_24)
  have Fw7 := F_answerBytes_a1.same W7      -- the field now holds (.long (w5 + (p2.toInt64)))
  have K7 : Keep h0 h7 [a1] := (Keep.refl h0 [a1]).wr W7 (Or.inl (List.mem_of_getElem? (i := 0) rfl))
  have N7 := Fr.snoc X7 N0 g_a1
  obtain ⟨T8, h8, X8, e8, W8, st8⟩ := putFN X7 hx hZ hown (hw _ (List.mem_of_getElem? (i := 14) rfl)) Via.refl e7 (F_answerDue_a1.other W7 (Or.inr (slot_ne (Or.inl (hw _ (List.mem_of_getElem? (i := 15) rfl))) (Or.inl (hw _ (List.mem_of_getElem? (i := 32) rfl))) (by decide) (t := .boolean) (t' := .long) (by decide) (by decide)))) (E_a1.wr W7) (Or.inl (hw _ (List.mem_of_getElem? (i := 15) rfl))) (hw _ (List.mem_of_getElem? (i := 1) rfl)) (ty := .boolean) (v' := (.int (0 : Int32))) (by decide) rfl (by decide) (g := (mkF m 33 #[.val (.ref a1), .val (.int p2)] [(.int (0 : Int32)), (.ref a1)])) rfl rfl (hb hby d4_33)
  have Fw8 := (F_answerDue_a1.other W7 (Or.inr (slot_ne (Or.inl (hw _ (List.mem_of_getElem? (i := 15) rfl))) (Or.inl (hw _ (List.mem_of_getElem? (i := 32) rfl))) (by decide) (t := .boolean) (t' := .long) (by decide) (by decide)))).same W8      -- the field now holds (.int (0 : Int32))
  have K8 : Keep h0 h8 [a1] := K7.wr W8 (Or.inl (List.mem_of_getElem? (i := 0) rfl))
  have N8 := Fr.snoc X8 N7 g_a1
  obtain ⟨fs, hr, hrun, hended, hW, hsame⟩ := X8.leave (v := none) (fun _ => rfl)
  refine ⟨_, _, pre0 _ ?_, hrun, hended, _, _, rfl, ?_, ⟨_, rfl⟩, hW, hsame.mono (by decide) (by decide)⟩
  -- 4. STEPS
  · show Steps p.tables e below (s₁.setTop (mkF m 0 #[.val (.ref a1), .val (.int p2)] [])) _
    refine XS.iloadN X0.here hx rfl (hb hby d4_0) rfl ?_
    show Steps p.tables e below (s₁.setTop (mkF m 1 #[.val (.ref a1), .val (.int p2)] [(.int p2)])) _
    refine XS.ifNo X0.here hx rfl (hb hby d4_1) rfl ((if0 _ _).trans (tlt hc1).2.2.2) ?_
    show Steps p.tables e below (s₁.setTop (mkF m 4 #[.val (.ref a1), .val (.int p2)] [])) _
    refine XS.aloadN X0.here hx rfl (hb hby d4_4) rfl rfl ?_
    show Steps p.tables e below (s₁.setTop (mkF m 5 #[.val (.ref a1), .val (.int p2)] [(.ref a1)])) _
    refine XS.aloadN X0.here hx rfl (hb hby d4_5) rfl rfl ?_
    show Steps p.tables e below (s₁.setTop (mkF m 6 #[.val (.ref a1), .val (.int p2)] [(.ref a1), (.ref a1)])) _
    refine st4 _ ?_
    show Steps p.tables e below (T4.setTop (mkF m 9 #[.val (.ref a1), .val (.int p2)] [(.int w3), (.ref a1)])) _
    refine XS.ifYes X4.here hx rfl (pc0 := 9) (pc' := 17) rfl (hb hby d4_9) rfl ((if0 _ _).trans (teq hc9).1) (by decide) (by decide) ?_
    show Steps p.tables e below (T4.setTop (mkF m 17 #[.val (.ref a1), .val (.int p2)] [(.ref a1)])) _
    refine XS.aloadN X4.here hx rfl (hb hby d4_17) rfl rfl ?_
    show Steps p.tables e below (T4.setTop (mkF m 18 #[.val (.ref a1), .val (.int p2)] [(.ref a1), (.ref a1)])) _
    refine st6 _ ?_
    show Steps p.tables e below (T6.setTop (mkF m 21 #[.val (.ref a1), .val (.int p2)] [(.long w5), (.ref a1)])) _
    refine XS.iloadN X6.here hx rfl (hb hby d4_21) rfl ?_
    show Steps p.tables e below (T6.setTop (mkF m 22 #[.val (.ref a1), .val (.int p2)] [(.int p2), (.long w5), (.ref a1)])) _
    refine XS.i2l X6.here hx rfl (hb hby d4_22) rfl ?_
    show Steps p.tables e below (T6.setTop (mkF m 23 #[.val (.ref a1), .val (.int p2)] [(.long (p2.toInt64)), (.long w5), (.ref a1)])) _
    refine XS.ladd X6.here hx rfl (hb hby d4_23) rfl ?_
    show Steps p.tables e below (T6.setTop (mkF m 24 #[.val (.ref a1), .val (.int p2)] [(.long (w5 + (p2.toInt64))), (.ref a1)])) _
    refine st7 _ ?_
    show Steps p.tables e below (T7.setTop (mkF m 27 #[.val (.ref a1), .val (.int p2)] [])) _
    refine XS.iloadN X7.here hx rfl (hb hby d4_27) rfl ?_
    show Steps p.tables e below (T7.setTop (mkF m 28 #[.val (.ref a1), .val (.int p2)] [(.int p2)])) _
    refine XS.ifNo X7.here hx rfl (hb hby d4_28) rfl ((if0 _ _).trans (feq hc28).1) ?_
    show Steps p.tables e below (T7.setTop (mkF m 31 #[.val (.ref a1), .val (.int p2)] [])) _
    refine XS.aloadN X7.here hx rfl (hb hby d4_31) rfl rfl ?_
    show Steps p.tables e below (T7.setTop (mkF m 32 #[.val (.ref a1), .val (.int p2)] [(.ref a1)])) _
    refine XS.iconst X7.here hx rfl (hb hby d4_32) ?_
    show Steps p.tables e below (T7.setTop (mkF m 33 #[.val (.ref a1), .val (.int p2)] [(.int (0 : Int32)), (.ref a1)])) _
    refine st8 _ ?_
    show Steps p.tables e below (T8.setTop (mkF m 36 #[.val (.ref a1), .val (.int p2)] [])) _
    exact X8.returnOut hx Bd.returns (hb hby d4_36) hr
  · show QT Z a1 0 (w5 + p2.toInt64) h0 n0 _ T8.heap _
    rw [e8]
    exact ⟨rfl, N8, K8, ((E_a1.wr W7).wr W8), Fw8, (Fw7.other W8 (Or.inr (slot_ne (Or.inl (hw _ (List.mem_of_getElem? (i := 32) rfl))) (Or.inl (hw _ (List.mem_of_getElem? (i := 15) rfl))) (by decide) (t := .long) (t' := .boolean) (by decide) (by decide))))⟩
theorem d4_12 : decode prog_14_method_4_code 12 = .ok (.iload_n 1, 1) := by decide +kernel
theorem d4_13 : decode prog_14_method_4_code 13 = .ok (.i2l, 1) := by decide +kernel
theorem d4_14 : decode prog_14_method_4_code 14 = .ok (.goto 10, 3) := by decide +kernel
set_option maxRecDepth 65536 in
set_option maxHeartbeats 40000000 in
theorem rm4_fff (l : Launch) (Z : State) (a0 : Array Value) (hw : ∀ d ∈ tables_1, d.before a0 Z = true) (ws : List Jvm.Cond) (a1 : Addr) (p2 : Int32) (w3 : Int32) (w5 : Int64) (h0 : Heap) (n0 : Nat) (Z0 : n0 ≤ h0.size) (E_a1 : Exa Z h0 a1 "com/example/antechamber/antechamber/DatabaseSocket$Turn") (F_answerDue_a1 : Fld Z h0 a1 "com/example/antechamber/antechamber/DatabaseSocket$Turn" "answerDue" "Z" (.int w3)) (F_answerBytes_a1 : Fld Z h0 a1 "com/example/antechamber/antechamber/DatabaseSocket$Turn" "answerBytes" "J" (.long w5)) (g_a1 : n0 ≤ a1) (hc1 : (0 : Int32) < p2) (hc9 : ¬ (w3 = (0 : Int32))) (hc28 : ¬ (p2 = (0 : Int32))) :
    MetFree l (⟨"com/example/antechamber/antechamber/DatabaseSocket$Turn", "took", "(I)V"⟩ : MethodName) (head1 (Jvm.Cond.code (⟨"com/example/antechamber/antechamber/DatabaseSocket$Turn", "took", "(I)V"⟩ : MethodName) prog_14_method_4_code 2 none :: ws) ({ frames := 0, cells := 0, slots := 0, locals := 0 } : Room)) (fun a U => a = #[(.ref a1), (.int p2)] ∧ Z.Warmed39 U.vm ∧ U.heap = h0) (fun _ _ _ _ _ => True) (fun _ U o U' => ∃ v L, o = .returned v ∧ QT Z a1 0 p2.toInt64 h0 n0 v U'.heap L ∧ FrameEnd U o U' L ({ frames := 0, cells := 0, slots := 0, locals := 0 } : Room).cells ({ frames := 0, cells := 0, slots := 0, locals := 0 } : Room).slots) := by
  refine MetFree.of_bodySF (plainFor_of_name pn_4) hisR ?_
  intro p e s m args below meth c s₁ Bd hml0 hP hK
  obtain ⟨rfl, hZ, hh⟩ := hP
  have hx := Bd.exec
  have hby := Bd.bytes
  have hml : c.maxLocals = 2 := hml0
  have hown : s.vm.findClass "com/example/antechamber/antechamber/DatabaseSocket$Turn" = some m.cls := findClass_of_methodNamed Bd.named
  have hnm := (name_of_methodNamed Bd.named Bd.method).1
  have X0 : Stand p l e ({ frames := 0, cells := 0, slots := 0, locals := 0 } : Room) s m #[(.ref a1), (.int p2)] below meth c s₁ [] 0 0 := Stand.of_body Bd
  have e0 : s₁.heap = h0 := by rw [← hh, Bd.state]; rfl
  have N0 := Fr.nil n0
  have pre0 : ∀ t, Steps p.tables e below (s₁.setTop (mkF m 0 #[.val (.ref a1), .val (.int p2)] [])) t → Steps p.tables e below (s₁.setTop (entryFrame m #[(.ref a1), (.int p2)] 2)) t := fun t k => castTop (ef_4 m a1 p2) k
  -- 3. LAWS
  obtain ⟨T4, X4, e4, st4⟩ := getF X0 hx hZ hown (host := "") (Or.inl (hw _ (List.mem_of_getElem? (i := 14) rfl))) Via.refl e0 F_answerDue_a1 (g := (mkF m 6 #[.val (.ref a1), .val (.int p2)] [(.ref a1), (.ref a1)])) rfl rfl (hb hby d4_6)
  obtain ⟨T5, h5, X5, e5, W5, st5⟩ := putF X4 hx hZ hown (host := "") (Or.inl (hw _ (List.mem_of_getElem? (i := 31) rfl))) Via.refl e4 F_answerBytes_a1 E_a1 (Or.inl (hw _ (List.mem_of_getElem? (i := 32) rfl))) (hw _ (List.mem_of_getElem? (i := 1) rfl)) (ty := .long) (by decide) rfl rfl (g := (mkF m 24 #[.val (.ref a1), .val (.int p2)] [(.long (p2.toInt64)), (.ref a1)])) rfl rfl (hb hby d4_24)
  have Fw5 := F_answerBytes_a1.same W5      -- the field now holds (.long (p2.toInt64))
  have K5 : Keep h0 h5 [a1] := (Keep.refl h0 [a1]).wr W5 (Or.inl (List.mem_of_getElem? (i := 0) rfl))
  have N5 := Fr.snoc X5 N0 g_a1
  obtain ⟨T6, h6, X6, e6, W6, st6⟩ := putFN X5 hx hZ hown (hw _ (List.mem_of_getElem? (i := 14) rfl)) Via.refl e5 (F_answerDue_a1.other W5 (Or.inr (slot_ne (Or.inl (hw _ (List.mem_of_getElem? (i := 15) rfl))) (Or.inl (hw _ (List.mem_of_getElem? (i := 32) rfl))) (by decide) (t := .boolean) (t' := .long) (by decide) (by decide)))) (E_a1.wr W5) (Or.inl (hw _ (List.mem_of_getElem? (i := 15) rfl))) (hw _ (List.mem_of_getElem? (i := 1) rfl)) (ty := .boolean) (v' := (.int (0 : Int32))) (by decide) rfl (by decide) (g := (mkF m 33 #[.val (.ref a1), .val (.int p2)] [(.int (0 : Int32)), (.ref a1)])) rfl rfl (hb hby d4_33)
  have Fw6 := (F_answerDue_a1.other W5 (Or.inr (slot_ne (Or.inl (hw _ (List.mem_of_getElem? (i := 15) rfl))) (Or.inl (hw _ (List.mem_of_getElem? (i := 32) rfl))) (by decide) (t := .boolean) (t' := .long) (by decide) (by decide)))).same W6      -- the field now holds (.int (0 : Int32))
  have K6 : Keep h0 h6 [a1] := K5.wr W6 (Or.inl (List.mem_of_getElem? (i := 0) rfl))
  have N6 := Fr.snoc X6 N5 g_a1
  obtain ⟨fs, hr, hrun, hended, hW, hsame⟩ := X6.leave (v := none) (fun _ => rfl)
  refine ⟨_, _, pre0 _ ?_, hrun, hended, _, _, rfl, ?_, ⟨_, rfl⟩, hW, hsame.mono (by decide) (by decide)⟩
  -- 4. STEPS
  · show Steps p.tables e below (s₁.setTop (mkF m 0 #[.val (.ref a1), .val (.int p2)] [])) _
    refine XS.iloadN X0.here hx rfl (hb hby d4_0) rfl ?_
    show Steps p.tables e below (s₁.setTop (mkF m 1 #[.val (.ref a1), .val (.int p2)] [(.int p2)])) _
    refine XS.ifNo X0.here hx rfl (hb hby d4_1) rfl ((if0 _ _).trans (tlt hc1).2.2.2) ?_
    show Steps p.tables e below (s₁.setTop (mkF m 4 #[.val (.ref a1), .val (.int p2)] [])) _
    refine XS.aloadN X0.here hx rfl (hb hby d4_4) rfl rfl ?_
    show Steps p.tables e below (s₁.setTop (mkF m 5 #[.val (.ref a1), .val (.int p2)] [(.ref a1)])) _
    refine XS.aloadN X0.here hx rfl (hb hby d4_5) rfl rfl ?_
    show Steps p.tables e below (s₁.setTop (mkF m 6 #[.val (.ref a1), .val (.int p2)] [(.ref a1), (.ref a1)])) _
    refine st4 _ ?_
    show Steps p.tables e below (T4.setTop (mkF m 9 #[.val (.ref a1), .val (.int p2)] [(.int w3), (.ref a1)])) _
    refine XS.ifNo X4.here hx rfl (hb hby d4_9) rfl ((if0 _ _).trans (feq hc9).1) ?_
    show Steps p.tables e below (T4.setTop (mkF m 12 #[.val (.ref a1), .val (.int p2)] [(.ref a1)])) _
    refine XS.iloadN X4.here hx rfl (hb hby d4_12) rfl ?_
    show Steps p.tables e below (T4.setTop (mkF m 13 #[.val (.ref a1), .val (.int p2)] [(.int p2), (.ref a1)])) _
    refine XS.i2l X4.here hx rfl (hb hby d4_13) rfl ?_
    show Steps p.tables e below (T4.setTop (mkF m 14 #[.val (.ref a1), .val (.int p2)] [(.long (p2.toInt64)), (.ref a1)])) _
    refine XS.goto X4.here hx rfl (pc0 := 14) (pc' := 24) rfl (hb hby d4_14) (by decide) (by decide) ?_
    show Steps p.tables e below (T4.setTop (mkF m 24 #[.val (.ref a1), .val (.int p2)] [(.long (p2.toInt64)), (.ref a1)])) _
    refine st5 _ ?_
    show Steps p.tables e below (T5.setTop (mkF m 27 #[.val (.ref a1), .val (.int p2)] [])) _
    refine XS.iloadN X5.here hx rfl (hb hby d4_27) rfl ?_
    show Steps p.tables e below (T5.setTop (mkF m 28 #[.val (.ref a1), .val (.int p2)] [(.int p2)])) _
    refine XS.ifNo X5.here hx rfl (hb hby d4_28) rfl ((if0 _ _).trans (feq hc28).1) ?_
    show Steps p.tables e below (T5.setTop (mkF m 31 #[.val (.ref a1), .val (.int p2)] [])) _
    refine XS.aloadN X5.here hx rfl (hb hby d4_31) rfl rfl ?_
    show Steps p.tables e below (T5.setTop (mkF m 32 #[.val (.ref a1), .val (.int p2)] [(.ref a1)])) _
    refine XS.iconst X5.here hx rfl (hb hby d4_32) ?_
    show Steps p.tables e below (T5.setTop (mkF m 33 #[.val (.ref a1), .val (.int p2)] [(.int (0 : Int32)), (.ref a1)])) _
    refine st6 _ ?_
    show Steps p.tables e below (T6.setTop (mkF m 36 #[.val (.ref a1), .val (.int p2)] [])) _
    exact X6.returnOut hx Bd.returns (hb hby d4_36) hr
  · show QT Z a1 0 p2.toInt64 h0 n0 _ T6.heap _
    rw [e6]
    exact ⟨rfl, N6, K6, ((E_a1.wr W5).wr W6), Fw6, (Fw5.other W6 (Or.inr (slot_ne (Or.inl (hw _ (List.mem_of_getElem? (i := 32) rfl))) (Or.inl (hw _ (List.mem_of_getElem? (i := 15) rfl))) (by decide) (t := .long) (t' := .boolean) (by decide) (by decide))))⟩
set_option maxRecDepth 65536 in
set_option maxHeartbeats 40000000 in
theorem rm4 (l : Launch) (Z : State) (a0 : Array Value) (hw : ∀ d ∈ tables_1, d.before a0 Z = true) (ws : List Jvm.Cond) (a1 : Addr) (p2 : Int32) (w3 : Int32) (w5 : Int64) (h0 : Heap) (n0 : Nat) (Z0 : n0 ≤ h0.size) (E_a1 : Exa Z h0 a1 "com/example/antechamber/antechamber/DatabaseSocket$Turn") (F_answerDue_a1 : Fld Z h0 a1 "com/example/antechamber/antechamber/DatabaseSocket$Turn" "answerDue" "Z" (.int w3)) (F_answerBytes_a1 : Fld Z h0 a1 "com/example/antechamber/antechamber/DatabaseSocket$Turn" "answerBytes" "J" (.long w5)) (g_a1 : n0 ≤ a1) :
    MetFree l (⟨"com/example/antechamber/antechamber/DatabaseSocket$Turn", "took", "(I)V"⟩ : MethodName) (head1 (Jvm.Cond.code (⟨"com/example/antechamber/antechamber/DatabaseSocket$Turn", "took", "(I)V"⟩ : MethodName) prog_14_method_4_code 2 none :: ws) ({ frames := 0, cells := 0, slots := 0, locals := 0 } : Room)) (fun a U => a = #[(.ref a1), (.int p2)] ∧ Z.Warmed39 U.vm ∧ U.heap = h0) (fun _ _ _ _ _ => True) (fun _ U o U' => ∃ v L, o = .returned v ∧ QT Z a1 (own_due w3 p2) (own_by w3 w5 p2) h0 n0 v U'.heap L ∧ FrameEnd U o U' L ({ frames := 0, cells := 0, slots := 0, locals := 0 } : Room).cells ({ frames := 0, cells := 0, slots := 0, locals := 0 } : Room).slots) := by
  by_cases h1 : (0 : Int32) < p2
  · have h28 : ¬ (p2 = (0 : Int32)) := fun q => by rw [q] at h1; exact absurd h1 (by decide)
    rw [show own_due w3 p2 = 0 from if_neg h28]
    by_cases h9 : w3 = 0
    · rw [show own_by w3 w5 p2 = w5 + p2.toInt64 from by simp only [own_by, if_pos h1, if_pos h9]]
      exact rm4_ftf l Z a0 hw ws a1 p2 w3 w5 h0 n0 Z0 E_a1 F_answerDue_a1 F_answerBytes_a1 g_a1 h1 h9 h28
    · rw [show own_by w3 w5 p2 = p2.toInt64 from by simp only [own_by, if_pos h1, if_neg h9]]
      exact rm4_fff l Z a0 hw ws a1 p2 w3 w5 h0 n0 Z0 E_a1 F_answerDue_a1 F_answerBytes_a1 g_a1 h1 h9 h28
  · rw [show own_by w3 w5 p2 = w5 from by simp only [own_by, if_neg h1]]
    by_cases h28 : p2 = (0 : Int32)
    · rw [show own_due w3 p2 = w3 from if_pos h28]
      exact rm4_tt l Z a0 hw ws a1 p2 w3 w5 h0 n0 Z0 E_a1 F_answerDue_a1 F_answerBytes_a1 g_a1 h1 h28
    · rw [show own_due w3 p2 = 0 from if_neg h28]
      exact rm4_tf l Z a0 hw ws a1 p2 w3 w5 h0 n0 Z0 E_a1 F_answerDue_a1 F_answerBytes_a1 g_a1 h1 h28
def QP (Z : State) (z : Int32) (h0 : Heap) (n0 : Nat) (v : Option Value) (h : Heap) (L : List Loc) : Prop := v = some (.int z) ∧ Fr n0 L ∧ h = h0
theorem d5_0 : decode prog_14_method_3_code 0 = .ok (.aload_n 0, 1) := by decide +kernel
theorem d5_1 : decode prog_14_method_3_code 1 = .ok (.getfield 7, 3) := by decide +kernel
theorem d5_4 : decode prog_14_method_3_code 4 = .ok (.ireturn, 1) := by decide +kernel
theorem pn_5 : plainName "com/example/antechamber/antechamber/DatabaseSocket$Turn" = true := by first | (simp [plainName, overriddenIn]; done) | decide +kernel
theorem ef_5 (m : MethodId) (x0 : Addr) : entryFrame m #[(.ref x0)] 1 = mkF m 0 #[.val (.ref x0)] [] := by first | (simp [entryFrame, mkF, argsToLocals, Value.category]; done) | rfl
set_option maxRecDepth 65536 in
set_option maxHeartbeats 40000000 in
theorem rm5 (l : Launch) (Z : State) (a0 : Array Value) (hw : ∀ d ∈ tables_1, d.before a0 Z = true) (ws : List Jvm.Cond) (a1 : Addr) (w2 : Int32) (h0 : Heap) (n0 : Nat) (Z0 : n0 ≤ h0.size) (F_answerDue_a1 : Fld Z h0 a1 "com/example/antechamber/antechamber/DatabaseSocket$Turn" "answerDue" "Z" (.int w2)) (h01 : w2 = 0 ∨ w2 = 1) :
    MetFree l (⟨"com/example/antechamber/antechamber/DatabaseSocket$Turn", "answerDue", "()Z"⟩ : MethodName) (head1 (Jvm.Cond.code (⟨"com/example/antechamber/antechamber/DatabaseSocket$Turn", "answerDue", "()Z"⟩ : MethodName) prog_14_method_3_code 1 (some .boolean) :: ws) ({ frames := 0, cells := 0, slots := 0, locals := 0 } : Room)) (fun a U => a = #[(.ref a1)] ∧ Z.Warmed39 U.vm ∧ U.heap = h0) (fun _ _ _ _ _ => True) (fun _ U o U' => ∃ v L, o = .returned v ∧ QP Z w2 h0 n0 v U'.heap L ∧ FrameEnd U o U' L ({ frames := 0, cells := 0, slots := 0, locals := 0 } : Room).cells ({ frames := 0, cells := 0, slots := 0, locals := 0 } : Room).slots) := by
  refine MetFree.of_bodySF (plainFor_of_name pn_5) hisR ?_
  intro p e s m args below meth c s₁ Bd hml0 hP hK
  obtain ⟨rfl, hZ, hh⟩ := hP
  have hx := Bd.exec
  have hby := Bd.bytes
  have hml : c.maxLocals = 1 := hml0
  have hown : s.vm.findClass "com/example/antechamber/antechamber/DatabaseSocket$Turn" = some m.cls := findClass_of_methodNamed Bd.named
  have hnm := (name_of_methodNamed Bd.named Bd.method).1
  have X0 : Stand p l e ({ frames := 0, cells := 0, slots := 0, locals := 0 } : Room) s m #[(.ref a1)] below meth c s₁ [] 0 0 := Stand.of_body Bd
  have e0 : s₁.heap = h0 := by rw [← hh, Bd.state]; rfl
  have N0 := Fr.nil n0
  have pre0 : ∀ t, Steps p.tables e below (s₁.setTop (mkF m 0 #[.val (.ref a1)] [])) t → Steps p.tables e below (s₁.setTop (entryFrame m #[(.ref a1)] 1)) t := fun t k => castTop (ef_5 m a1) k
  -- 3. LAWS
  obtain ⟨T3, X3, e3, st3⟩ := getF X0 hx hZ hown (host := "") (Or.inl (hw _ (List.mem_of_getElem? (i := 14) rfl))) Via.refl e0 F_answerDue_a1 (g := (mkF m 1 #[.val (.ref a1)] [(.ref a1)])) rfl rfl (hb hby d5_1)
  obtain ⟨fs, hr, hrun, hended, hW, hsame⟩ := X3.leave (v := some (.int w2)) (fun h => by rw [Bd.returns] at h; cases h)
  refine ⟨_, _, pre0 _ ?_, hrun, hended, _, _, rfl, ?_, ⟨_, rfl⟩, hW, hsame.mono (by decide) (by decide)⟩
  -- 4. STEPS
  · show Steps p.tables e below (s₁.setTop (mkF m 0 #[.val (.ref a1)] [])) _
    refine XS.aloadN X0.here hx rfl (hb hby d5_0) rfl rfl ?_
    show Steps p.tables e below (s₁.setTop (mkF m 1 #[.val (.ref a1)] [(.ref a1)])) _
    refine st3 _ ?_
    show Steps p.tables e below (T3.setTop (mkF m 4 #[.val (.ref a1)] [(.int w2)])) _
    exact retN X3 hx (t := .boolean) Bd.returns (by simp) (hb hby d5_4) (by rw [own_nar h01]; exact hr)
  · show QP Z w2 h0 n0 _ T3.heap _
    rw [e3]
    exact ⟨rfl, N0, rfl⟩
theorem d6_0 : decode prog_14_method_5_code 0 = .ok (.aload_n 0, 1) := by decide +kernel
theorem d6_1 : decode prog_14_method_5_code 1 = .ok (.getfield 7, 3) := by decide +kernel
theorem d6_4 : decode prog_14_method_5_code 4 = .ok (.ifCond .ne 18, 3) := by decide +kernel
theorem d6_22 : decode prog_14_method_5_code 22 = .ok (.iconst 0, 1) := by decide +kernel
theorem d6_23 : decode prog_14_method_5_code 23 = .ok (.ireturn, 1) := by decide +kernel
theorem pn_6 : plainName "com/example/antechamber/antechamber/DatabaseSocket$Turn" = true := by first | (simp [plainName, overriddenIn]; done) | decide +kernel
theorem ef_6 (m : MethodId) (x0 : Addr) : entryFrame m #[(.ref x0)] 1 = mkF m 0 #[.val (.ref x0)] [] := by first | (simp [entryFrame, mkF, argsToLocals, Value.category]; done) | rfl
set_option maxRecDepth 65536 in
set_option maxHeartbeats 40000000 in
theorem rm6_t (l : Launch) (Z : State) (a0 : Array Value) (hw : ∀ d ∈ tables_1, d.before a0 Z = true) (ws : List Jvm.Cond) (a1 : Addr) (w2 : Int32) (w4 : Int64) (h0 : Heap) (n0 : Nat) (Z0 : n0 ≤ h0.size) (F_answerDue_a1 : Fld Z h0 a1 "com/example/antechamber/antechamber/DatabaseSocket$Turn" "answerDue" "Z" (.int w2)) (F_answerBytes_a1 : Fld Z h0 a1 "com/example/antechamber/antechamber/DatabaseSocket$Turn" "answerBytes" "J" (.long w4)) (hc4 : ¬ (w2 = (0 : Int32))) :
    MetFree l (⟨"com/example/antechamber/antechamber/DatabaseSocket$Turn", "paces", "()Z"⟩ : MethodName) (head1 (Jvm.Cond.code (⟨"com/example/antechamber/antechamber/DatabaseSocket$Turn", "paces", "()Z"⟩ : MethodName) prog_14_method_5_code 1 (some .boolean) :: ws) ({ frames := 0, cells := 0, slots := 0, locals := 0 } : Room)) (fun a U => a = #[(.ref a1)] ∧ Z.Warmed39 U.vm ∧ U.heap = h0) (fun _ _ _ _ _ => True) (fun _ U o U' => ∃ v L, o = .returned v ∧ QP Z (0 : Int32) h0 n0 v U'.heap L ∧ FrameEnd U o U' L ({ frames := 0, cells := 0, slots := 0, locals := 0 } : Room).cells ({ frames := 0, cells := 0, slots := 0, locals := 0 } : Room).slots) := by
  refine MetFree.of_bodySF (plainFor_of_name pn_6) hisR ?_
  intro p e s m args below meth c s₁ Bd hml0 hP hK
  obtain ⟨rfl, hZ, hh⟩ := hP
  have hx := Bd.exec
  have hby := Bd.bytes
  have hml : c.maxLocals = 1 := hml0
  have hown : s.vm.findClass "com/example/antechamber/antechamber/DatabaseSocket$Turn" = some m.cls := findClass_of_methodNamed Bd.named
  have hnm := (name_of_methodNamed Bd.named Bd.method).1
  have X0 : Stand p l e ({ frames := 0, cells := 0, slots := 0, locals := 0 } : Room) s m #[(.ref a1)] below meth c s₁ [] 0 0 := Stand.of_body Bd
  have e0 : s₁.heap = h0 := by rw [← hh, Bd.state]; rfl
  have N0 := Fr.nil n0
  have pre0 : ∀ t, Steps p.tables e below (s₁.setTop (mkF m 0 #[.val (.ref a1)] [])) t → Steps p.tables e below (s₁.setTop (entryFrame m #[(.ref a1)] 1)) t := fun t k => castTop (ef_6 m a1) k
  -- 3. LAWS
  obtain ⟨T3, X3, e3, st3⟩ := getF X0 hx hZ hown (host := "") (Or.inl (hw _ (List.mem_of_getElem? (i := 14) rfl))) Via.refl e0 F_answerDue_a1 (g := (mkF m 1 #[.val (.ref a1)] [(.ref a1)])) rfl rfl (hb hby d6_1)
  obtain ⟨fs, hr, hrun, hended, hW, hsame⟩ := X3.leave (v := some (.int (0 : Int32))) (fun h => by rw [Bd.returns] at h; cases h)
  refine ⟨_, _, pre0 _ ?_, hrun, hended, _, _, rfl, ?_, ⟨_, rfl⟩, hW, hsame.mono (by decide) (by decide)⟩
  -- 4. STEPS
  · show Steps p.tables e below (s₁.setTop (mkF m 0 #[.val (.ref a1)] [])) _
    refine XS.aloadN X0.here hx rfl (hb hby d6_0) rfl rfl ?_
    show Steps p.tables e below (s₁.setTop (mkF m 1 #[.val (.ref a1)] [(.ref a1)])) _
    refine st3 _ ?_
    show Steps p.tables e below (T3.setTop (mkF m 4 #[.val (.ref a1)] [(.int w2)])) _
    refine XS.ifYes X3.here hx rfl (pc0 := 4) (pc' := 22) rfl (hb hby d6_4) rfl ((if0 _ _).trans (feq hc4).2) (by decide) (by decide) ?_
    show Steps p.tables e below (T3.setTop (mkF m 22 #[.val (.ref a1)] [])) _
    refine XS.iconst X3.here hx rfl (hb hby d6_22) ?_
    show Steps p.tables e below (T3.setTop (mkF m 23 #[.val (.ref a1)] [(.int (0 : Int32))])) _
    exact retN X3 hx (t := .boolean) Bd.returns (by simp) (hb hby d6_23) hr
  · show QP Z (0 : Int32) h0 n0 _ T3.heap _
    rw [e3]
    exact ⟨rfl, N0, rfl⟩
theorem d6_7 : decode prog_14_method_5_code 7 = .ok (.aload_n 0, 1) := by decide +kernel
theorem d6_8 : decode prog_14_method_5_code 8 = .ok (.getfield 13, 3) := by decide +kernel
theorem d6_11 : decode prog_14_method_5_code 11 = .ok (.ldc2_w 17, 3) := by decide +kernel
theorem d6_14 : decode prog_14_method_5_code 14 = .ok (.lcmp, 1) := by decide +kernel
theorem d6_15 : decode prog_14_method_5_code 15 = .ok (.ifCond .lt 7, 3) := by decide +kernel
set_option maxRecDepth 65536 in
set_option maxHeartbeats 40000000 in
theorem rm6_ft (l : Launch) (Z : State) (a0 : Array Value) (hw : ∀ d ∈ tables_1, d.before a0 Z = true) (ws : List Jvm.Cond) (a1 : Addr) (w2 : Int32) (w4 : Int64) (h0 : Heap) (n0 : Nat) (Z0 : n0 ≤ h0.size) (F_answerDue_a1 : Fld Z h0 a1 "com/example/antechamber/antechamber/DatabaseSocket$Turn" "answerDue" "Z" (.int w2)) (F_answerBytes_a1 : Fld Z h0 a1 "com/example/antechamber/antechamber/DatabaseSocket$Turn" "answerBytes" "J" (.long w4)) (hc4 : w2 = (0 : Int32)) (hc15 : (lcmpW w4 (65536 : Int64)) < (0 : Int32)) :
    MetFree l (⟨"com/example/antechamber/antechamber/DatabaseSocket$Turn", "paces", "()Z"⟩ : MethodName) (head1 (Jvm.Cond.code (⟨"com/example/antechamber/antechamber/DatabaseSocket$Turn", "paces", "()Z"⟩ : MethodName) prog_14_method_5_code 1 (some .boolean) :: ws) ({ frames := 0, cells := 0, slots := 0, locals := 0 } : Room)) (fun a U => a = #[(.ref a1)] ∧ Z.Warmed39 U.vm ∧ U.heap = h0) (fun _ _ _ _ _ => True) (fun _ U o U' => ∃ v L, o = .returned v ∧ QP Z (0 : Int32) h0 n0 v U'.heap L ∧ FrameEnd U o U' L ({ frames := 0, cells := 0, slots := 0, locals := 0 } : Room).cells ({ frames := 0, cells := 0, slots := 0, locals := 0 } : Room).slots) := by
  refine MetFree.of_bodySF (plainFor_of_name pn_6) hisR ?_
  intro p e s m args below meth c s₁ Bd hml0 hP hK
  obtain ⟨rfl, hZ, hh⟩ := hP
  have hx := Bd.exec
  have hby := Bd.bytes
  have hml : c.maxLocals = 1 := hml0
  have hown : s.vm.findClass "com/example/antechamber/antechamber/DatabaseSocket$Turn" = some m.cls := findClass_of_methodNamed Bd.named
  have hnm := (name_of_methodNamed Bd.named Bd.method).1
  have X0 : Stand p l e ({ frames := 0, cells := 0, slots := 0, locals := 0 } : Room) s m #[(.ref a1)] below meth c s₁ [] 0 0 := Stand.of_body Bd
  have e0 : s₁.heap = h0 := by rw [← hh, Bd.state]; rfl
  have N0 := Fr.nil n0
  have pre0 : ∀ t, Steps p.tables e below (s₁.setTop (mkF m 0 #[.val (.ref a1)] [])) t → Steps p.tables e below (s₁.setTop (entryFrame m #[(.ref a1)] 1)) t := fun t k => castTop (ef_6 m a1) k
  -- 3. LAWS
  obtain ⟨T3, X3, e3, st3⟩ := getF X0 hx hZ hown (host := "") (Or.inl (hw _ (List.mem_of_getElem? (i := 14) rfl))) Via.refl e0 F_answerDue_a1 (g := (mkF m 1 #[.val (.ref a1)] [(.ref a1)])) rfl rfl (hb hby d6_1)
  obtain ⟨T5, X5, e5, st5⟩ := getF X3 hx hZ hown (host := "") (Or.inl (hw _ (List.mem_of_getElem? (i := 31) rfl))) Via.refl e3 F_answerBytes_a1 (g := (mkF m 8 #[.val (.ref a1)] [(.ref a1)])) rfl rfl (hb hby d6_8)
  obtain ⟨fs, hr, hrun, hended, hW, hsame⟩ := X5.leave (v := some (.int (0 : Int32))) (fun h => by rw [Bd.returns] at h; cases h)
  refine ⟨_, _, pre0 _ ?_, hrun, hended, _, _, rfl, ?_, ⟨_, rfl⟩, hW, hsame.mono (by decide) (by decide)⟩
  -- 4. STEPS
  · show Steps p.tables e below (s₁.setTop (mkF m 0 #[.val (.ref a1)] [])) _
    refine XS.aloadN X0.here hx rfl (hb hby d6_0) rfl rfl ?_
    show Steps p.tables e below (s₁.setTop (mkF m 1 #[.val (.ref a1)] [(.ref a1)])) _
    refine st3 _ ?_
    show Steps p.tables e below (T3.setTop (mkF m 4 #[.val (.ref a1)] [(.int w2)])) _
    refine XS.ifNo X3.here hx rfl (hb hby d6_4) rfl ((if0 _ _).trans (teq hc4).2) ?_
    show Steps p.tables e below (T3.setTop (mkF m 7 #[.val (.ref a1)] [])) _
    refine XS.aloadN X3.here hx rfl (hb hby d6_7) rfl rfl ?_
    show Steps p.tables e below (T3.setTop (mkF m 8 #[.val (.ref a1)] [(.ref a1)])) _
    refine st5 _ ?_
    show Steps p.tables e below (T5.setTop (mkF m 11 #[.val (.ref a1)] [(.long w4)])) _
    refine X5.ldc2Long hx hown (mvT hZ (hw _ (List.mem_of_getElem? (i := 33) rfl))) (g := (mkF m 11 #[.val (.ref a1)] [(.long w4)])) rfl (hb hby d6_11) _ ?_
    show Steps p.tables e below (T5.setTop (mkF m 14 #[.val (.ref a1)] [(.long (65536 : Int64)), (.long w4)])) _
    refine XS.lcmp X5.here hx rfl (hb hby d6_14) rfl ?_
    show Steps p.tables e below (T5.setTop (mkF m 15 #[.val (.ref a1)] [(.int (lcmpW w4 (65536 : Int64)))])) _
    refine XS.ifYes X5.here hx rfl (pc0 := 15) (pc' := 22) rfl (hb hby d6_15) rfl ((if0 _ _).trans (tlt hc15).1) (by decide) (by decide) ?_
    show Steps p.tables e below (T5.setTop (mkF m 22 #[.val (.ref a1)] [])) _
    refine XS.iconst X5.here hx rfl (hb hby d6_22) ?_
    show Steps p.tables e below (T5.setTop (mkF m 23 #[.val (.ref a1)] [(.int (0 : Int32))])) _
    exact retN X5 hx (t := .boolean) Bd.returns (by simp) (hb hby d6_23) hr
  · show QP Z (0 : Int32) h0 n0 _ T5.heap _
    rw [e5]
    exact ⟨rfl, N0, rfl⟩
theorem d6_18 : decode prog_14_method_5_code 18 = .ok (.iconst 1, 1) := by decide +kernel
theorem d6_19 : decode prog_14_method_5_code 19 = .ok (.goto 4, 3) := by decide +kernel
set_option maxRecDepth 65536 in
set_option maxHeartbeats 40000000 in
theorem rm6_ff (l : Launch) (Z : State) (a0 : Array Value) (hw : ∀ d ∈ tables_1, d.before a0 Z = true) (ws : List Jvm.Cond) (a1 : Addr) (w2 : Int32) (w4 : Int64) (h0 : Heap) (n0 : Nat) (Z0 : n0 ≤ h0.size) (F_answerDue_a1 : Fld Z h0 a1 "com/example/antechamber/antechamber/DatabaseSocket$Turn" "answerDue" "Z" (.int w2)) (F_answerBytes_a1 : Fld Z h0 a1 "com/example/antechamber/antechamber/DatabaseSocket$Turn" "answerBytes" "J" (.long w4)) (hc4 : w2 = (0 : Int32)) (hc15 : ¬ ((lcmpW w4 (65536 : Int64)) < (0 : Int32))) :
    MetFree l (⟨"com/example/antechamber/antechamber/DatabaseSocket$Turn", "paces", "()Z"⟩ : MethodName) (head1 (Jvm.Cond.code (⟨"com/example/antechamber/antechamber/DatabaseSocket$Turn", "paces", "()Z"⟩ : MethodName) prog_14_method_5_code 1 (some .boolean) :: ws) ({ frames := 0, cells := 0, slots := 0, locals := 0 } : Room)) (fun a U => a = #[(.ref a1)] ∧ Z.Warmed39 U.vm ∧ U.heap = h0) (fun _ _ _ _ _ => True) (fun _ U o U' => ∃ v L, o = .returned v ∧ QP Z (1 : Int32) h0 n0 v U'.heap L ∧ FrameEnd U o U' L ({ frames := 0, cells := 0, slots := 0, locals := 0 } : Room).cells ({ frames := 0, cells := 0, slots := 0, locals := 0 } : Room).slots) := by
  refine MetFree.of_bodySF (plainFor_of_name pn_6) hisR ?_
  intro p e s m args below meth c s₁ Bd hml0 hP hK
  obtain ⟨rfl, hZ, hh⟩ := hP
  have hx := Bd.exec
  have hby := Bd.bytes
  have hml : c.maxLocals = 1 := hml0
  have hown : s.vm.findClass "com/example/antechamber/antechamber/DatabaseSocket$Turn" = some m.cls := findClass_of_methodNamed Bd.named
  have hnm := (name_of_methodNamed Bd.named Bd.method).1
  have X0 : Stand p l e ({ frames := 0, cells := 0, slots := 0, locals := 0 } : Room) s m #[(.ref a1)] below meth c s₁ [] 0 0 := Stand.of_body Bd
  have e0 : s₁.heap = h0 := by rw [← hh, Bd.state]; rfl
  have N0 := Fr.nil n0
  have pre0 : ∀ t, Steps p.tables e below (s₁.setTop (mkF m 0 #[.val (.ref a1)] [])) t → Steps p.tables e below (s₁.setTop (entryFrame m #[(.ref a1)] 1)) t := fun t k => castTop (ef_6 m a1) k
  -- 3. LAWS
  obtain ⟨T3, X3, e3, st3⟩ := getF X0 hx hZ hown (host := "") (Or.inl (hw _ (List.mem_of_getElem? (i := 14) rfl))) Via.refl e0 F_answerDue_a1 (g := (mkF m 1 #[.val (.ref a1)] [(.ref a1)])) rfl rfl (hb hby d6_1)
  obtain ⟨T5, X5, e5, st5⟩ := getF X3 hx hZ hown (host := "") (Or.inl (hw _ (List.mem_of_getElem? (i := 31) rfl))) Via.refl e3 F_answerBytes_a1 (g := (mkF m 8 #[.val (.ref a1)] [(.ref a1)])) rfl rfl (hb hby d6_8)
  obtain ⟨fs, hr, hrun, hended, hW, hsame⟩ := X5.leave (v := some (.int (1 : Int32))) (fun h => by rw [Bd.returns] at h; cases h)
  refine ⟨_, _, pre0 _ ?_, hrun, hended, _, _, rfl, ?_, ⟨_, rfl⟩, hW, hsame.mono (by decide) (by decide)⟩
  -- 4. STEPS
  · show Steps p.tables e below (s₁.setTop (mkF m 0 #[.val (.ref a1)] [])) _
    refine XS.aloadN X0.here hx rfl (hb hby d6_0) rfl rfl ?_
    show Steps p.tables e below (s₁.setTop (mkF m 1 #[.val (.ref a1)] [(.ref a1)])) _
    refine st3 _ ?_
    show Steps p.tables e below (T3.setTop (mkF m 4 #[.val (.ref a1)] [(.int w2)])) _
    refine XS.ifNo X3.here hx rfl (hb hby d6_4) rfl ((if0 _ _).trans (teq hc4).2) ?_
    show Steps p.tables e below (T3.setTop (mkF m 7 #[.val (.ref a1)] [])) _
    refine XS.aloadN X3.here hx rfl (hb hby d6_7) rfl rfl ?_
    show Steps p.tables e below (T3.setTop (mkF m 8 #[.val (.ref a1)] [(.ref a1)])) _
    refine st5 _ ?_
    show Steps p.tables e below (T5.setTop (mkF m 11 #[.val (.ref a1)] [(.long w4)])) _
    refine X5.ldc2Long hx hown (mvT hZ (hw _ (List.mem_of_getElem? (i := 33) rfl))) (g := (mkF m 11 #[.val (.ref a1)] [(.long w4)])) rfl (hb hby d6_11) _ ?_
    show Steps p.tables e below (T5.setTop (mkF m 14 #[.val (.ref a1)] [(.long (65536 : Int64)), (.long w4)])) _
    refine XS.lcmp X5.here hx rfl (hb hby d6_14) rfl ?_
    show Steps p.tables e below (T5.setTop (mkF m 15 #[.val (.ref a1)] [(.int (lcmpW w4 (65536 : Int64)))])) _
    refine XS.ifNo X5.here hx rfl (hb hby d6_15) rfl ((if0 _ _).trans (flt hc15).1) ?_
    show Steps p.tables e below (T5.setTop (mkF m 18 #[.val (.ref a1)] [])) _
    refine XS.iconst X5.here hx rfl (hb hby d6_18) ?_
    show Steps p.tables e below (T5.setTop (mkF m 19 #[.val (.ref a1)] [(.int (1 : Int32))])) _
    refine XS.goto X5.here hx rfl (pc0 := 19) (pc' := 23) rfl (hb hby d6_19) (by decide) (by decide) ?_
    show Steps p.tables e below (T5.setTop (mkF m 23 #[.val (.ref a1)] [(.int (1 : Int32))])) _
    exact retN X5 hx (t := .boolean) Bd.returns (by simp) (hb hby d6_23) hr
  · show QP Z (1 : Int32) h0 n0 _ T5.heap _
    rw [e5]
    exact ⟨rfl, N0, rfl⟩
set_option maxRecDepth 65536 in
set_option maxHeartbeats 40000000 in
theorem rm6 (l : Launch) (Z : State) (a0 : Array Value) (hw : ∀ d ∈ tables_1, d.before a0 Z = true) (ws : List Jvm.Cond) (a1 : Addr) (w2 : Int32) (w4 : Int64) (h0 : Heap) (n0 : Nat) (Z0 : n0 ≤ h0.size) (F_answerDue_a1 : Fld Z h0 a1 "com/example/antechamber/antechamber/DatabaseSocket$Turn" "answerDue" "Z" (.int w2)) (F_answerBytes_a1 : Fld Z h0 a1 "com/example/antechamber/antechamber/DatabaseSocket$Turn" "answerBytes" "J" (.long w4)) :
    MetFree l (⟨"com/example/antechamber/antechamber/DatabaseSocket$Turn", "paces", "()Z"⟩ : MethodName) (head1 (Jvm.Cond.code (⟨"com/example/antechamber/antechamber/DatabaseSocket$Turn", "paces", "()Z"⟩ : MethodName) prog_14_method_5_code 1 (some .boolean) :: ws) ({ frames := 0, cells := 0, slots := 0, locals := 0 } : Room)) (fun a U => a = #[(.ref a1)] ∧ Z.Warmed39 U.vm ∧ U.heap = h0) (fun _ _ _ _ _ => True) (fun _ U o U' => ∃ v L, o = .returned v ∧ QP Z (own_pc w2 w4) h0 n0 v U'.heap L ∧ FrameEnd U o U' L ({ frames := 0, cells := 0, slots := 0, locals := 0 } : Room).cells ({ frames := 0, cells := 0, slots := 0, locals := 0 } : Room).slots) := by
  by_cases h4 : w2 = (0 : Int32)
  · by_cases h15 : (lcmpW w4 (65536 : Int64)) < (0 : Int32)
    · rw [show own_pc w2 w4 = 0 from by simp only [own_pc, if_pos h4, if_pos h15]]
      exact rm6_ft l Z a0 hw ws a1 w2 w4 h0 n0 Z0 F_answerDue_a1 F_answerBytes_a1 h4 h15
    · rw [show own_pc w2 w4 = 1 from by simp only [own_pc, if_pos h4, if_neg h15]]
      exact rm6_ff l Z a0 hw ws a1 w2 w4 h0 n0 Z0 F_answerDue_a1 F_answerBytes_a1 h4 h15
  · rw [show own_pc w2 w4 = 0 from by simp only [own_pc, if_neg h4]]
    exact rm6_t l Z a0 hw ws a1 w2 w4 h0 n0 Z0 F_answerDue_a1 F_answerBytes_a1 h4
theorem pd0 : parseMethodDescriptor "()V" = some ⟨[], none⟩ := by decide +kernel
theorem pd1 : parseMethodDescriptor "(I)V" = some ⟨[.int], none⟩ := by decide +kernel
theorem pd2 : parseMethodDescriptor "()Z" = some ⟨[], some .boolean⟩ := by decide +kernel
set_option maxRecDepth 65536 in
set_option maxHeartbeats 40000000 in
theorem own_sent {p : Program} {l : Launch} {e : Env} {s : State} {m : MethodId} {args : Array Value} {below : List Frame} {meth : Method} {c : Code} {T : State} {locs : List Loc} {Z : State} {a0 : Array Value}
    (X : Stand p l e room_1 s m args below meth c T locs 1 2) (hx : p.tables.exec = Jvm.exec) (hZ : Z.Warmed39 s.vm) (hw : ∀ d ∈ tables_1, d.before a0 Z = true) (hown : s.vm.findClass "com/example/antechamber/antechamber/TurnTookPinLaw" = some m.cls) {n0 : Nat} (N : Fr n0 locs) (Z0 : n0 ≤ T.heap.size) {a1 : Addr} (g_a1 : n0 ≤ a1) {w3 : Int32} {w5 : Int64} (E : Exa Z T.heap a1 "com/example/antechamber/antechamber/DatabaseSocket$Turn") (F : Fld Z T.heap a1 "com/example/antechamber/antechamber/DatabaseSocket$Turn" "answerDue" "Z" (.int w3)) (G : Fld Z T.heap a1 "com/example/antechamber/antechamber/DatabaseSocket$Turn" "answerBytes" "J" (.long w5)) {pc : Nat} {Ls : Array Slot} (hsz : Ls.size = c.maxLocals) (hd : decode c.code pc = .ok (.invokevirtual 10, 3)) :
    ∃ (T' : State) (L' : List Loc), Stand p l e room_1 s m args below meth c T' L' 1 2 ∧ Fr n0 L' ∧ n0 ≤ T'.heap.size ∧ (Exa Z T'.heap a1 "com/example/antechamber/antechamber/DatabaseSocket$Turn" ∧ Fld Z T'.heap a1 "com/example/antechamber/antechamber/DatabaseSocket$Turn" "answerDue" "Z" (.int 1) ∧ Fld Z T'.heap a1 "com/example/antechamber/antechamber/DatabaseSocket$Turn" "answerBytes" "J" (.long w5)) ∧
      ∀ target, Steps p.tables e below (T'.setTop (mkF m (pc + 3) Ls [])) target → Steps p.tables e below (T.setTop (mkF m pc Ls [(.ref a1)])) target := by
  obtain ⟨cq, kq, qa, qb, qc⟩ := isOf hZ rfl E
  obtain ⟨_, _, ⟨T1, L1, k1, n1⟩, -, X1, ⟨Lc1, hQ1, l1, y1, z1⟩, st1⟩ := X.virtualBack hx (y := (⟨"com/example/antechamber/antechamber/DatabaseSocket$Turn", "sent", "()V"⟩ : MethodName)) (z := (⟨"com/example/antechamber/antechamber/DatabaseSocket$Turn", "sent", "()V"⟩ : MethodName)) hown (mvT hZ (hw _ (List.mem_of_getElem? (i := 9) rfl))) (mvT hZ (hw _ (List.mem_of_getElem? (i := 10) rfl))) (notFace_of_selects (args := #[]) (mvT hZ (hw _ (List.mem_of_getElem? (i := 12) rfl)))) (mvT hZ (hw _ (List.mem_of_getElem? (i := 12) rfl))) (mvT hZ (hw _ (List.mem_of_getElem? (i := 11) rfl))) (by decide) (backOf (W := 0) (rm3 l Z a0 hw [] a1 w3 w5 T.heap n0 Z0 E F G g_a1) hZ (hw _ (List.mem_of_getElem? (i := 13) rfl)) (hw _ (List.mem_of_getElem? (i := 2) rfl)) (by decide) (by decide)) qa qc (g := (mkF m pc Ls [(.ref a1)])) rfl hsz (Steps.refl _) (argsL := []) (rest := []) (lenOf pd0 rfl) rfl (by show 2 * 0 + _ ≤ _; exact Nat.le_of_eq rfl) hd (fun _ _ => ⟨rfl, rfl, (by decide : 1 + 0 ≤ _), (by decide : 2 + 0 ≤ _)⟩)
  dsimp only [Pt.U, Pt.locs, Pt.cells, Pt.slots] at X1 l1 y1 z1 st1 hQ1
  subst l1 y1 z1
  obtain ⟨rfl, N1, K1, E1, F1, G1⟩ := hQ1
  exact ⟨T1, _, X1, Fr.app N N1, Nat.le_trans Z0 K1.1, ⟨E1, F1, G1⟩, fun target k => st1.trans k⟩
set_option maxRecDepth 65536 in
set_option maxHeartbeats 40000000 in
theorem own_took {p : Program} {l : Launch} {e : Env} {s : State} {m : MethodId} {args : Array Value} {below : List Frame} {meth : Method} {c : Code} {T : State} {locs : List Loc} {Z : State} {a0 : Array Value} (p2 : Int32)
    (X : Stand p l e room_1 s m args below meth c T locs 1 2) (hx : p.tables.exec = Jvm.exec) (hZ : Z.Warmed39 s.vm) (hw : ∀ d ∈ tables_1, d.before a0 Z = true) (hown : s.vm.findClass "com/example/antechamber/antechamber/TurnTookPinLaw" = some m.cls) {n0 : Nat} (N : Fr n0 locs) (Z0 : n0 ≤ T.heap.size) {a1 : Addr} (g_a1 : n0 ≤ a1) {w3 : Int32} {w5 : Int64} (E : Exa Z T.heap a1 "com/example/antechamber/antechamber/DatabaseSocket$Turn") (F : Fld Z T.heap a1 "com/example/antechamber/antechamber/DatabaseSocket$Turn" "answerDue" "Z" (.int w3)) (G : Fld Z T.heap a1 "com/example/antechamber/antechamber/DatabaseSocket$Turn" "answerBytes" "J" (.long w5)) {pc : Nat} {Ls : Array Slot} (hsz : Ls.size = c.maxLocals) (hd : decode c.code pc = .ok (.invokevirtual 13, 3)) :
    ∃ (T' : State) (L' : List Loc), Stand p l e room_1 s m args below meth c T' L' 1 2 ∧ Fr n0 L' ∧ n0 ≤ T'.heap.size ∧ (Exa Z T'.heap a1 "com/example/antechamber/antechamber/DatabaseSocket$Turn" ∧ Fld Z T'.heap a1 "com/example/antechamber/antechamber/DatabaseSocket$Turn" "answerDue" "Z" (.int (own_due w3 p2)) ∧ Fld Z T'.heap a1 "com/example/antechamber/antechamber/DatabaseSocket$Turn" "answerBytes" "J" (.long (own_by w3 w5 p2))) ∧
      ∀ target, Steps p.tables e below (T'.setTop (mkF m (pc + 3) Ls [])) target → Steps p.tables e below (T.setTop (mkF m pc Ls [(.int p2), (.ref a1)])) target := by
  obtain ⟨cq, kq, qa, qb, qc⟩ := isOf hZ rfl E
  obtain ⟨_, _, ⟨T1, L1, k1, n1⟩, -, X1, ⟨Lc1, hQ1, l1, y1, z1⟩, st1⟩ := X.virtualBack hx (y := (⟨"com/example/antechamber/antechamber/DatabaseSocket$Turn", "took", "(I)V"⟩ : MethodName)) (z := (⟨"com/example/antechamber/antechamber/DatabaseSocket$Turn", "took", "(I)V"⟩ : MethodName)) hown (mvT hZ (hw _ (List.mem_of_getElem? (i := 16) rfl))) (mvT hZ (hw _ (List.mem_of_getElem? (i := 17) rfl))) (notFace_of_selects (args := #[]) (mvT hZ (hw _ (List.mem_of_getElem? (i := 19) rfl)))) (mvT hZ (hw _ (List.mem_of_getElem? (i := 19) rfl))) (mvT hZ (hw _ (List.mem_of_getElem? (i := 18) rfl))) (by decide) (backOf (W := 0) (rm4 l Z a0 hw [] a1 p2 w3 w5 T.heap n0 Z0 E F G g_a1) hZ (hw _ (List.mem_of_getElem? (i := 20) rfl)) (hw _ (List.mem_of_getElem? (i := 2) rfl)) (by decide) (by decide)) qa qc (g := (mkF m pc Ls [(.int p2), (.ref a1)])) rfl hsz (Steps.refl _) (argsL := [(.int p2)]) (rest := []) (lenOf pd1 rfl) rfl (by show 2 * 0 + _ ≤ _; exact Nat.le_of_eq rfl) hd (fun _ _ => ⟨rfl, rfl, (by decide : 1 + 0 ≤ _), (by decide : 2 + 0 ≤ _)⟩)
  dsimp only [Pt.U, Pt.locs, Pt.cells, Pt.slots] at X1 l1 y1 z1 st1 hQ1
  subst l1 y1 z1
  obtain ⟨rfl, N1, K1, E1, F1, G1⟩ := hQ1
  exact ⟨T1, _, X1, Fr.app N N1, Nat.le_trans Z0 K1.1, ⟨E1, F1, G1⟩, fun target k => st1.trans k⟩
set_option maxRecDepth 65536 in
set_option maxHeartbeats 40000000 in
theorem own_asks {p : Program} {l : Launch} {e : Env} {s : State} {m : MethodId} {args : Array Value} {below : List Frame} {meth : Method} {c : Code} {T : State} {locs : List Loc} {Z : State} {a0 : Array Value}
    (X : Stand p l e room_1 s m args below meth c T locs 1 2) (hx : p.tables.exec = Jvm.exec) (hZ : Z.Warmed39 s.vm) (hw : ∀ d ∈ tables_1, d.before a0 Z = true) (hown : s.vm.findClass "com/example/antechamber/antechamber/TurnTookPinLaw" = some m.cls) {n0 : Nat} (N : Fr n0 locs) (Z0 : n0 ≤ T.heap.size) {a1 : Addr} (g_a1 : n0 ≤ a1) {w3 : Int32} {w5 : Int64} (E : Exa Z T.heap a1 "com/example/antechamber/antechamber/DatabaseSocket$Turn") (F : Fld Z T.heap a1 "com/example/antechamber/antechamber/DatabaseSocket$Turn" "answerDue" "Z" (.int w3)) (G : Fld Z T.heap a1 "com/example/antechamber/antechamber/DatabaseSocket$Turn" "answerBytes" "J" (.long w5)) {pc : Nat} {Ls : Array Slot} (hsz : Ls.size = c.maxLocals) (hd : decode c.code pc = .ok (.invokevirtual 17, 3)) (h01 : w3 = 0 ∨ w3 = 1) :
    ∃ (T' : State) (L' : List Loc), Stand p l e room_1 s m args below meth c T' L' 1 2 ∧ Fr n0 L' ∧ n0 ≤ T'.heap.size ∧ (Exa Z T'.heap a1 "com/example/antechamber/antechamber/DatabaseSocket$Turn" ∧ Fld Z T'.heap a1 "com/example/antechamber/antechamber/DatabaseSocket$Turn" "answerDue" "Z" (.int w3) ∧ Fld Z T'.heap a1 "com/example/antechamber/antechamber/DatabaseSocket$Turn" "answerBytes" "J" (.long w5)) ∧
      ∀ target, Steps p.tables e below (T'.setTop (mkF m (pc + 3) Ls [(.int w3)])) target → Steps p.tables e below (T.setTop (mkF m pc Ls [(.ref a1)])) target := by
  obtain ⟨cq, kq, qa, qb, qc⟩ := isOf hZ rfl E
  obtain ⟨_, _, ⟨T1, L1, k1, n1⟩, -, X1, ⟨Lc1, hQ1, l1, y1, z1⟩, st1⟩ := X.virtualBack hx (y := (⟨"com/example/antechamber/antechamber/DatabaseSocket$Turn", "answerDue", "()Z"⟩ : MethodName)) (z := (⟨"com/example/antechamber/antechamber/DatabaseSocket$Turn", "answerDue", "()Z"⟩ : MethodName)) hown (mvT hZ (hw _ (List.mem_of_getElem? (i := 21) rfl))) (mvT hZ (hw _ (List.mem_of_getElem? (i := 22) rfl))) (notFace_of_selects (args := #[]) (mvT hZ (hw _ (List.mem_of_getElem? (i := 24) rfl)))) (mvT hZ (hw _ (List.mem_of_getElem? (i := 24) rfl))) (mvT hZ (hw _ (List.mem_of_getElem? (i := 23) rfl))) (by decide) (backOf (W := 0) (rm5 l Z a0 hw [] a1 w3 T.heap n0 Z0 F h01) hZ (hw _ (List.mem_of_getElem? (i := 25) rfl)) (hw _ (List.mem_of_getElem? (i := 2) rfl)) (by decide) (by decide)) qa qc (g := (mkF m pc Ls [(.ref a1)])) rfl hsz (Steps.refl _) (argsL := []) (rest := []) (lenOf pd2 rfl) rfl (by show 2 * 0 + _ ≤ _; exact Nat.le_of_eq rfl) hd (fun _ _ => ⟨rfl, rfl, (by decide : 1 + 0 ≤ _), (by decide : 2 + 0 ≤ _)⟩)
  dsimp only [Pt.U, Pt.locs, Pt.cells, Pt.slots] at X1 l1 y1 z1 st1 hQ1
  subst l1 y1 z1
  obtain ⟨rfl, N1, e1⟩ := hQ1
  exact ⟨T1, _, X1, Fr.app N N1, e1 ▸ Z0, ⟨e1 ▸ E, e1 ▸ F, e1 ▸ G⟩, fun target k => st1.trans k⟩
set_option maxRecDepth 65536 in
set_option maxHeartbeats 40000000 in
theorem own_paces {p : Program} {l : Launch} {e : Env} {s : State} {m : MethodId} {args : Array Value} {below : List Frame} {meth : Method} {c : Code} {T : State} {locs : List Loc} {Z : State} {a0 : Array Value}
    (X : Stand p l e room_1 s m args below meth c T locs 1 2) (hx : p.tables.exec = Jvm.exec) (hZ : Z.Warmed39 s.vm) (hw : ∀ d ∈ tables_1, d.before a0 Z = true) (hown : s.vm.findClass "com/example/antechamber/antechamber/TurnTookPinLaw" = some m.cls) {n0 : Nat} (N : Fr n0 locs) (Z0 : n0 ≤ T.heap.size) {a1 : Addr} (g_a1 : n0 ≤ a1) {w3 : Int32} {w5 : Int64} (E : Exa Z T.heap a1 "com/example/antechamber/antechamber/DatabaseSocket$Turn") (F : Fld Z T.heap a1 "com/example/antechamber/antechamber/DatabaseSocket$Turn" "answerDue" "Z" (.int w3)) (G : Fld Z T.heap a1 "com/example/antechamber/antechamber/DatabaseSocket$Turn" "answerBytes" "J" (.long w5)) {pc : Nat} {Ls : Array Slot} (hsz : Ls.size = c.maxLocals) (hd : decode c.code pc = .ok (.invokevirtual 21, 3)) :
    ∃ (T' : State) (L' : List Loc), Stand p l e room_1 s m args below meth c T' L' 1 2 ∧ Fr n0 L' ∧ n0 ≤ T'.heap.size ∧ (Exa Z T'.heap a1 "com/example/antechamber/antechamber/DatabaseSocket$Turn" ∧ Fld Z T'.heap a1 "com/example/antechamber/antechamber/DatabaseSocket$Turn" "answerDue" "Z" (.int w3) ∧ Fld Z T'.heap a1 "com/example/antechamber/antechamber/DatabaseSocket$Turn" "answerBytes" "J" (.long w5)) ∧
      ∀ target, Steps p.tables e below (T'.setTop (mkF m (pc + 3) Ls [(.int (own_pc w3 w5))])) target → Steps p.tables e below (T.setTop (mkF m pc Ls [(.ref a1)])) target := by
  obtain ⟨cq, kq, qa, qb, qc⟩ := isOf hZ rfl E
  obtain ⟨_, _, ⟨T1, L1, k1, n1⟩, -, X1, ⟨Lc1, hQ1, l1, y1, z1⟩, st1⟩ := X.virtualBack hx (y := (⟨"com/example/antechamber/antechamber/DatabaseSocket$Turn", "paces", "()Z"⟩ : MethodName)) (z := (⟨"com/example/antechamber/antechamber/DatabaseSocket$Turn", "paces", "()Z"⟩ : MethodName)) hown (mvT hZ (hw _ (List.mem_of_getElem? (i := 26) rfl))) (mvT hZ (hw _ (List.mem_of_getElem? (i := 27) rfl))) (notFace_of_selects (args := #[]) (mvT hZ (hw _ (List.mem_of_getElem? (i := 29) rfl)))) (mvT hZ (hw _ (List.mem_of_getElem? (i := 29) rfl))) (mvT hZ (hw _ (List.mem_of_getElem? (i := 28) rfl))) (by decide) (backOf (W := 0) (rm6 l Z a0 hw [] a1 w3 w5 T.heap n0 Z0 F G) hZ (hw _ (List.mem_of_getElem? (i := 30) rfl)) (hw _ (List.mem_of_getElem? (i := 2) rfl)) (by decide) (by decide)) qa qc (g := (mkF m pc Ls [(.ref a1)])) rfl hsz (Steps.refl _) (argsL := []) (rest := []) (lenOf pd2 rfl) rfl (by show 2 * 0 + _ ≤ _; exact Nat.le_of_eq rfl) hd (fun _ _ => ⟨rfl, rfl, (by decide : 1 + 0 ≤ _), (by decide : 2 + 0 ≤ _)⟩)
  dsimp only [Pt.U, Pt.locs, Pt.cells, Pt.slots] at X1 l1 y1 z1 st1 hQ1
  subst l1 y1 z1
  obtain ⟨rfl, N1, e1⟩ := hQ1
  exact ⟨T1, _, X1, Fr.app N N1, e1 ▸ Z0, ⟨e1 ▸ E, e1 ▸ F, e1 ▸ G⟩, fun target k => st1.trans k⟩
set_option maxRecDepth 65536 in
set_option maxHeartbeats 40000000 in
theorem sg_0 {p : Program} {l : Launch} {e : Env} {R : Room} {s : State} {m : MethodId} {args : Array Value} {below : List Frame} {meth : Method} {c : Code} {T : State} {locs : List Loc} {cells slots : Nat} {Z : State} {a0 : Array Value} (i0 i1 i2 i3 : Int32)
    (X : Stand p l e R s m args below meth c T locs cells slots) (hx : p.tables.exec = Jvm.exec) (hZ : Z.Warmed39 s.vm) (hw : ∀ d ∈ tables_1, d.before a0 Z = true) (hby : c.code = code) (hown : s.vm.findClass "com/example/antechamber/antechamber/TurnTookPinLaw" = some m.cls) :
    ∀ target, Steps p.tables e below (T.setTop (mkF m 11 #[.val (.int i0), .val (.int i1), .val (.int i2), .val (.int i3), .val (.int (own_nrm i0)), .unset, .unset, .unset, .unset, .unset, .unset, .unset, .unset, .unset, .unset, .unset, .unset, .unset, .unset, .unset, .unset] [])) target → Steps p.tables e below (T.setTop (mkF m 0 #[.val (.int i0), .val (.int i1), .val (.int i2), .val (.int i3), .unset, .unset, .unset, .unset, .unset, .unset, .unset, .unset, .unset, .unset, .unset, .unset, .unset, .unset, .unset, .unset, .unset] [])) target := by
  intro target kt
  show Steps p.tables e below (T.setTop (mkF m 0 #[.val (.int i0), .val (.int i1), .val (.int i2), .val (.int i3), .unset, .unset, .unset, .unset, .unset, .unset, .unset, .unset, .unset, .unset, .unset, .unset, .unset, .unset, .unset, .unset, .unset] [])) _
  refine XS.iloadN X.here hx rfl (hb hby at_0) rfl ?_
  show Steps p.tables e below (T.setTop (mkF m 1 #[.val (.int i0), .val (.int i1), .val (.int i2), .val (.int i3), .unset, .unset, .unset, .unset, .unset, .unset, .unset, .unset, .unset, .unset, .unset, .unset, .unset, .unset, .unset, .unset, .unset] [(.int i0)])) _
  by_cases hc1 : i0 < (0 : Int32)
  · refine XS.ifNo X.here hx rfl (hb hby at_1) rfl ((if0 _ _).trans (tlt hc1).2.1) ?_
    show Steps p.tables e below (T.setTop (mkF m 4 #[.val (.int i0), .val (.int i1), .val (.int i2), .val (.int i3), .unset, .unset, .unset, .unset, .unset, .unset, .unset, .unset, .unset, .unset, .unset, .unset, .unset, .unset, .unset, .unset, .unset] [])) _
    refine XS.iconst X.here hx rfl (hb hby at_4) ?_
    show Steps p.tables e below (T.setTop (mkF m 5 #[.val (.int i0), .val (.int i1), .val (.int i2), .val (.int i3), .unset, .unset, .unset, .unset, .unset, .unset, .unset, .unset, .unset, .unset, .unset, .unset, .unset, .unset, .unset, .unset, .unset] [(.int (-1 : Int32))])) _
    refine XS.goto X.here hx rfl (pc0 := 5) (pc' := 9) rfl (hb hby at_5) (by decide) (by decide) ?_
    show Steps p.tables e below (T.setTop (mkF m 9 #[.val (.int i0), .val (.int i1), .val (.int i2), .val (.int i3), .unset, .unset, .unset, .unset, .unset, .unset, .unset, .unset, .unset, .unset, .unset, .unset, .unset, .unset, .unset, .unset, .unset] [(.int (-1 : Int32))])) _
    refine XS.istore X.here hx rfl (hb hby at_9) rfl (l' := #[.val (.int i0), .val (.int i1), .val (.int i2), .val (.int i3), .val (.int (-1 : Int32)), .unset, .unset, .unset, .unset, .unset, .unset, .unset, .unset, .unset, .unset, .unset, .unset, .unset, .unset, .unset, .unset]) rfl ?_
    rw [show (own_nrm i0) = (-1 : Int32) from by simp [own_nrm, hc1]] at kt
    exact kt
  · refine XS.ifYes X.here hx rfl (pc0 := 1) (pc' := 8) rfl (hb hby at_1) rfl ((if0 _ _).trans (flt hc1).2.1) (by decide) (by decide) ?_
    show Steps p.tables e below (T.setTop (mkF m 8 #[.val (.int i0), .val (.int i1), .val (.int i2), .val (.int i3), .unset, .unset, .unset, .unset, .unset, .unset, .unset, .unset, .unset, .unset, .unset, .unset, .unset, .unset, .unset, .unset, .unset] [])) _
    refine XS.iloadN X.here hx rfl (hb hby at_8) rfl ?_
    show Steps p.tables e below (T.setTop (mkF m 9 #[.val (.int i0), .val (.int i1), .val (.int i2), .val (.int i3), .unset, .unset, .unset, .unset, .unset, .unset, .unset, .unset, .unset, .unset, .unset, .unset, .unset, .unset, .unset, .unset, .unset] [(.int i0)])) _
    refine XS.istore X.here hx rfl (hb hby at_9) rfl (l' := #[.val (.int i0), .val (.int i1), .val (.int i2), .val (.int i3), .val (.int i0), .unset, .unset, .unset, .unset, .unset, .unset, .unset, .unset, .unset, .unset, .unset, .unset, .unset, .unset, .unset, .unset]) rfl ?_
    rw [show (own_nrm i0) = i0 from by simp [own_nrm, hc1]] at kt
    exact kt
set_option maxRecDepth 65536 in
set_option maxHeartbeats 40000000 in
theorem sg_11 {p : Program} {l : Launch} {e : Env} {R : Room} {s : State} {m : MethodId} {args : Array Value} {below : List Frame} {meth : Method} {c : Code} {T : State} {locs : List Loc} {cells slots : Nat} {Z : State} {a0 : Array Value} (i0 i1 i2 i3 v4 : Int32)
    (X : Stand p l e R s m args below meth c T locs cells slots) (hx : p.tables.exec = Jvm.exec) (hZ : Z.Warmed39 s.vm) (hw : ∀ d ∈ tables_1, d.before a0 Z = true) (hby : c.code = code) (hown : s.vm.findClass "com/example/antechamber/antechamber/TurnTookPinLaw" = some m.cls) :
    ∀ target, Steps p.tables e below (T.setTop (mkF m 22 #[.val (.int i0), .val (.int i1), .val (.int i2), .val (.int i3), .val (.int v4), .val (.int (own_nrm i1)), .unset, .unset, .unset, .unset, .unset, .unset, .unset, .unset, .unset, .unset, .unset, .unset, .unset, .unset, .unset] [])) target → Steps p.tables e below (T.setTop (mkF m 11 #[.val (.int i0), .val (.int i1), .val (.int i2), .val (.int i3), .val (.int v4), .unset, .unset, .unset, .unset, .unset, .unset, .unset, .unset, .unset, .unset, .unset, .unset, .unset, .unset, .unset, .unset] [])) target := by
  intro target kt
  show Steps p.tables e below (T.setTop (mkF m 11 #[.val (.int i0), .val (.int i1), .val (.int i2), .val (.int i3), .val (.int v4), .unset, .unset, .unset, .unset, .unset, .unset, .unset, .unset, .unset, .unset, .unset, .unset, .unset, .unset, .unset, .unset] [])) _
  refine XS.iloadN X.here hx rfl (hb hby at_11) rfl ?_
  show Steps p.tables e below (T.setTop (mkF m 12 #[.val (.int i0), .val (.int i1), .val (.int i2), .val (.int i3), .val (.int v4), .unset, .unset, .unset, .unset, .unset, .unset, .unset, .unset, .unset, .unset, .unset, .unset, .unset, .unset, .unset, .unset] [(.int i1)])) _
  by_cases hc12 : i1 < (0 : Int32)
  · refine XS.ifNo X.here hx rfl (hb hby at_12) rfl ((if0 _ _).trans (tlt hc12).2.1) ?_
    show Steps p.tables e below (T.setTop (mkF m 15 #[.val (.int i0), .val (.int i1), .val (.int i2), .val (.int i3), .val (.int v4), .unset, .unset, .unset, .unset, .unset, .unset, .unset, .unset, .unset, .unset, .unset, .unset, .unset, .unset, .unset, .unset] [])) _
    refine XS.iconst X.here hx rfl (hb hby at_15) ?_
    show Steps p.tables e below (T.setTop (mkF m 16 #[.val (.int i0), .val (.int i1), .val (.int i2), .val (.int i3), .val (.int v4), .unset, .unset, .unset, .unset, .unset, .unset, .unset, .unset, .unset, .unset, .unset, .unset, .unset, .unset, .unset, .unset] [(.int (-1 : Int32))])) _
    refine XS.goto X.here hx rfl (pc0 := 16) (pc' := 20) rfl (hb hby at_16) (by decide) (by decide) ?_
    show Steps p.tables e below (T.setTop (mkF m 20 #[.val (.int i0), .val (.int i1), .val (.int i2), .val (.int i3), .val (.int v4), .unset, .unset, .unset, .unset, .unset, .unset, .unset, .unset, .unset, .unset, .unset, .unset, .unset, .unset, .unset, .unset] [(.int (-1 : Int32))])) _
    refine XS.istore X.here hx rfl (hb hby at_20) rfl (l' := #[.val (.int i0), .val (.int i1), .val (.int i2), .val (.int i3), .val (.int v4), .val (.int (-1 : Int32)), .unset, .unset, .unset, .unset, .unset, .unset, .unset, .unset, .unset, .unset, .unset, .unset, .unset, .unset, .unset]) rfl ?_
    rw [show (own_nrm i1) = (-1 : Int32) from by simp [own_nrm, hc12]] at kt
    exact kt
  · refine XS.ifYes X.here hx rfl (pc0 := 12) (pc' := 19) rfl (hb hby at_12) rfl ((if0 _ _).trans (flt hc12).2.1) (by decide) (by decide) ?_
    show Steps p.tables e below (T.setTop (mkF m 19 #[.val (.int i0), .val (.int i1), .val (.int i2), .val (.int i3), .val (.int v4), .unset, .unset, .unset, .unset, .unset, .unset, .unset, .unset, .unset, .unset, .unset, .unset, .unset, .unset, .unset, .unset] [])) _
    refine XS.iloadN X.here hx rfl (hb hby at_19) rfl ?_
    show Steps p.tables e below (T.setTop (mkF m 20 #[.val (.int i0), .val (.int i1), .val (.int i2), .val (.int i3), .val (.int v4), .unset, .unset, .unset, .unset, .unset, .unset, .unset, .unset, .unset, .unset, .unset, .unset, .unset, .unset, .unset, .unset] [(.int i1)])) _
    refine XS.istore X.here hx rfl (hb hby at_20) rfl (l' := #[.val (.int i0), .val (.int i1), .val (.int i2), .val (.int i3), .val (.int v4), .val (.int i1), .unset, .unset, .unset, .unset, .unset, .unset, .unset, .unset, .unset, .unset, .unset, .unset, .unset, .unset, .unset]) rfl ?_
    rw [show (own_nrm i1) = i1 from by simp [own_nrm, hc12]] at kt
    exact kt
set_option maxRecDepth 65536 in
set_option maxHeartbeats 40000000 in
theorem sg_22 {p : Program} {l : Launch} {e : Env} {R : Room} {s : State} {m : MethodId} {args : Array Value} {below : List Frame} {meth : Method} {c : Code} {T : State} {locs : List Loc} {cells slots : Nat} {Z : State} {a0 : Array Value} (i0 i1 i2 i3 v4 v5 : Int32)
    (X : Stand p l e R s m args below meth c T locs cells slots) (hx : p.tables.exec = Jvm.exec) (hZ : Z.Warmed39 s.vm) (hw : ∀ d ∈ tables_1, d.before a0 Z = true) (hby : c.code = code) (hown : s.vm.findClass "com/example/antechamber/antechamber/TurnTookPinLaw" = some m.cls) :
    ∀ target, Steps p.tables e below (T.setTop (mkF m 33 #[.val (.int i0), .val (.int i1), .val (.int i2), .val (.int i3), .val (.int v4), .val (.int v5), .val (.int (own_nrm i2)), .unset, .unset, .unset, .unset, .unset, .unset, .unset, .unset, .unset, .unset, .unset, .unset, .unset, .unset] [])) target → Steps p.tables e below (T.setTop (mkF m 22 #[.val (.int i0), .val (.int i1), .val (.int i2), .val (.int i3), .val (.int v4), .val (.int v5), .unset, .unset, .unset, .unset, .unset, .unset, .unset, .unset, .unset, .unset, .unset, .unset, .unset, .unset, .unset] [])) target := by
  intro target kt
  show Steps p.tables e below (T.setTop (mkF m 22 #[.val (.int i0), .val (.int i1), .val (.int i2), .val (.int i3), .val (.int v4), .val (.int v5), .unset, .unset, .unset, .unset, .unset, .unset, .unset, .unset, .unset, .unset, .unset, .unset, .unset, .unset, .unset] [])) _
  refine XS.iloadN X.here hx rfl (hb hby at_22) rfl ?_
  show Steps p.tables e below (T.setTop (mkF m 23 #[.val (.int i0), .val (.int i1), .val (.int i2), .val (.int i3), .val (.int v4), .val (.int v5), .unset, .unset, .unset, .unset, .unset, .unset, .unset, .unset, .unset, .unset, .unset, .unset, .unset, .unset, .unset] [(.int i2)])) _
  by_cases hc23 : i2 < (0 : Int32)
  · refine XS.ifNo X.here hx rfl (hb hby at_23) rfl ((if0 _ _).trans (tlt hc23).2.1) ?_
    show Steps p.tables e below (T.setTop (mkF m 26 #[.val (.int i0), .val (.int i1), .val (.int i2), .val (.int i3), .val (.int v4), .val (.int v5), .unset, .unset, .unset, .unset, .unset, .unset, .unset, .unset, .unset, .unset, .unset, .unset, .unset, .unset, .unset] [])) _
    refine XS.iconst X.here hx rfl (hb hby at_26) ?_
    show Steps p.tables e below (T.setTop (mkF m 27 #[.val (.int i0), .val (.int i1), .val (.int i2), .val (.int i3), .val (.int v4), .val (.int v5), .unset, .unset, .unset, .unset, .unset, .unset, .unset, .unset, .unset, .unset, .unset, .unset, .unset, .unset, .unset] [(.int (-1 : Int32))])) _
    refine XS.goto X.here hx rfl (pc0 := 27) (pc' := 31) rfl (hb hby at_27) (by decide) (by decide) ?_
    show Steps p.tables e below (T.setTop (mkF m 31 #[.val (.int i0), .val (.int i1), .val (.int i2), .val (.int i3), .val (.int v4), .val (.int v5), .unset, .unset, .unset, .unset, .unset, .unset, .unset, .unset, .unset, .unset, .unset, .unset, .unset, .unset, .unset] [(.int (-1 : Int32))])) _
    refine XS.istore X.here hx rfl (hb hby at_31) rfl (l' := #[.val (.int i0), .val (.int i1), .val (.int i2), .val (.int i3), .val (.int v4), .val (.int v5), .val (.int (-1 : Int32)), .unset, .unset, .unset, .unset, .unset, .unset, .unset, .unset, .unset, .unset, .unset, .unset, .unset, .unset]) rfl ?_
    rw [show (own_nrm i2) = (-1 : Int32) from by simp [own_nrm, hc23]] at kt
    exact kt
  · refine XS.ifYes X.here hx rfl (pc0 := 23) (pc' := 30) rfl (hb hby at_23) rfl ((if0 _ _).trans (flt hc23).2.1) (by decide) (by decide) ?_
    show Steps p.tables e below (T.setTop (mkF m 30 #[.val (.int i0), .val (.int i1), .val (.int i2), .val (.int i3), .val (.int v4), .val (.int v5), .unset, .unset, .unset, .unset, .unset, .unset, .unset, .unset, .unset, .unset, .unset, .unset, .unset, .unset, .unset] [])) _
    refine XS.iloadN X.here hx rfl (hb hby at_30) rfl ?_
    show Steps p.tables e below (T.setTop (mkF m 31 #[.val (.int i0), .val (.int i1), .val (.int i2), .val (.int i3), .val (.int v4), .val (.int v5), .unset, .unset, .unset, .unset, .unset, .unset, .unset, .unset, .unset, .unset, .unset, .unset, .unset, .unset, .unset] [(.int i2)])) _
    refine XS.istore X.here hx rfl (hb hby at_31) rfl (l' := #[.val (.int i0), .val (.int i1), .val (.int i2), .val (.int i3), .val (.int v4), .val (.int v5), .val (.int i2), .unset, .unset, .unset, .unset, .unset, .unset, .unset, .unset, .unset, .unset, .unset, .unset, .unset, .unset]) rfl ?_
    rw [show (own_nrm i2) = i2 from by simp [own_nrm, hc23]] at kt
    exact kt
set_option maxRecDepth 65536 in
set_option maxHeartbeats 40000000 in
theorem sg_33 {p : Program} {l : Launch} {e : Env} {R : Room} {s : State} {m : MethodId} {args : Array Value} {below : List Frame} {meth : Method} {c : Code} {T : State} {locs : List Loc} {cells slots : Nat} {Z : State} {a0 : Array Value} (i0 i1 i2 i3 v4 v5 v6 : Int32)
    (X : Stand p l e R s m args below meth c T locs cells slots) (hx : p.tables.exec = Jvm.exec) (hZ : Z.Warmed39 s.vm) (hw : ∀ d ∈ tables_1, d.before a0 Z = true) (hby : c.code = code) (hown : s.vm.findClass "com/example/antechamber/antechamber/TurnTookPinLaw" = some m.cls) :
    ∀ target, Steps p.tables e below (T.setTop (mkF m 46 #[.val (.int i0), .val (.int i1), .val (.int i2), .val (.int i3), .val (.int v4), .val (.int v5), .val (.int v6), .val (.int (own_bit (i3 &&& (1 : Int32)))), .unset, .unset, .unset, .unset, .unset, .unset, .unset, .unset, .unset, .unset, .unset, .unset, .unset] [])) target → Steps p.tables e below (T.setTop (mkF m 33 #[.val (.int i0), .val (.int i1), .val (.int i2), .val (.int i3), .val (.int v4), .val (.int v5), .val (.int v6), .unset, .unset, .unset, .unset, .unset, .unset, .unset, .unset, .unset, .unset, .unset, .unset, .unset, .unset] [])) target := by
  intro target kt
  show Steps p.tables e below (T.setTop (mkF m 33 #[.val (.int i0), .val (.int i1), .val (.int i2), .val (.int i3), .val (.int v4), .val (.int v5), .val (.int v6), .unset, .unset, .unset, .unset, .unset, .unset, .unset, .unset, .unset, .unset, .unset, .unset, .unset, .unset] [])) _
  refine XS.iloadN X.here hx rfl (hb hby at_33) rfl ?_
  show Steps p.tables e below (T.setTop (mkF m 34 #[.val (.int i0), .val (.int i1), .val (.int i2), .val (.int i3), .val (.int v4), .val (.int v5), .val (.int v6), .unset, .unset, .unset, .unset, .unset, .unset, .unset, .unset, .unset, .unset, .unset, .unset, .unset, .unset] [(.int i3)])) _
  refine XS.iconst X.here hx rfl (hb hby at_34) ?_
  show Steps p.tables e below (T.setTop (mkF m 35 #[.val (.int i0), .val (.int i1), .val (.int i2), .val (.int i3), .val (.int v4), .val (.int v5), .val (.int v6), .unset, .unset, .unset, .unset, .unset, .unset, .unset, .unset, .unset, .unset, .unset, .unset, .unset, .unset] [(.int (1 : Int32)), (.int i3)])) _
  refine XS.iand X.here hx rfl (hb hby at_35) rfl ?_
  show Steps p.tables e below (T.setTop (mkF m 36 #[.val (.int i0), .val (.int i1), .val (.int i2), .val (.int i3), .val (.int v4), .val (.int v5), .val (.int v6), .unset, .unset, .unset, .unset, .unset, .unset, .unset, .unset, .unset, .unset, .unset, .unset, .unset, .unset] [(.int (i3 &&& (1 : Int32)))])) _
  by_cases hc36 : (i3 &&& (1 : Int32)) = (0 : Int32)
  · refine XS.ifYes X.here hx rfl (pc0 := 36) (pc' := 43) rfl (hb hby at_36) rfl ((if0 _ _).trans (teq hc36).1) (by decide) (by decide) ?_
    show Steps p.tables e below (T.setTop (mkF m 43 #[.val (.int i0), .val (.int i1), .val (.int i2), .val (.int i3), .val (.int v4), .val (.int v5), .val (.int v6), .unset, .unset, .unset, .unset, .unset, .unset, .unset, .unset, .unset, .unset, .unset, .unset, .unset, .unset] [])) _
    refine XS.iconst X.here hx rfl (hb hby at_43) ?_
    show Steps p.tables e below (T.setTop (mkF m 44 #[.val (.int i0), .val (.int i1), .val (.int i2), .val (.int i3), .val (.int v4), .val (.int v5), .val (.int v6), .unset, .unset, .unset, .unset, .unset, .unset, .unset, .unset, .unset, .unset, .unset, .unset, .unset, .unset] [(.int (0 : Int32))])) _
    refine XS.istore X.here hx rfl (hb hby at_44) rfl (l' := #[.val (.int i0), .val (.int i1), .val (.int i2), .val (.int i3), .val (.int v4), .val (.int v5), .val (.int v6), .val (.int (0 : Int32)), .unset, .unset, .unset, .unset, .unset, .unset, .unset, .unset, .unset, .unset, .unset, .unset, .unset]) rfl ?_
    rw [show (own_bit (i3 &&& (1 : Int32))) = (0 : Int32) from by simp [own_bit, hc36]] at kt
    exact kt
  · refine XS.ifNo X.here hx rfl (hb hby at_36) rfl ((if0 _ _).trans (feq hc36).1) ?_
    show Steps p.tables e below (T.setTop (mkF m 39 #[.val (.int i0), .val (.int i1), .val (.int i2), .val (.int i3), .val (.int v4), .val (.int v5), .val (.int v6), .unset, .unset, .unset, .unset, .unset, .unset, .unset, .unset, .unset, .unset, .unset, .unset, .unset, .unset] [])) _
    refine XS.iconst X.here hx rfl (hb hby at_39) ?_
    show Steps p.tables e below (T.setTop (mkF m 40 #[.val (.int i0), .val (.int i1), .val (.int i2), .val (.int i3), .val (.int v4), .val (.int v5), .val (.int v6), .unset, .unset, .unset, .unset, .unset, .unset, .unset, .unset, .unset, .unset, .unset, .unset, .unset, .unset] [(.int (1 : Int32))])) _
    refine XS.goto X.here hx rfl (pc0 := 40) (pc' := 44) rfl (hb hby at_40) (by decide) (by decide) ?_
    show Steps p.tables e below (T.setTop (mkF m 44 #[.val (.int i0), .val (.int i1), .val (.int i2), .val (.int i3), .val (.int v4), .val (.int v5), .val (.int v6), .unset, .unset, .unset, .unset, .unset, .unset, .unset, .unset, .unset, .unset, .unset, .unset, .unset, .unset] [(.int (1 : Int32))])) _
    refine XS.istore X.here hx rfl (hb hby at_44) rfl (l' := #[.val (.int i0), .val (.int i1), .val (.int i2), .val (.int i3), .val (.int v4), .val (.int v5), .val (.int v6), .val (.int (1 : Int32)), .unset, .unset, .unset, .unset, .unset, .unset, .unset, .unset, .unset, .unset, .unset, .unset, .unset]) rfl ?_
    rw [show (own_bit (i3 &&& (1 : Int32))) = (1 : Int32) from by simp [own_bit, hc36]] at kt
    exact kt
set_option maxRecDepth 65536 in
set_option maxHeartbeats 40000000 in
theorem sg_46 {p : Program} {l : Launch} {e : Env} {R : Room} {s : State} {m : MethodId} {args : Array Value} {below : List Frame} {meth : Method} {c : Code} {T : State} {locs : List Loc} {cells slots : Nat} {Z : State} {a0 : Array Value} (i0 i1 i2 i3 v4 v5 v6 v7 : Int32)
    (X : Stand p l e R s m args below meth c T locs cells slots) (hx : p.tables.exec = Jvm.exec) (hZ : Z.Warmed39 s.vm) (hw : ∀ d ∈ tables_1, d.before a0 Z = true) (hby : c.code = code) (hown : s.vm.findClass "com/example/antechamber/antechamber/TurnTookPinLaw" = some m.cls) :
    ∀ target, Steps p.tables e below (T.setTop (mkF m 59 #[.val (.int i0), .val (.int i1), .val (.int i2), .val (.int i3), .val (.int v4), .val (.int v5), .val (.int v6), .val (.int v7), .val (.int (own_bit (i3 &&& (2 : Int32)))), .unset, .unset, .unset, .unset, .unset, .unset, .unset, .unset, .unset, .unset, .unset, .unset] [])) target → Steps p.tables e below (T.setTop (mkF m 46 #[.val (.int i0), .val (.int i1), .val (.int i2), .val (.int i3), .val (.int v4), .val (.int v5), .val (.int v6), .val (.int v7), .unset, .unset, .unset, .unset, .unset, .unset, .unset, .unset, .unset, .unset, .unset, .unset, .unset] [])) target := by
  intro target kt
  show Steps p.tables e below (T.setTop (mkF m 46 #[.val (.int i0), .val (.int i1), .val (.int i2), .val (.int i3), .val (.int v4), .val (.int v5), .val (.int v6), .val (.int v7), .unset, .unset, .unset, .unset, .unset, .unset, .unset, .unset, .unset, .unset, .unset, .unset, .unset] [])) _
  refine XS.iloadN X.here hx rfl (hb hby at_46) rfl ?_
  show Steps p.tables e below (T.setTop (mkF m 47 #[.val (.int i0), .val (.int i1), .val (.int i2), .val (.int i3), .val (.int v4), .val (.int v5), .val (.int v6), .val (.int v7), .unset, .unset, .unset, .unset, .unset, .unset, .unset, .unset, .unset, .unset, .unset, .unset, .unset] [(.int i3)])) _
  refine XS.iconst X.here hx rfl (hb hby at_47) ?_
  show Steps p.tables e below (T.setTop (mkF m 48 #[.val (.int i0), .val (.int i1), .val (.int i2), .val (.int i3), .val (.int v4), .val (.int v5), .val (.int v6), .val (.int v7), .unset, .unset, .unset, .unset, .unset, .unset, .unset, .unset, .unset, .unset, .unset, .unset, .unset] [(.int (2 : Int32)), (.int i3)])) _
  refine XS.iand X.here hx rfl (hb hby at_48) rfl ?_
  show Steps p.tables e below (T.setTop (mkF m 49 #[.val (.int i0), .val (.int i1), .val (.int i2), .val (.int i3), .val (.int v4), .val (.int v5), .val (.int v6), .val (.int v7), .unset, .unset, .unset, .unset, .unset, .unset, .unset, .unset, .unset, .unset, .unset, .unset, .unset] [(.int (i3 &&& (2 : Int32)))])) _
  by_cases hc49 : (i3 &&& (2 : Int32)) = (0 : Int32)
  · refine XS.ifYes X.here hx rfl (pc0 := 49) (pc' := 56) rfl (hb hby at_49) rfl ((if0 _ _).trans (teq hc49).1) (by decide) (by decide) ?_
    show Steps p.tables e below (T.setTop (mkF m 56 #[.val (.int i0), .val (.int i1), .val (.int i2), .val (.int i3), .val (.int v4), .val (.int v5), .val (.int v6), .val (.int v7), .unset, .unset, .unset, .unset, .unset, .unset, .unset, .unset, .unset, .unset, .unset, .unset, .unset] [])) _
    refine XS.iconst X.here hx rfl (hb hby at_56) ?_
    show Steps p.tables e below (T.setTop (mkF m 57 #[.val (.int i0), .val (.int i1), .val (.int i2), .val (.int i3), .val (.int v4), .val (.int v5), .val (.int v6), .val (.int v7), .unset, .unset, .unset, .unset, .unset, .unset, .unset, .unset, .unset, .unset, .unset, .unset, .unset] [(.int (0 : Int32))])) _
    refine XS.istore X.here hx rfl (hb hby at_57) rfl (l' := #[.val (.int i0), .val (.int i1), .val (.int i2), .val (.int i3), .val (.int v4), .val (.int v5), .val (.int v6), .val (.int v7), .val (.int (0 : Int32)), .unset, .unset, .unset, .unset, .unset, .unset, .unset, .unset, .unset, .unset, .unset, .unset]) rfl ?_
    rw [show (own_bit (i3 &&& (2 : Int32))) = (0 : Int32) from by simp [own_bit, hc49]] at kt
    exact kt
  · refine XS.ifNo X.here hx rfl (hb hby at_49) rfl ((if0 _ _).trans (feq hc49).1) ?_
    show Steps p.tables e below (T.setTop (mkF m 52 #[.val (.int i0), .val (.int i1), .val (.int i2), .val (.int i3), .val (.int v4), .val (.int v5), .val (.int v6), .val (.int v7), .unset, .unset, .unset, .unset, .unset, .unset, .unset, .unset, .unset, .unset, .unset, .unset, .unset] [])) _
    refine XS.iconst X.here hx rfl (hb hby at_52) ?_
    show Steps p.tables e below (T.setTop (mkF m 53 #[.val (.int i0), .val (.int i1), .val (.int i2), .val (.int i3), .val (.int v4), .val (.int v5), .val (.int v6), .val (.int v7), .unset, .unset, .unset, .unset, .unset, .unset, .unset, .unset, .unset, .unset, .unset, .unset, .unset] [(.int (1 : Int32))])) _
    refine XS.goto X.here hx rfl (pc0 := 53) (pc' := 57) rfl (hb hby at_53) (by decide) (by decide) ?_
    show Steps p.tables e below (T.setTop (mkF m 57 #[.val (.int i0), .val (.int i1), .val (.int i2), .val (.int i3), .val (.int v4), .val (.int v5), .val (.int v6), .val (.int v7), .unset, .unset, .unset, .unset, .unset, .unset, .unset, .unset, .unset, .unset, .unset, .unset, .unset] [(.int (1 : Int32))])) _
    refine XS.istore X.here hx rfl (hb hby at_57) rfl (l' := #[.val (.int i0), .val (.int i1), .val (.int i2), .val (.int i3), .val (.int v4), .val (.int v5), .val (.int v6), .val (.int v7), .val (.int (1 : Int32)), .unset, .unset, .unset, .unset, .unset, .unset, .unset, .unset, .unset, .unset, .unset, .unset]) rfl ?_
    rw [show (own_bit (i3 &&& (2 : Int32))) = (1 : Int32) from by simp [own_bit, hc49]] at kt
    exact kt
set_option maxRecDepth 65536 in
set_option maxHeartbeats 40000000 in
theorem sg_85 {p : Program} {l : Launch} {e : Env} {R : Room} {s : State} {m : MethodId} {args : Array Value} {below : List Frame} {meth : Method} {c : Code} {T : State} {locs : List Loc} {cells slots : Nat} {Z : State} {a0 : Array Value} (i0 i1 i2 i3 v4 v5 v6 v7 v8 : Int32) (a1 : Addr)
    (X : Stand p l e R s m args below meth c T locs cells slots) (hx : p.tables.exec = Jvm.exec) (hZ : Z.Warmed39 s.vm) (hw : ∀ d ∈ tables_1, d.before a0 Z = true) (hby : c.code = code) (hown : s.vm.findClass "com/example/antechamber/antechamber/TurnTookPinLaw" = some m.cls) :
    ∀ target, Steps p.tables e below (T.setTop (mkF m 102 #[.val (.int i0), .val (.int i1), .val (.int i2), .val (.int i3), .val (.int v4), .val (.int v5), .val (.int v6), .val (.int v7), .val (.int v8), .val (.ref a1), .val (.int (own_and v7 v4)), .unset, .unset, .unset, .unset, .unset, .unset, .unset, .unset, .unset, .unset] [])) target → Steps p.tables e below (T.setTop (mkF m 85 #[.val (.int i0), .val (.int i1), .val (.int i2), .val (.int i3), .val (.int v4), .val (.int v5), .val (.int v6), .val (.int v7), .val (.int v8), .val (.ref a1), .unset, .unset, .unset, .unset, .unset, .unset, .unset, .unset, .unset, .unset, .unset] [])) target := by
  intro target kt
  show Steps p.tables e below (T.setTop (mkF m 85 #[.val (.int i0), .val (.int i1), .val (.int i2), .val (.int i3), .val (.int v4), .val (.int v5), .val (.int v6), .val (.int v7), .val (.int v8), .val (.ref a1), .unset, .unset, .unset, .unset, .unset, .unset, .unset, .unset, .unset, .unset, .unset] [])) _
  refine XS.iload X.here hx rfl (hb hby at_85) rfl ?_
  show Steps p.tables e below (T.setTop (mkF m 87 #[.val (.int i0), .val (.int i1), .val (.int i2), .val (.int i3), .val (.int v4), .val (.int v5), .val (.int v6), .val (.int v7), .val (.int v8), .val (.ref a1), .unset, .unset, .unset, .unset, .unset, .unset, .unset, .unset, .unset, .unset, .unset] [(.int v7)])) _
  by_cases hc87 : v7 = (0 : Int32)
  · refine XS.ifYes X.here hx rfl (pc0 := 87) (pc' := 99) rfl (hb hby at_87) rfl ((if0 _ _).trans (teq hc87).1) (by decide) (by decide) ?_
    show Steps p.tables e below (T.setTop (mkF m 99 #[.val (.int i0), .val (.int i1), .val (.int i2), .val (.int i3), .val (.int v4), .val (.int v5), .val (.int v6), .val (.int v7), .val (.int v8), .val (.ref a1), .unset, .unset, .unset, .unset, .unset, .unset, .unset, .unset, .unset, .unset, .unset] [])) _
    refine XS.iconst X.here hx rfl (hb hby at_99) ?_
    show Steps p.tables e below (T.setTop (mkF m 100 #[.val (.int i0), .val (.int i1), .val (.int i2), .val (.int i3), .val (.int v4), .val (.int v5), .val (.int v6), .val (.int v7), .val (.int v8), .val (.ref a1), .unset, .unset, .unset, .unset, .unset, .unset, .unset, .unset, .unset, .unset, .unset] [(.int (0 : Int32))])) _
    refine XS.istore X.here hx rfl (hb hby at_100) rfl (l' := #[.val (.int i0), .val (.int i1), .val (.int i2), .val (.int i3), .val (.int v4), .val (.int v5), .val (.int v6), .val (.int v7), .val (.int v8), .val (.ref a1), .val (.int (0 : Int32)), .unset, .unset, .unset, .unset, .unset, .unset, .unset, .unset, .unset, .unset]) rfl ?_
    rw [show (own_and v7 v4) = (0 : Int32) from by simp [own_and, hc87]] at kt
    exact kt
  · refine XS.ifNo X.here hx rfl (hb hby at_87) rfl ((if0 _ _).trans (feq hc87).1) ?_
    show Steps p.tables e below (T.setTop (mkF m 90 #[.val (.int i0), .val (.int i1), .val (.int i2), .val (.int i3), .val (.int v4), .val (.int v5), .val (.int v6), .val (.int v7), .val (.int v8), .val (.ref a1), .unset, .unset, .unset, .unset, .unset, .unset, .unset, .unset, .unset, .unset, .unset] [])) _
    refine XS.iload X.here hx rfl (hb hby at_90) rfl ?_
    show Steps p.tables e below (T.setTop (mkF m 92 #[.val (.int i0), .val (.int i1), .val (.int i2), .val (.int i3), .val (.int v4), .val (.int v5), .val (.int v6), .val (.int v7), .val (.int v8), .val (.ref a1), .unset, .unset, .unset, .unset, .unset, .unset, .unset, .unset, .unset, .unset, .unset] [(.int v4)])) _
    by_cases hc92 : v4 = (0 : Int32)
    · refine XS.ifNo X.here hx rfl (hb hby at_92) rfl ((if0 _ _).trans (teq hc92).2) ?_
      show Steps p.tables e below (T.setTop (mkF m 95 #[.val (.int i0), .val (.int i1), .val (.int i2), .val (.int i3), .val (.int v4), .val (.int v5), .val (.int v6), .val (.int v7), .val (.int v8), .val (.ref a1), .unset, .unset, .unset, .unset, .unset, .unset, .unset, .unset, .unset, .unset, .unset] [])) _
      refine XS.iconst X.here hx rfl (hb hby at_95) ?_
      show Steps p.tables e below (T.setTop (mkF m 96 #[.val (.int i0), .val (.int i1), .val (.int i2), .val (.int i3), .val (.int v4), .val (.int v5), .val (.int v6), .val (.int v7), .val (.int v8), .val (.ref a1), .unset, .unset, .unset, .unset, .unset, .unset, .unset, .unset, .unset, .unset, .unset] [(.int (1 : Int32))])) _
      refine XS.goto X.here hx rfl (pc0 := 96) (pc' := 100) rfl (hb hby at_96) (by decide) (by decide) ?_
      show Steps p.tables e below (T.setTop (mkF m 100 #[.val (.int i0), .val (.int i1), .val (.int i2), .val (.int i3), .val (.int v4), .val (.int v5), .val (.int v6), .val (.int v7), .val (.int v8), .val (.ref a1), .unset, .unset, .unset, .unset, .unset, .unset, .unset, .unset, .unset, .unset, .unset] [(.int (1 : Int32))])) _
      refine XS.istore X.here hx rfl (hb hby at_100) rfl (l' := #[.val (.int i0), .val (.int i1), .val (.int i2), .val (.int i3), .val (.int v4), .val (.int v5), .val (.int v6), .val (.int v7), .val (.int v8), .val (.ref a1), .val (.int (1 : Int32)), .unset, .unset, .unset, .unset, .unset, .unset, .unset, .unset, .unset, .unset]) rfl ?_
      rw [show (own_and v7 v4) = (1 : Int32) from by simp [own_and, hc87, hc92]] at kt
      exact kt
    · refine XS.ifYes X.here hx rfl (pc0 := 92) (pc' := 99) rfl (hb hby at_92) rfl ((if0 _ _).trans (feq hc92).2) (by decide) (by decide) ?_
      show Steps p.tables e below (T.setTop (mkF m 99 #[.val (.int i0), .val (.int i1), .val (.int i2), .val (.int i3), .val (.int v4), .val (.int v5), .val (.int v6), .val (.int v7), .val (.int v8), .val (.ref a1), .unset, .unset, .unset, .unset, .unset, .unset, .unset, .unset, .unset, .unset, .unset] [])) _
      refine XS.iconst X.here hx rfl (hb hby at_99) ?_
      show Steps p.tables e below (T.setTop (mkF m 100 #[.val (.int i0), .val (.int i1), .val (.int i2), .val (.int i3), .val (.int v4), .val (.int v5), .val (.int v6), .val (.int v7), .val (.int v8), .val (.ref a1), .unset, .unset, .unset, .unset, .unset, .unset, .unset, .unset, .unset, .unset, .unset] [(.int (0 : Int32))])) _
      refine XS.istore X.here hx rfl (hb hby at_100) rfl (l' := #[.val (.int i0), .val (.int i1), .val (.int i2), .val (.int i3), .val (.int v4), .val (.int v5), .val (.int v6), .val (.int v7), .val (.int v8), .val (.ref a1), .val (.int (0 : Int32)), .unset, .unset, .unset, .unset, .unset, .unset, .unset, .unset, .unset, .unset]) rfl ?_
      rw [show (own_and v7 v4) = (0 : Int32) from by simp [own_and, hc87, hc92]] at kt
      exact kt
set_option maxRecDepth 65536 in
set_option maxHeartbeats 40000000 in
theorem sg_102 {p : Program} {l : Launch} {e : Env} {R : Room} {s : State} {m : MethodId} {args : Array Value} {below : List Frame} {meth : Method} {c : Code} {T : State} {locs : List Loc} {cells slots : Nat} {Z : State} {a0 : Array Value} (i0 i1 i2 i3 v4 v5 v6 v7 v8 : Int32) (a1 : Addr) (v10 : Int32)
    (X : Stand p l e R s m args below meth c T locs cells slots) (hx : p.tables.exec = Jvm.exec) (hZ : Z.Warmed39 s.vm) (hw : ∀ d ∈ tables_1, d.before a0 Z = true) (hby : c.code = code) (hown : s.vm.findClass "com/example/antechamber/antechamber/TurnTookPinLaw" = some m.cls) :
    ∀ target, Steps p.tables e below (T.setTop (mkF m 116 #[.val (.int i0), .val (.int i1), .val (.int i2), .val (.int i3), .val (.int v4), .val (.int v5), .val (.int v6), .val (.int v7), .val (.int v8), .val (.ref a1), .val (.int v10), .val (.long (own_b1 v4)), .second, .unset, .unset, .unset, .unset, .unset, .unset, .unset, .unset] [])) target → Steps p.tables e below (T.setTop (mkF m 102 #[.val (.int i0), .val (.int i1), .val (.int i2), .val (.int i3), .val (.int v4), .val (.int v5), .val (.int v6), .val (.int v7), .val (.int v8), .val (.ref a1), .val (.int v10), .unset, .unset, .unset, .unset, .unset, .unset, .unset, .unset, .unset, .unset] [])) target := by
  intro target kt
  show Steps p.tables e below (T.setTop (mkF m 102 #[.val (.int i0), .val (.int i1), .val (.int i2), .val (.int i3), .val (.int v4), .val (.int v5), .val (.int v6), .val (.int v7), .val (.int v8), .val (.ref a1), .val (.int v10), .unset, .unset, .unset, .unset, .unset, .unset, .unset, .unset, .unset, .unset] [])) _
  refine XS.iload X.here hx rfl (hb hby at_102) rfl ?_
  show Steps p.tables e below (T.setTop (mkF m 104 #[.val (.int i0), .val (.int i1), .val (.int i2), .val (.int i3), .val (.int v4), .val (.int v5), .val (.int v6), .val (.int v7), .val (.int v8), .val (.ref a1), .val (.int v10), .unset, .unset, .unset, .unset, .unset, .unset, .unset, .unset, .unset, .unset] [(.int v4)])) _
  by_cases hc104 : (0 : Int32) < v4
  · refine XS.ifNo X.here hx rfl (hb hby at_104) rfl ((if0 _ _).trans (tlt hc104).2.2.2) ?_
    show Steps p.tables e below (T.setTop (mkF m 107 #[.val (.int i0), .val (.int i1), .val (.int i2), .val (.int i3), .val (.int v4), .val (.int v5), .val (.int v6), .val (.int v7), .val (.int v8), .val (.ref a1), .val (.int v10), .unset, .unset, .unset, .unset, .unset, .unset, .unset, .unset, .unset, .unset] [])) _
    refine XS.iload X.here hx rfl (hb hby at_107) rfl ?_
    show Steps p.tables e below (T.setTop (mkF m 109 #[.val (.int i0), .val (.int i1), .val (.int i2), .val (.int i3), .val (.int v4), .val (.int v5), .val (.int v6), .val (.int v7), .val (.int v8), .val (.ref a1), .val (.int v10), .unset, .unset, .unset, .unset, .unset, .unset, .unset, .unset, .unset, .unset] [(.int v4)])) _
    refine XS.i2l X.here hx rfl (hb hby at_109) rfl ?_
    show Steps p.tables e below (T.setTop (mkF m 110 #[.val (.int i0), .val (.int i1), .val (.int i2), .val (.int i3), .val (.int v4), .val (.int v5), .val (.int v6), .val (.int v7), .val (.int v8), .val (.ref a1), .val (.int v10), .unset, .unset, .unset, .unset, .unset, .unset, .unset, .unset, .unset, .unset] [(.long (v4.toInt64))])) _
    refine XS.goto X.here hx rfl (pc0 := 110) (pc' := 114) rfl (hb hby at_110) (by decide) (by decide) ?_
    show Steps p.tables e below (T.setTop (mkF m 114 #[.val (.int i0), .val (.int i1), .val (.int i2), .val (.int i3), .val (.int v4), .val (.int v5), .val (.int v6), .val (.int v7), .val (.int v8), .val (.ref a1), .val (.int v10), .unset, .unset, .unset, .unset, .unset, .unset, .unset, .unset, .unset, .unset] [(.long (v4.toInt64))])) _
    refine XS.lstore X.here hx rfl (hb hby at_114) rfl (l' := #[.val (.int i0), .val (.int i1), .val (.int i2), .val (.int i3), .val (.int v4), .val (.int v5), .val (.int v6), .val (.int v7), .val (.int v8), .val (.ref a1), .val (.int v10), .val (.long (v4.toInt64)), .second, .unset, .unset, .unset, .unset, .unset, .unset, .unset, .unset]) rfl ?_
    rw [show (own_b1 v4) = (v4.toInt64) from by simp [own_b1, hc104]] at kt
    exact kt
  · refine XS.ifYes X.here hx rfl (pc0 := 104) (pc' := 113) rfl (hb hby at_104) rfl ((if0 _ _).trans (flt hc104).2.2.2) (by decide) (by decide) ?_
    show Steps p.tables e below (T.setTop (mkF m 113 #[.val (.int i0), .val (.int i1), .val (.int i2), .val (.int i3), .val (.int v4), .val (.int v5), .val (.int v6), .val (.int v7), .val (.int v8), .val (.ref a1), .val (.int v10), .unset, .unset, .unset, .unset, .unset, .unset, .unset, .unset, .unset, .unset] [])) _
    refine XS.lconst X.here hx rfl (hb hby at_113) ?_
    show Steps p.tables e below (T.setTop (mkF m 114 #[.val (.int i0), .val (.int i1), .val (.int i2), .val (.int i3), .val (.int v4), .val (.int v5), .val (.int v6), .val (.int v7), .val (.int v8), .val (.ref a1), .val (.int v10), .unset, .unset, .unset, .unset, .unset, .unset, .unset, .unset, .unset, .unset] [(.long (0 : Int64))])) _
    refine XS.lstore X.here hx rfl (hb hby at_114) rfl (l' := #[.val (.int i0), .val (.int i1), .val (.int i2), .val (.int i3), .val (.int v4), .val (.int v5), .val (.int v6), .val (.int v7), .val (.int v8), .val (.ref a1), .val (.int v10), .val (.long (0 : Int64)), .second, .unset, .unset, .unset, .unset, .unset, .unset, .unset, .unset]) rfl ?_
    rw [show (own_b1 v4) = (0 : Int64) from by simp [own_b1, hc104]] at kt
    exact kt
set_option maxRecDepth 65536 in
set_option maxHeartbeats 40000000 in
theorem sg_131 {p : Program} {l : Launch} {e : Env} {R : Room} {s : State} {m : MethodId} {args : Array Value} {below : List Frame} {meth : Method} {c : Code} {T : State} {locs : List Loc} {cells slots : Nat} {Z : State} {a0 : Array Value} (i0 i1 i2 i3 v4 v5 v6 v7 v8 : Int32) (a1 : Addr) (v10 : Int32) (v11 : Int64)
    (X : Stand p l e R s m args below meth c T locs cells slots) (hx : p.tables.exec = Jvm.exec) (hZ : Z.Warmed39 s.vm) (hw : ∀ d ∈ tables_1, d.before a0 Z = true) (hby : c.code = code) (hown : s.vm.findClass "com/example/antechamber/antechamber/TurnTookPinLaw" = some m.cls) :
    ∀ target, Steps p.tables e below (T.setTop (mkF m 160 #[.val (.int i0), .val (.int i1), .val (.int i2), .val (.int i3), .val (.int v4), .val (.int v5), .val (.int v6), .val (.int v7), .val (.int v8), .val (.ref a1), .val (.int v10), .val (.long v11), .second, .val (.int (1 : Int32)), .unset, .unset, .unset, .unset, .unset, .unset, .unset] [])) target → Steps p.tables e below (T.setTop (mkF m 131 #[.val (.int i0), .val (.int i1), .val (.int i2), .val (.int i3), .val (.int v4), .val (.int v5), .val (.int v6), .val (.int v7), .val (.int v8), .val (.ref a1), .val (.int v10), .val (.long v11), .second, .unset, .unset, .unset, .unset, .unset, .unset, .unset, .unset] [(.int (own_pc v10 v11))])) target := by
  intro target kt
  show Steps p.tables e below (T.setTop (mkF m 131 #[.val (.int i0), .val (.int i1), .val (.int i2), .val (.int i3), .val (.int v4), .val (.int v5), .val (.int v6), .val (.int v7), .val (.int v8), .val (.ref a1), .val (.int v10), .val (.long v11), .second, .unset, .unset, .unset, .unset, .unset, .unset, .unset, .unset] [(.int (own_pc v10 v11))])) _
  refine XS.iload X.here hx rfl (hb hby at_131) rfl ?_
  show Steps p.tables e below (T.setTop (mkF m 133 #[.val (.int i0), .val (.int i1), .val (.int i2), .val (.int i3), .val (.int v4), .val (.int v5), .val (.int v6), .val (.int v7), .val (.int v8), .val (.ref a1), .val (.int v10), .val (.long v11), .second, .unset, .unset, .unset, .unset, .unset, .unset, .unset, .unset] [(.int v10), (.int (own_pc v10 v11))])) _
  by_cases hc133 : v10 = (0 : Int32)
  · refine XS.ifNo X.here hx rfl (hb hby at_133) rfl ((if0 _ _).trans (teq hc133).2) ?_
    show Steps p.tables e below (T.setTop (mkF m 136 #[.val (.int i0), .val (.int i1), .val (.int i2), .val (.int i3), .val (.int v4), .val (.int v5), .val (.int v6), .val (.int v7), .val (.int v8), .val (.ref a1), .val (.int v10), .val (.long v11), .second, .unset, .unset, .unset, .unset, .unset, .unset, .unset, .unset] [(.int (own_pc v10 v11))])) _
    refine XS.lload X.here hx rfl (hb hby at_136) rfl ?_
    show Steps p.tables e below (T.setTop (mkF m 138 #[.val (.int i0), .val (.int i1), .val (.int i2), .val (.int i3), .val (.int v4), .val (.int v5), .val (.int v6), .val (.int v7), .val (.int v8), .val (.ref a1), .val (.int v10), .val (.long v11), .second, .unset, .unset, .unset, .unset, .unset, .unset, .unset, .unset] [(.long v11), (.int (own_pc v10 v11))])) _
    refine X.ldc2Long hx hown (mvT hZ (hw _ (List.mem_of_getElem? (i := 34) rfl))) (g := (mkF m 138 #[.val (.int i0), .val (.int i1), .val (.int i2), .val (.int i3), .val (.int v4), .val (.int v5), .val (.int v6), .val (.int v7), .val (.int v8), .val (.ref a1), .val (.int v10), .val (.long v11), .second, .unset, .unset, .unset, .unset, .unset, .unset, .unset, .unset] [(.long v11), (.int (own_pc v10 v11))])) rfl (hb hby at_138) _ ?_
    show Steps p.tables e below (T.setTop (mkF m 141 #[.val (.int i0), .val (.int i1), .val (.int i2), .val (.int i3), .val (.int v4), .val (.int v5), .val (.int v6), .val (.int v7), .val (.int v8), .val (.ref a1), .val (.int v10), .val (.long v11), .second, .unset, .unset, .unset, .unset, .unset, .unset, .unset, .unset] [(.long (65536 : Int64)), (.long v11), (.int (own_pc v10 v11))])) _
    refine XS.lcmp X.here hx rfl (hb hby at_141) rfl ?_
    show Steps p.tables e below (T.setTop (mkF m 142 #[.val (.int i0), .val (.int i1), .val (.int i2), .val (.int i3), .val (.int v4), .val (.int v5), .val (.int v6), .val (.int v7), .val (.int v8), .val (.ref a1), .val (.int v10), .val (.long v11), .second, .unset, .unset, .unset, .unset, .unset, .unset, .unset, .unset] [(.int (lcmpW v11 (65536 : Int64))), (.int (own_pc v10 v11))])) _
    by_cases hc142 : (lcmpW v11 (65536 : Int64)) < (0 : Int32)
    · refine XS.ifYes X.here hx rfl (pc0 := 142) (pc' := 149) rfl (hb hby at_142) rfl ((if0 _ _).trans (tlt hc142).1) (by decide) (by decide) ?_
      show Steps p.tables e below (T.setTop (mkF m 149 #[.val (.int i0), .val (.int i1), .val (.int i2), .val (.int i3), .val (.int v4), .val (.int v5), .val (.int v6), .val (.int v7), .val (.int v8), .val (.ref a1), .val (.int v10), .val (.long v11), .second, .unset, .unset, .unset, .unset, .unset, .unset, .unset, .unset] [(.int (own_pc v10 v11))])) _
      refine XS.iconst X.here hx rfl (hb hby at_149) ?_
      show Steps p.tables e below (T.setTop (mkF m 150 #[.val (.int i0), .val (.int i1), .val (.int i2), .val (.int i3), .val (.int v4), .val (.int v5), .val (.int v6), .val (.int v7), .val (.int v8), .val (.ref a1), .val (.int v10), .val (.long v11), .second, .unset, .unset, .unset, .unset, .unset, .unset, .unset, .unset] [(.int (0 : Int32)), (.int (own_pc v10 v11))])) _
      refine XS.icmpNo X.here hx rfl (hb hby at_150) rfl (teq (by simp [own_pc, hc133, hc142] : (own_pc v10 v11) = (0 : Int32))).2 ?_
      show Steps p.tables e below (T.setTop (mkF m 153 #[.val (.int i0), .val (.int i1), .val (.int i2), .val (.int i3), .val (.int v4), .val (.int v5), .val (.int v6), .val (.int v7), .val (.int v8), .val (.ref a1), .val (.int v10), .val (.long v11), .second, .unset, .unset, .unset, .unset, .unset, .unset, .unset, .unset] [])) _
      refine XS.iconst X.here hx rfl (hb hby at_153) ?_
      show Steps p.tables e below (T.setTop (mkF m 154 #[.val (.int i0), .val (.int i1), .val (.int i2), .val (.int i3), .val (.int v4), .val (.int v5), .val (.int v6), .val (.int v7), .val (.int v8), .val (.ref a1), .val (.int v10), .val (.long v11), .second, .unset, .unset, .unset, .unset, .unset, .unset, .unset, .unset] [(.int (1 : Int32))])) _
      refine XS.goto X.here hx rfl (pc0 := 154) (pc' := 158) rfl (hb hby at_154) (by decide) (by decide) ?_
      show Steps p.tables e below (T.setTop (mkF m 158 #[.val (.int i0), .val (.int i1), .val (.int i2), .val (.int i3), .val (.int v4), .val (.int v5), .val (.int v6), .val (.int v7), .val (.int v8), .val (.ref a1), .val (.int v10), .val (.long v11), .second, .unset, .unset, .unset, .unset, .unset, .unset, .unset, .unset] [(.int (1 : Int32))])) _
      refine XS.istore X.here hx rfl (hb hby at_158) rfl (l' := #[.val (.int i0), .val (.int i1), .val (.int i2), .val (.int i3), .val (.int v4), .val (.int v5), .val (.int v6), .val (.int v7), .val (.int v8), .val (.ref a1), .val (.int v10), .val (.long v11), .second, .val (.int (1 : Int32)), .unset, .unset, .unset, .unset, .unset, .unset, .unset]) rfl ?_
      exact kt
    · refine XS.ifNo X.here hx rfl (hb hby at_142) rfl ((if0 _ _).trans (flt hc142).1) ?_
      show Steps p.tables e below (T.setTop (mkF m 145 #[.val (.int i0), .val (.int i1), .val (.int i2), .val (.int i3), .val (.int v4), .val (.int v5), .val (.int v6), .val (.int v7), .val (.int v8), .val (.ref a1), .val (.int v10), .val (.long v11), .second, .unset, .unset, .unset, .unset, .unset, .unset, .unset, .unset] [(.int (own_pc v10 v11))])) _
      refine XS.iconst X.here hx rfl (hb hby at_145) ?_
      show Steps p.tables e below (T.setTop (mkF m 146 #[.val (.int i0), .val (.int i1), .val (.int i2), .val (.int i3), .val (.int v4), .val (.int v5), .val (.int v6), .val (.int v7), .val (.int v8), .val (.ref a1), .val (.int v10), .val (.long v11), .second, .unset, .unset, .unset, .unset, .unset, .unset, .unset, .unset] [(.int (1 : Int32)), (.int (own_pc v10 v11))])) _
      refine XS.goto X.here hx rfl (pc0 := 146) (pc' := 150) rfl (hb hby at_146) (by decide) (by decide) ?_
      show Steps p.tables e below (T.setTop (mkF m 150 #[.val (.int i0), .val (.int i1), .val (.int i2), .val (.int i3), .val (.int v4), .val (.int v5), .val (.int v6), .val (.int v7), .val (.int v8), .val (.ref a1), .val (.int v10), .val (.long v11), .second, .unset, .unset, .unset, .unset, .unset, .unset, .unset, .unset] [(.int (1 : Int32)), (.int (own_pc v10 v11))])) _
      refine XS.icmpNo X.here hx rfl (hb hby at_150) rfl (teq (by simp [own_pc, hc133, hc142] : (own_pc v10 v11) = (1 : Int32))).2 ?_
      show Steps p.tables e below (T.setTop (mkF m 153 #[.val (.int i0), .val (.int i1), .val (.int i2), .val (.int i3), .val (.int v4), .val (.int v5), .val (.int v6), .val (.int v7), .val (.int v8), .val (.ref a1), .val (.int v10), .val (.long v11), .second, .unset, .unset, .unset, .unset, .unset, .unset, .unset, .unset] [])) _
      refine XS.iconst X.here hx rfl (hb hby at_153) ?_
      show Steps p.tables e below (T.setTop (mkF m 154 #[.val (.int i0), .val (.int i1), .val (.int i2), .val (.int i3), .val (.int v4), .val (.int v5), .val (.int v6), .val (.int v7), .val (.int v8), .val (.ref a1), .val (.int v10), .val (.long v11), .second, .unset, .unset, .unset, .unset, .unset, .unset, .unset, .unset] [(.int (1 : Int32))])) _
      refine XS.goto X.here hx rfl (pc0 := 154) (pc' := 158) rfl (hb hby at_154) (by decide) (by decide) ?_
      show Steps p.tables e below (T.setTop (mkF m 158 #[.val (.int i0), .val (.int i1), .val (.int i2), .val (.int i3), .val (.int v4), .val (.int v5), .val (.int v6), .val (.int v7), .val (.int v8), .val (.ref a1), .val (.int v10), .val (.long v11), .second, .unset, .unset, .unset, .unset, .unset, .unset, .unset, .unset] [(.int (1 : Int32))])) _
      refine XS.istore X.here hx rfl (hb hby at_158) rfl (l' := #[.val (.int i0), .val (.int i1), .val (.int i2), .val (.int i3), .val (.int v4), .val (.int v5), .val (.int v6), .val (.int v7), .val (.int v8), .val (.ref a1), .val (.int v10), .val (.long v11), .second, .val (.int (1 : Int32)), .unset, .unset, .unset, .unset, .unset, .unset, .unset]) rfl ?_
      exact kt
  · refine XS.ifYes X.here hx rfl (pc0 := 133) (pc' := 149) rfl (hb hby at_133) rfl ((if0 _ _).trans (feq hc133).2) (by decide) (by decide) ?_
    show Steps p.tables e below (T.setTop (mkF m 149 #[.val (.int i0), .val (.int i1), .val (.int i2), .val (.int i3), .val (.int v4), .val (.int v5), .val (.int v6), .val (.int v7), .val (.int v8), .val (.ref a1), .val (.int v10), .val (.long v11), .second, .unset, .unset, .unset, .unset, .unset, .unset, .unset, .unset] [(.int (own_pc v10 v11))])) _
    refine XS.iconst X.here hx rfl (hb hby at_149) ?_
    show Steps p.tables e below (T.setTop (mkF m 150 #[.val (.int i0), .val (.int i1), .val (.int i2), .val (.int i3), .val (.int v4), .val (.int v5), .val (.int v6), .val (.int v7), .val (.int v8), .val (.ref a1), .val (.int v10), .val (.long v11), .second, .unset, .unset, .unset, .unset, .unset, .unset, .unset, .unset] [(.int (0 : Int32)), (.int (own_pc v10 v11))])) _
    refine XS.icmpNo X.here hx rfl (hb hby at_150) rfl (teq (by simp [own_pc, hc133] : (own_pc v10 v11) = (0 : Int32))).2 ?_
    show Steps p.tables e below (T.setTop (mkF m 153 #[.val (.int i0), .val (.int i1), .val (.int i2), .val (.int i3), .val (.int v4), .val (.int v5), .val (.int v6), .val (.int v7), .val (.int v8), .val (.ref a1), .val (.int v10), .val (.long v11), .second, .unset, .unset, .unset, .unset, .unset, .unset, .unset, .unset] [])) _
    refine XS.iconst X.here hx rfl (hb hby at_153) ?_
    show Steps p.tables e below (T.setTop (mkF m 154 #[.val (.int i0), .val (.int i1), .val (.int i2), .val (.int i3), .val (.int v4), .val (.int v5), .val (.int v6), .val (.int v7), .val (.int v8), .val (.ref a1), .val (.int v10), .val (.long v11), .second, .unset, .unset, .unset, .unset, .unset, .unset, .unset, .unset] [(.int (1 : Int32))])) _
    refine XS.goto X.here hx rfl (pc0 := 154) (pc' := 158) rfl (hb hby at_154) (by decide) (by decide) ?_
    show Steps p.tables e below (T.setTop (mkF m 158 #[.val (.int i0), .val (.int i1), .val (.int i2), .val (.int i3), .val (.int v4), .val (.int v5), .val (.int v6), .val (.int v7), .val (.int v8), .val (.ref a1), .val (.int v10), .val (.long v11), .second, .unset, .unset, .unset, .unset, .unset, .unset, .unset, .unset] [(.int (1 : Int32))])) _
    refine XS.istore X.here hx rfl (hb hby at_158) rfl (l' := #[.val (.int i0), .val (.int i1), .val (.int i2), .val (.int i3), .val (.int v4), .val (.int v5), .val (.int v6), .val (.int v7), .val (.int v8), .val (.ref a1), .val (.int v10), .val (.long v11), .second, .val (.int (1 : Int32)), .unset, .unset, .unset, .unset, .unset, .unset, .unset]) rfl ?_
    exact kt
set_option maxRecDepth 65536 in
set_option maxHeartbeats 40000000 in
theorem sg_170 {p : Program} {l : Launch} {e : Env} {R : Room} {s : State} {m : MethodId} {args : Array Value} {below : List Frame} {meth : Method} {c : Code} {T : State} {locs : List Loc} {cells slots : Nat} {Z : State} {a0 : Array Value} (i0 i1 i2 i3 v4 v5 v6 v7 v8 : Int32) (a1 : Addr) (v10 : Int32) (v11 : Int64)
    (X : Stand p l e R s m args below meth c T locs cells slots) (hx : p.tables.exec = Jvm.exec) (hZ : Z.Warmed39 s.vm) (hw : ∀ d ∈ tables_1, d.before a0 Z = true) (hby : c.code = code) (hown : s.vm.findClass "com/example/antechamber/antechamber/TurnTookPinLaw" = some m.cls) :
    ∀ target, Steps p.tables e below (T.setTop (mkF m 187 #[.val (.int i0), .val (.int i1), .val (.int i2), .val (.int i3), .val (.int v4), .val (.int v5), .val (.int v6), .val (.int v7), .val (.int v8), .val (.ref a1), .val (.int v10), .val (.long v11), .second, .val (.int (1 : Int32)), .val (.int (own_or v10 v8)), .unset, .unset, .unset, .unset, .unset, .unset] [])) target → Steps p.tables e below (T.setTop (mkF m 170 #[.val (.int i0), .val (.int i1), .val (.int i2), .val (.int i3), .val (.int v4), .val (.int v5), .val (.int v6), .val (.int v7), .val (.int v8), .val (.ref a1), .val (.int v10), .val (.long v11), .second, .val (.int (1 : Int32)), .unset, .unset, .unset, .unset, .unset, .unset, .unset] [])) target := by
  intro target kt
  show Steps p.tables e below (T.setTop (mkF m 170 #[.val (.int i0), .val (.int i1), .val (.int i2), .val (.int i3), .val (.int v4), .val (.int v5), .val (.int v6), .val (.int v7), .val (.int v8), .val (.ref a1), .val (.int v10), .val (.long v11), .second, .val (.int (1 : Int32)), .unset, .unset, .unset, .unset, .unset, .unset, .unset] [])) _
  refine XS.iload X.here hx rfl (hb hby at_170) rfl ?_
  show Steps p.tables e below (T.setTop (mkF m 172 #[.val (.int i0), .val (.int i1), .val (.int i2), .val (.int i3), .val (.int v4), .val (.int v5), .val (.int v6), .val (.int v7), .val (.int v8), .val (.ref a1), .val (.int v10), .val (.long v11), .second, .val (.int (1 : Int32)), .unset, .unset, .unset, .unset, .unset, .unset, .unset] [(.int v10)])) _
  by_cases hc172 : v10 = (0 : Int32)
  · refine XS.ifNo X.here hx rfl (hb hby at_172) rfl ((if0 _ _).trans (teq hc172).2) ?_
    show Steps p.tables e below (T.setTop (mkF m 175 #[.val (.int i0), .val (.int i1), .val (.int i2), .val (.int i3), .val (.int v4), .val (.int v5), .val (.int v6), .val (.int v7), .val (.int v8), .val (.ref a1), .val (.int v10), .val (.long v11), .second, .val (.int (1 : Int32)), .unset, .unset, .unset, .unset, .unset, .unset, .unset] [])) _
    refine XS.iload X.here hx rfl (hb hby at_175) rfl ?_
    show Steps p.tables e below (T.setTop (mkF m 177 #[.val (.int i0), .val (.int i1), .val (.int i2), .val (.int i3), .val (.int v4), .val (.int v5), .val (.int v6), .val (.int v7), .val (.int v8), .val (.ref a1), .val (.int v10), .val (.long v11), .second, .val (.int (1 : Int32)), .unset, .unset, .unset, .unset, .unset, .unset, .unset] [(.int v8)])) _
    by_cases hc177 : v8 = (0 : Int32)
    · refine XS.ifYes X.here hx rfl (pc0 := 177) (pc' := 184) rfl (hb hby at_177) rfl ((if0 _ _).trans (teq hc177).1) (by decide) (by decide) ?_
      show Steps p.tables e below (T.setTop (mkF m 184 #[.val (.int i0), .val (.int i1), .val (.int i2), .val (.int i3), .val (.int v4), .val (.int v5), .val (.int v6), .val (.int v7), .val (.int v8), .val (.ref a1), .val (.int v10), .val (.long v11), .second, .val (.int (1 : Int32)), .unset, .unset, .unset, .unset, .unset, .unset, .unset] [])) _
      refine XS.iconst X.here hx rfl (hb hby at_184) ?_
      show Steps p.tables e below (T.setTop (mkF m 185 #[.val (.int i0), .val (.int i1), .val (.int i2), .val (.int i3), .val (.int v4), .val (.int v5), .val (.int v6), .val (.int v7), .val (.int v8), .val (.ref a1), .val (.int v10), .val (.long v11), .second, .val (.int (1 : Int32)), .unset, .unset, .unset, .unset, .unset, .unset, .unset] [(.int (0 : Int32))])) _
      refine XS.istore X.here hx rfl (hb hby at_185) rfl (l' := #[.val (.int i0), .val (.int i1), .val (.int i2), .val (.int i3), .val (.int v4), .val (.int v5), .val (.int v6), .val (.int v7), .val (.int v8), .val (.ref a1), .val (.int v10), .val (.long v11), .second, .val (.int (1 : Int32)), .val (.int (0 : Int32)), .unset, .unset, .unset, .unset, .unset, .unset]) rfl ?_
      rw [show (own_or v10 v8) = (0 : Int32) from by simp [own_or, hc172, hc177]] at kt
      exact kt
    · refine XS.ifNo X.here hx rfl (hb hby at_177) rfl ((if0 _ _).trans (feq hc177).1) ?_
      show Steps p.tables e below (T.setTop (mkF m 180 #[.val (.int i0), .val (.int i1), .val (.int i2), .val (.int i3), .val (.int v4), .val (.int v5), .val (.int v6), .val (.int v7), .val (.int v8), .val (.ref a1), .val (.int v10), .val (.long v11), .second, .val (.int (1 : Int32)), .unset, .unset, .unset, .unset, .unset, .unset, .unset] [])) _
      refine XS.iconst X.here hx rfl (hb hby at_180) ?_
      show Steps p.tables e below (T.setTop (mkF m 181 #[.val (.int i0), .val (.int i1), .val (.int i2), .val (.int i3), .val (.int v4), .val (.int v5), .val (.int v6), .val (.int v7), .val (.int v8), .val (.ref a1), .val (.int v10), .val (.long v11), .second, .val (.int (1 : Int32)), .unset, .unset, .unset, .unset, .unset, .unset, .unset] [(.int (1 : Int32))])) _
      refine XS.goto X.here hx rfl (pc0 := 181) (pc' := 185) rfl (hb hby at_181) (by decide) (by decide) ?_
      show Steps p.tables e below (T.setTop (mkF m 185 #[.val (.int i0), .val (.int i1), .val (.int i2), .val (.int i3), .val (.int v4), .val (.int v5), .val (.int v6), .val (.int v7), .val (.int v8), .val (.ref a1), .val (.int v10), .val (.long v11), .second, .val (.int (1 : Int32)), .unset, .unset, .unset, .unset, .unset, .unset, .unset] [(.int (1 : Int32))])) _
      refine XS.istore X.here hx rfl (hb hby at_185) rfl (l' := #[.val (.int i0), .val (.int i1), .val (.int i2), .val (.int i3), .val (.int v4), .val (.int v5), .val (.int v6), .val (.int v7), .val (.int v8), .val (.ref a1), .val (.int v10), .val (.long v11), .second, .val (.int (1 : Int32)), .val (.int (1 : Int32)), .unset, .unset, .unset, .unset, .unset, .unset]) rfl ?_
      rw [show (own_or v10 v8) = (1 : Int32) from by simp [own_or, hc172, hc177]] at kt
      exact kt
  · refine XS.ifYes X.here hx rfl (pc0 := 172) (pc' := 180) rfl (hb hby at_172) rfl ((if0 _ _).trans (feq hc172).2) (by decide) (by decide) ?_
    show Steps p.tables e below (T.setTop (mkF m 180 #[.val (.int i0), .val (.int i1), .val (.int i2), .val (.int i3), .val (.int v4), .val (.int v5), .val (.int v6), .val (.int v7), .val (.int v8), .val (.ref a1), .val (.int v10), .val (.long v11), .second, .val (.int (1 : Int32)), .unset, .unset, .unset, .unset, .unset, .unset, .unset] [])) _
    refine XS.iconst X.here hx rfl (hb hby at_180) ?_
    show Steps p.tables e below (T.setTop (mkF m 181 #[.val (.int i0), .val (.int i1), .val (.int i2), .val (.int i3), .val (.int v4), .val (.int v5), .val (.int v6), .val (.int v7), .val (.int v8), .val (.ref a1), .val (.int v10), .val (.long v11), .second, .val (.int (1 : Int32)), .unset, .unset, .unset, .unset, .unset, .unset, .unset] [(.int (1 : Int32))])) _
    refine XS.goto X.here hx rfl (pc0 := 181) (pc' := 185) rfl (hb hby at_181) (by decide) (by decide) ?_
    show Steps p.tables e below (T.setTop (mkF m 185 #[.val (.int i0), .val (.int i1), .val (.int i2), .val (.int i3), .val (.int v4), .val (.int v5), .val (.int v6), .val (.int v7), .val (.int v8), .val (.ref a1), .val (.int v10), .val (.long v11), .second, .val (.int (1 : Int32)), .unset, .unset, .unset, .unset, .unset, .unset, .unset] [(.int (1 : Int32))])) _
    refine XS.istore X.here hx rfl (hb hby at_185) rfl (l' := #[.val (.int i0), .val (.int i1), .val (.int i2), .val (.int i3), .val (.int v4), .val (.int v5), .val (.int v6), .val (.int v7), .val (.int v8), .val (.ref a1), .val (.int v10), .val (.long v11), .second, .val (.int (1 : Int32)), .val (.int (1 : Int32)), .unset, .unset, .unset, .unset, .unset, .unset]) rfl ?_
    rw [show (own_or v10 v8) = (1 : Int32) from by simp [own_or, hc172]] at kt
    exact kt
set_option maxRecDepth 65536 in
set_option maxHeartbeats 40000000 in
theorem sg_194 {p : Program} {l : Launch} {e : Env} {R : Room} {s : State} {m : MethodId} {args : Array Value} {below : List Frame} {meth : Method} {c : Code} {T : State} {locs : List Loc} {cells slots : Nat} {Z : State} {a0 : Array Value} (i0 i1 i2 i3 v4 v5 v6 v7 v8 : Int32) (a1 : Addr) (v10 : Int32) (v11 : Int64) (v14 : Int32)
    (X : Stand p l e R s m args below meth c T locs cells slots) (hx : p.tables.exec = Jvm.exec) (hZ : Z.Warmed39 s.vm) (hw : ∀ d ∈ tables_1, d.before a0 Z = true) (hby : c.code = code) (hown : s.vm.findClass "com/example/antechamber/antechamber/TurnTookPinLaw" = some m.cls) :
    ∀ target, Steps p.tables e below (T.setTop (mkF m 211 #[.val (.int i0), .val (.int i1), .val (.int i2), .val (.int i3), .val (.int v4), .val (.int v5), .val (.int v6), .val (.int v7), .val (.int v8), .val (.ref a1), .val (.int v10), .val (.long v11), .second, .val (.int (1 : Int32)), .val (.int v14), .val (.int (own_and v14 v5)), .unset, .unset, .unset, .unset, .unset] [])) target → Steps p.tables e below (T.setTop (mkF m 194 #[.val (.int i0), .val (.int i1), .val (.int i2), .val (.int i3), .val (.int v4), .val (.int v5), .val (.int v6), .val (.int v7), .val (.int v8), .val (.ref a1), .val (.int v10), .val (.long v11), .second, .val (.int (1 : Int32)), .val (.int v14), .unset, .unset, .unset, .unset, .unset, .unset] [])) target := by
  intro target kt
  show Steps p.tables e below (T.setTop (mkF m 194 #[.val (.int i0), .val (.int i1), .val (.int i2), .val (.int i3), .val (.int v4), .val (.int v5), .val (.int v6), .val (.int v7), .val (.int v8), .val (.ref a1), .val (.int v10), .val (.long v11), .second, .val (.int (1 : Int32)), .val (.int v14), .unset, .unset, .unset, .unset, .unset, .unset] [])) _
  refine XS.iload X.here hx rfl (hb hby at_194) rfl ?_
  show Steps p.tables e below (T.setTop (mkF m 196 #[.val (.int i0), .val (.int i1), .val (.int i2), .val (.int i3), .val (.int v4), .val (.int v5), .val (.int v6), .val (.int v7), .val (.int v8), .val (.ref a1), .val (.int v10), .val (.long v11), .second, .val (.int (1 : Int32)), .val (.int v14), .unset, .unset, .unset, .unset, .unset, .unset] [(.int v14)])) _
  by_cases hc196 : v14 = (0 : Int32)
  · refine XS.ifYes X.here hx rfl (pc0 := 196) (pc' := 208) rfl (hb hby at_196) rfl ((if0 _ _).trans (teq hc196).1) (by decide) (by decide) ?_
    show Steps p.tables e below (T.setTop (mkF m 208 #[.val (.int i0), .val (.int i1), .val (.int i2), .val (.int i3), .val (.int v4), .val (.int v5), .val (.int v6), .val (.int v7), .val (.int v8), .val (.ref a1), .val (.int v10), .val (.long v11), .second, .val (.int (1 : Int32)), .val (.int v14), .unset, .unset, .unset, .unset, .unset, .unset] [])) _
    refine XS.iconst X.here hx rfl (hb hby at_208) ?_
    show Steps p.tables e below (T.setTop (mkF m 209 #[.val (.int i0), .val (.int i1), .val (.int i2), .val (.int i3), .val (.int v4), .val (.int v5), .val (.int v6), .val (.int v7), .val (.int v8), .val (.ref a1), .val (.int v10), .val (.long v11), .second, .val (.int (1 : Int32)), .val (.int v14), .unset, .unset, .unset, .unset, .unset, .unset] [(.int (0 : Int32))])) _
    refine XS.istore X.here hx rfl (hb hby at_209) rfl (l' := #[.val (.int i0), .val (.int i1), .val (.int i2), .val (.int i3), .val (.int v4), .val (.int v5), .val (.int v6), .val (.int v7), .val (.int v8), .val (.ref a1), .val (.int v10), .val (.long v11), .second, .val (.int (1 : Int32)), .val (.int v14), .val (.int (0 : Int32)), .unset, .unset, .unset, .unset, .unset]) rfl ?_
    rw [show (own_and v14 v5) = (0 : Int32) from by simp [own_and, hc196]] at kt
    exact kt
  · refine XS.ifNo X.here hx rfl (hb hby at_196) rfl ((if0 _ _).trans (feq hc196).1) ?_
    show Steps p.tables e below (T.setTop (mkF m 199 #[.val (.int i0), .val (.int i1), .val (.int i2), .val (.int i3), .val (.int v4), .val (.int v5), .val (.int v6), .val (.int v7), .val (.int v8), .val (.ref a1), .val (.int v10), .val (.long v11), .second, .val (.int (1 : Int32)), .val (.int v14), .unset, .unset, .unset, .unset, .unset, .unset] [])) _
    refine XS.iload X.here hx rfl (hb hby at_199) rfl ?_
    show Steps p.tables e below (T.setTop (mkF m 201 #[.val (.int i0), .val (.int i1), .val (.int i2), .val (.int i3), .val (.int v4), .val (.int v5), .val (.int v6), .val (.int v7), .val (.int v8), .val (.ref a1), .val (.int v10), .val (.long v11), .second, .val (.int (1 : Int32)), .val (.int v14), .unset, .unset, .unset, .unset, .unset, .unset] [(.int v5)])) _
    by_cases hc201 : v5 = (0 : Int32)
    · refine XS.ifNo X.here hx rfl (hb hby at_201) rfl ((if0 _ _).trans (teq hc201).2) ?_
      show Steps p.tables e below (T.setTop (mkF m 204 #[.val (.int i0), .val (.int i1), .val (.int i2), .val (.int i3), .val (.int v4), .val (.int v5), .val (.int v6), .val (.int v7), .val (.int v8), .val (.ref a1), .val (.int v10), .val (.long v11), .second, .val (.int (1 : Int32)), .val (.int v14), .unset, .unset, .unset, .unset, .unset, .unset] [])) _
      refine XS.iconst X.here hx rfl (hb hby at_204) ?_
      show Steps p.tables e below (T.setTop (mkF m 205 #[.val (.int i0), .val (.int i1), .val (.int i2), .val (.int i3), .val (.int v4), .val (.int v5), .val (.int v6), .val (.int v7), .val (.int v8), .val (.ref a1), .val (.int v10), .val (.long v11), .second, .val (.int (1 : Int32)), .val (.int v14), .unset, .unset, .unset, .unset, .unset, .unset] [(.int (1 : Int32))])) _
      refine XS.goto X.here hx rfl (pc0 := 205) (pc' := 209) rfl (hb hby at_205) (by decide) (by decide) ?_
      show Steps p.tables e below (T.setTop (mkF m 209 #[.val (.int i0), .val (.int i1), .val (.int i2), .val (.int i3), .val (.int v4), .val (.int v5), .val (.int v6), .val (.int v7), .val (.int v8), .val (.ref a1), .val (.int v10), .val (.long v11), .second, .val (.int (1 : Int32)), .val (.int v14), .unset, .unset, .unset, .unset, .unset, .unset] [(.int (1 : Int32))])) _
      refine XS.istore X.here hx rfl (hb hby at_209) rfl (l' := #[.val (.int i0), .val (.int i1), .val (.int i2), .val (.int i3), .val (.int v4), .val (.int v5), .val (.int v6), .val (.int v7), .val (.int v8), .val (.ref a1), .val (.int v10), .val (.long v11), .second, .val (.int (1 : Int32)), .val (.int v14), .val (.int (1 : Int32)), .unset, .unset, .unset, .unset, .unset]) rfl ?_
      rw [show (own_and v14 v5) = (1 : Int32) from by simp [own_and, hc196, hc201]] at kt
      exact kt
    · refine XS.ifYes X.here hx rfl (pc0 := 201) (pc' := 208) rfl (hb hby at_201) rfl ((if0 _ _).trans (feq hc201).2) (by decide) (by decide) ?_
      show Steps p.tables e below (T.setTop (mkF m 208 #[.val (.int i0), .val (.int i1), .val (.int i2), .val (.int i3), .val (.int v4), .val (.int v5), .val (.int v6), .val (.int v7), .val (.int v8), .val (.ref a1), .val (.int v10), .val (.long v11), .second, .val (.int (1 : Int32)), .val (.int v14), .unset, .unset, .unset, .unset, .unset, .unset] [])) _
      refine XS.iconst X.here hx rfl (hb hby at_208) ?_
      show Steps p.tables e below (T.setTop (mkF m 209 #[.val (.int i0), .val (.int i1), .val (.int i2), .val (.int i3), .val (.int v4), .val (.int v5), .val (.int v6), .val (.int v7), .val (.int v8), .val (.ref a1), .val (.int v10), .val (.long v11), .second, .val (.int (1 : Int32)), .val (.int v14), .unset, .unset, .unset, .unset, .unset, .unset] [(.int (0 : Int32))])) _
      refine XS.istore X.here hx rfl (hb hby at_209) rfl (l' := #[.val (.int i0), .val (.int i1), .val (.int i2), .val (.int i3), .val (.int v4), .val (.int v5), .val (.int v6), .val (.int v7), .val (.int v8), .val (.ref a1), .val (.int v10), .val (.long v11), .second, .val (.int (1 : Int32)), .val (.int v14), .val (.int (0 : Int32)), .unset, .unset, .unset, .unset, .unset]) rfl ?_
      rw [show (own_and v14 v5) = (0 : Int32) from by simp [own_and, hc196, hc201]] at kt
      exact kt
set_option maxRecDepth 65536 in
set_option maxHeartbeats 40000000 in
theorem sg_211 {p : Program} {l : Launch} {e : Env} {R : Room} {s : State} {m : MethodId} {args : Array Value} {below : List Frame} {meth : Method} {c : Code} {T : State} {locs : List Loc} {cells slots : Nat} {Z : State} {a0 : Array Value} (i0 i1 i2 i3 v4 v5 v6 v7 v8 : Int32) (a1 : Addr) (v10 : Int32) (v11 : Int64) (v14 : Int32) (v15 : Int32)
    (X : Stand p l e R s m args below meth c T locs cells slots) (hx : p.tables.exec = Jvm.exec) (hZ : Z.Warmed39 s.vm) (hw : ∀ d ∈ tables_1, d.before a0 Z = true) (hby : c.code = code) (hown : s.vm.findClass "com/example/antechamber/antechamber/TurnTookPinLaw" = some m.cls) :
    ∀ target, Steps p.tables e below (T.setTop (mkF m 240 #[.val (.int i0), .val (.int i1), .val (.int i2), .val (.int i3), .val (.int v4), .val (.int v5), .val (.int v6), .val (.int v7), .val (.int v8), .val (.ref a1), .val (.int v10), .val (.long v11), .second, .val (.int (1 : Int32)), .val (.int v14), .val (.int v15), .val (.long (own_by v14 v11 v5)), .second, .unset, .unset, .unset] [])) target → Steps p.tables e below (T.setTop (mkF m 211 #[.val (.int i0), .val (.int i1), .val (.int i2), .val (.int i3), .val (.int v4), .val (.int v5), .val (.int v6), .val (.int v7), .val (.int v8), .val (.ref a1), .val (.int v10), .val (.long v11), .second, .val (.int (1 : Int32)), .val (.int v14), .val (.int v15), .unset, .unset, .unset, .unset, .unset] [])) target := by
  intro target kt
  show Steps p.tables e below (T.setTop (mkF m 211 #[.val (.int i0), .val (.int i1), .val (.int i2), .val (.int i3), .val (.int v4), .val (.int v5), .val (.int v6), .val (.int v7), .val (.int v8), .val (.ref a1), .val (.int v10), .val (.long v11), .second, .val (.int (1 : Int32)), .val (.int v14), .val (.int v15), .unset, .unset, .unset, .unset, .unset] [])) _
  refine XS.iload X.here hx rfl (hb hby at_211) rfl ?_
  show Steps p.tables e below (T.setTop (mkF m 213 #[.val (.int i0), .val (.int i1), .val (.int i2), .val (.int i3), .val (.int v4), .val (.int v5), .val (.int v6), .val (.int v7), .val (.int v8), .val (.ref a1), .val (.int v10), .val (.long v11), .second, .val (.int (1 : Int32)), .val (.int v14), .val (.int v15), .unset, .unset, .unset, .unset, .unset] [(.int v5)])) _
  by_cases hc213 : (0 : Int32) < v5
  · refine XS.ifNo X.here hx rfl (hb hby at_213) rfl ((if0 _ _).trans (tlt hc213).2.2.2) ?_
    show Steps p.tables e below (T.setTop (mkF m 216 #[.val (.int i0), .val (.int i1), .val (.int i2), .val (.int i3), .val (.int v4), .val (.int v5), .val (.int v6), .val (.int v7), .val (.int v8), .val (.ref a1), .val (.int v10), .val (.long v11), .second, .val (.int (1 : Int32)), .val (.int v14), .val (.int v15), .unset, .unset, .unset, .unset, .unset] [])) _
    refine XS.iload X.here hx rfl (hb hby at_216) rfl ?_
    show Steps p.tables e below (T.setTop (mkF m 218 #[.val (.int i0), .val (.int i1), .val (.int i2), .val (.int i3), .val (.int v4), .val (.int v5), .val (.int v6), .val (.int v7), .val (.int v8), .val (.ref a1), .val (.int v10), .val (.long v11), .second, .val (.int (1 : Int32)), .val (.int v14), .val (.int v15), .unset, .unset, .unset, .unset, .unset] [(.int v14)])) _
    by_cases hc218 : v14 = (0 : Int32)
    · refine XS.ifYes X.here hx rfl (pc0 := 218) (pc' := 227) rfl (hb hby at_218) rfl ((if0 _ _).trans (teq hc218).1) (by decide) (by decide) ?_
      show Steps p.tables e below (T.setTop (mkF m 227 #[.val (.int i0), .val (.int i1), .val (.int i2), .val (.int i3), .val (.int v4), .val (.int v5), .val (.int v6), .val (.int v7), .val (.int v8), .val (.ref a1), .val (.int v10), .val (.long v11), .second, .val (.int (1 : Int32)), .val (.int v14), .val (.int v15), .unset, .unset, .unset, .unset, .unset] [])) _
      refine XS.lload X.here hx rfl (hb hby at_227) rfl ?_
      show Steps p.tables e below (T.setTop (mkF m 229 #[.val (.int i0), .val (.int i1), .val (.int i2), .val (.int i3), .val (.int v4), .val (.int v5), .val (.int v6), .val (.int v7), .val (.int v8), .val (.ref a1), .val (.int v10), .val (.long v11), .second, .val (.int (1 : Int32)), .val (.int v14), .val (.int v15), .unset, .unset, .unset, .unset, .unset] [(.long v11)])) _
      refine XS.iload X.here hx rfl (hb hby at_229) rfl ?_
      show Steps p.tables e below (T.setTop (mkF m 231 #[.val (.int i0), .val (.int i1), .val (.int i2), .val (.int i3), .val (.int v4), .val (.int v5), .val (.int v6), .val (.int v7), .val (.int v8), .val (.ref a1), .val (.int v10), .val (.long v11), .second, .val (.int (1 : Int32)), .val (.int v14), .val (.int v15), .unset, .unset, .unset, .unset, .unset] [(.int v5), (.long v11)])) _
      refine XS.i2l X.here hx rfl (hb hby at_231) rfl ?_
      show Steps p.tables e below (T.setTop (mkF m 232 #[.val (.int i0), .val (.int i1), .val (.int i2), .val (.int i3), .val (.int v4), .val (.int v5), .val (.int v6), .val (.int v7), .val (.int v8), .val (.ref a1), .val (.int v10), .val (.long v11), .second, .val (.int (1 : Int32)), .val (.int v14), .val (.int v15), .unset, .unset, .unset, .unset, .unset] [(.long (v5.toInt64)), (.long v11)])) _
      refine XS.ladd X.here hx rfl (hb hby at_232) rfl ?_
      show Steps p.tables e below (T.setTop (mkF m 233 #[.val (.int i0), .val (.int i1), .val (.int i2), .val (.int i3), .val (.int v4), .val (.int v5), .val (.int v6), .val (.int v7), .val (.int v8), .val (.ref a1), .val (.int v10), .val (.long v11), .second, .val (.int (1 : Int32)), .val (.int v14), .val (.int v15), .unset, .unset, .unset, .unset, .unset] [(.long (v11 + (v5.toInt64)))])) _
      refine XS.goto X.here hx rfl (pc0 := 233) (pc' := 238) rfl (hb hby at_233) (by decide) (by decide) ?_
      show Steps p.tables e below (T.setTop (mkF m 238 #[.val (.int i0), .val (.int i1), .val (.int i2), .val (.int i3), .val (.int v4), .val (.int v5), .val (.int v6), .val (.int v7), .val (.int v8), .val (.ref a1), .val (.int v10), .val (.long v11), .second, .val (.int (1 : Int32)), .val (.int v14), .val (.int v15), .unset, .unset, .unset, .unset, .unset] [(.long (v11 + (v5.toInt64)))])) _
      refine XS.lstore X.here hx rfl (hb hby at_238) rfl (l' := #[.val (.int i0), .val (.int i1), .val (.int i2), .val (.int i3), .val (.int v4), .val (.int v5), .val (.int v6), .val (.int v7), .val (.int v8), .val (.ref a1), .val (.int v10), .val (.long v11), .second, .val (.int (1 : Int32)), .val (.int v14), .val (.int v15), .val (.long (v11 + (v5.toInt64))), .second, .unset, .unset, .unset]) rfl ?_
      rw [show (own_by v14 v11 v5) = (v11 + (v5.toInt64)) from by simp [own_by, hc213, hc218]] at kt
      exact kt
    · refine XS.ifNo X.here hx rfl (hb hby at_218) rfl ((if0 _ _).trans (feq hc218).1) ?_
      show Steps p.tables e below (T.setTop (mkF m 221 #[.val (.int i0), .val (.int i1), .val (.int i2), .val (.int i3), .val (.int v4), .val (.int v5), .val (.int v6), .val (.int v7), .val (.int v8), .val (.ref a1), .val (.int v10), .val (.long v11), .second, .val (.int (1 : Int32)), .val (.int v14), .val (.int v15), .unset, .unset, .unset, .unset, .unset] [])) _
      refine XS.iload X.here hx rfl (hb hby at_221) rfl ?_
      show Steps p.tables e below (T.setTop (mkF m 223 #[.val (.int i0), .val (.int i1), .val (.int i2), .val (.int i3), .val (.int v4), .val (.int v5), .val (.int v6), .val (.int v7), .val (.int v8), .val (.ref a1), .val (.int v10), .val (.long v11), .second, .val (.int (1 : Int32)), .val (.int v14), .val (.int v15), .unset, .unset, .unset, .unset, .unset] [(.int v5)])) _
      refine XS.i2l X.here hx rfl (hb hby at_223) rfl ?_
      show Steps p.tables e below (T.setTop (mkF m 224 #[.val (.int i0), .val (.int i1), .val (.int i2), .val (.int i3), .val (.int v4), .val (.int v5), .val (.int v6), .val (.int v7), .val (.int v8), .val (.ref a1), .val (.int v10), .val (.long v11), .second, .val (.int (1 : Int32)), .val (.int v14), .val (.int v15), .unset, .unset, .unset, .unset, .unset] [(.long (v5.toInt64))])) _
      refine XS.goto X.here hx rfl (pc0 := 224) (pc' := 238) rfl (hb hby at_224) (by decide) (by decide) ?_
      show Steps p.tables e below (T.setTop (mkF m 238 #[.val (.int i0), .val (.int i1), .val (.int i2), .val (.int i3), .val (.int v4), .val (.int v5), .val (.int v6), .val (.int v7), .val (.int v8), .val (.ref a1), .val (.int v10), .val (.long v11), .second, .val (.int (1 : Int32)), .val (.int v14), .val (.int v15), .unset, .unset, .unset, .unset, .unset] [(.long (v5.toInt64))])) _
      refine XS.lstore X.here hx rfl (hb hby at_238) rfl (l' := #[.val (.int i0), .val (.int i1), .val (.int i2), .val (.int i3), .val (.int v4), .val (.int v5), .val (.int v6), .val (.int v7), .val (.int v8), .val (.ref a1), .val (.int v10), .val (.long v11), .second, .val (.int (1 : Int32)), .val (.int v14), .val (.int v15), .val (.long (v5.toInt64)), .second, .unset, .unset, .unset]) rfl ?_
      rw [show (own_by v14 v11 v5) = (v5.toInt64) from by simp [own_by, hc213, hc218]] at kt
      exact kt
  · refine XS.ifYes X.here hx rfl (pc0 := 213) (pc' := 236) rfl (hb hby at_213) rfl ((if0 _ _).trans (flt hc213).2.2.2) (by decide) (by decide) ?_
    show Steps p.tables e below (T.setTop (mkF m 236 #[.val (.int i0), .val (.int i1), .val (.int i2), .val (.int i3), .val (.int v4), .val (.int v5), .val (.int v6), .val (.int v7), .val (.int v8), .val (.ref a1), .val (.int v10), .val (.long v11), .second, .val (.int (1 : Int32)), .val (.int v14), .val (.int v15), .unset, .unset, .unset, .unset, .unset] [])) _
    refine XS.lload X.here hx rfl (hb hby at_236) rfl ?_
    show Steps p.tables e below (T.setTop (mkF m 238 #[.val (.int i0), .val (.int i1), .val (.int i2), .val (.int i3), .val (.int v4), .val (.int v5), .val (.int v6), .val (.int v7), .val (.int v8), .val (.ref a1), .val (.int v10), .val (.long v11), .second, .val (.int (1 : Int32)), .val (.int v14), .val (.int v15), .unset, .unset, .unset, .unset, .unset] [(.long v11)])) _
    refine XS.lstore X.here hx rfl (hb hby at_238) rfl (l' := #[.val (.int i0), .val (.int i1), .val (.int i2), .val (.int i3), .val (.int v4), .val (.int v5), .val (.int v6), .val (.int v7), .val (.int v8), .val (.ref a1), .val (.int v10), .val (.long v11), .second, .val (.int (1 : Int32)), .val (.int v14), .val (.int v15), .val (.long v11), .second, .unset, .unset, .unset]) rfl ?_
    rw [show (own_by v14 v11 v5) = v11 from by simp [own_by, hc213]] at kt
    exact kt
set_option maxRecDepth 65536 in
set_option maxHeartbeats 40000000 in
theorem sg_247 {p : Program} {l : Launch} {e : Env} {R : Room} {s : State} {m : MethodId} {args : Array Value} {below : List Frame} {meth : Method} {c : Code} {T : State} {locs : List Loc} {cells slots : Nat} {Z : State} {a0 : Array Value} (i0 i1 i2 i3 v4 v5 v6 v7 v8 : Int32) (a1 : Addr) (v10 : Int32) (v11 : Int64) (v14 : Int32) (v15 : Int32) (v16 : Int64)
    (X : Stand p l e R s m args below meth c T locs cells slots) (hx : p.tables.exec = Jvm.exec) (hZ : Z.Warmed39 s.vm) (hw : ∀ d ∈ tables_1, d.before a0 Z = true) (hby : c.code = code) (hown : s.vm.findClass "com/example/antechamber/antechamber/TurnTookPinLaw" = some m.cls) :
    ∀ target, Steps p.tables e below (T.setTop (mkF m 264 #[.val (.int i0), .val (.int i1), .val (.int i2), .val (.int i3), .val (.int v4), .val (.int v5), .val (.int v6), .val (.int v7), .val (.int v8), .val (.ref a1), .val (.int v10), .val (.long v11), .second, .val (.int (1 : Int32)), .val (.int v14), .val (.int v15), .val (.long v16), .second, .val (.int (own_and v15 v6)), .unset, .unset] [])) target → Steps p.tables e below (T.setTop (mkF m 247 #[.val (.int i0), .val (.int i1), .val (.int i2), .val (.int i3), .val (.int v4), .val (.int v5), .val (.int v6), .val (.int v7), .val (.int v8), .val (.ref a1), .val (.int v10), .val (.long v11), .second, .val (.int (1 : Int32)), .val (.int v14), .val (.int v15), .val (.long v16), .second, .unset, .unset, .unset] [])) target := by
  intro target kt
  show Steps p.tables e below (T.setTop (mkF m 247 #[.val (.int i0), .val (.int i1), .val (.int i2), .val (.int i3), .val (.int v4), .val (.int v5), .val (.int v6), .val (.int v7), .val (.int v8), .val (.ref a1), .val (.int v10), .val (.long v11), .second, .val (.int (1 : Int32)), .val (.int v14), .val (.int v15), .val (.long v16), .second, .unset, .unset, .unset] [])) _
  refine XS.iload X.here hx rfl (hb hby at_247) rfl ?_
  show Steps p.tables e below (T.setTop (mkF m 249 #[.val (.int i0), .val (.int i1), .val (.int i2), .val (.int i3), .val (.int v4), .val (.int v5), .val (.int v6), .val (.int v7), .val (.int v8), .val (.ref a1), .val (.int v10), .val (.long v11), .second, .val (.int (1 : Int32)), .val (.int v14), .val (.int v15), .val (.long v16), .second, .unset, .unset, .unset] [(.int v15)])) _
  by_cases hc249 : v15 = (0 : Int32)
  · refine XS.ifYes X.here hx rfl (pc0 := 249) (pc' := 261) rfl (hb hby at_249) rfl ((if0 _ _).trans (teq hc249).1) (by decide) (by decide) ?_
    show Steps p.tables e below (T.setTop (mkF m 261 #[.val (.int i0), .val (.int i1), .val (.int i2), .val (.int i3), .val (.int v4), .val (.int v5), .val (.int v6), .val (.int v7), .val (.int v8), .val (.ref a1), .val (.int v10), .val (.long v11), .second, .val (.int (1 : Int32)), .val (.int v14), .val (.int v15), .val (.long v16), .second, .unset, .unset, .unset] [])) _
    refine XS.iconst X.here hx rfl (hb hby at_261) ?_
    show Steps p.tables e below (T.setTop (mkF m 262 #[.val (.int i0), .val (.int i1), .val (.int i2), .val (.int i3), .val (.int v4), .val (.int v5), .val (.int v6), .val (.int v7), .val (.int v8), .val (.ref a1), .val (.int v10), .val (.long v11), .second, .val (.int (1 : Int32)), .val (.int v14), .val (.int v15), .val (.long v16), .second, .unset, .unset, .unset] [(.int (0 : Int32))])) _
    refine XS.istore X.here hx rfl (hb hby at_262) rfl (l' := #[.val (.int i0), .val (.int i1), .val (.int i2), .val (.int i3), .val (.int v4), .val (.int v5), .val (.int v6), .val (.int v7), .val (.int v8), .val (.ref a1), .val (.int v10), .val (.long v11), .second, .val (.int (1 : Int32)), .val (.int v14), .val (.int v15), .val (.long v16), .second, .val (.int (0 : Int32)), .unset, .unset]) rfl ?_
    rw [show (own_and v15 v6) = (0 : Int32) from by simp [own_and, hc249]] at kt
    exact kt
  · refine XS.ifNo X.here hx rfl (hb hby at_249) rfl ((if0 _ _).trans (feq hc249).1) ?_
    show Steps p.tables e below (T.setTop (mkF m 252 #[.val (.int i0), .val (.int i1), .val (.int i2), .val (.int i3), .val (.int v4), .val (.int v5), .val (.int v6), .val (.int v7), .val (.int v8), .val (.ref a1), .val (.int v10), .val (.long v11), .second, .val (.int (1 : Int32)), .val (.int v14), .val (.int v15), .val (.long v16), .second, .unset, .unset, .unset] [])) _
    refine XS.iload X.here hx rfl (hb hby at_252) rfl ?_
    show Steps p.tables e below (T.setTop (mkF m 254 #[.val (.int i0), .val (.int i1), .val (.int i2), .val (.int i3), .val (.int v4), .val (.int v5), .val (.int v6), .val (.int v7), .val (.int v8), .val (.ref a1), .val (.int v10), .val (.long v11), .second, .val (.int (1 : Int32)), .val (.int v14), .val (.int v15), .val (.long v16), .second, .unset, .unset, .unset] [(.int v6)])) _
    by_cases hc254 : v6 = (0 : Int32)
    · refine XS.ifNo X.here hx rfl (hb hby at_254) rfl ((if0 _ _).trans (teq hc254).2) ?_
      show Steps p.tables e below (T.setTop (mkF m 257 #[.val (.int i0), .val (.int i1), .val (.int i2), .val (.int i3), .val (.int v4), .val (.int v5), .val (.int v6), .val (.int v7), .val (.int v8), .val (.ref a1), .val (.int v10), .val (.long v11), .second, .val (.int (1 : Int32)), .val (.int v14), .val (.int v15), .val (.long v16), .second, .unset, .unset, .unset] [])) _
      refine XS.iconst X.here hx rfl (hb hby at_257) ?_
      show Steps p.tables e below (T.setTop (mkF m 258 #[.val (.int i0), .val (.int i1), .val (.int i2), .val (.int i3), .val (.int v4), .val (.int v5), .val (.int v6), .val (.int v7), .val (.int v8), .val (.ref a1), .val (.int v10), .val (.long v11), .second, .val (.int (1 : Int32)), .val (.int v14), .val (.int v15), .val (.long v16), .second, .unset, .unset, .unset] [(.int (1 : Int32))])) _
      refine XS.goto X.here hx rfl (pc0 := 258) (pc' := 262) rfl (hb hby at_258) (by decide) (by decide) ?_
      show Steps p.tables e below (T.setTop (mkF m 262 #[.val (.int i0), .val (.int i1), .val (.int i2), .val (.int i3), .val (.int v4), .val (.int v5), .val (.int v6), .val (.int v7), .val (.int v8), .val (.ref a1), .val (.int v10), .val (.long v11), .second, .val (.int (1 : Int32)), .val (.int v14), .val (.int v15), .val (.long v16), .second, .unset, .unset, .unset] [(.int (1 : Int32))])) _
      refine XS.istore X.here hx rfl (hb hby at_262) rfl (l' := #[.val (.int i0), .val (.int i1), .val (.int i2), .val (.int i3), .val (.int v4), .val (.int v5), .val (.int v6), .val (.int v7), .val (.int v8), .val (.ref a1), .val (.int v10), .val (.long v11), .second, .val (.int (1 : Int32)), .val (.int v14), .val (.int v15), .val (.long v16), .second, .val (.int (1 : Int32)), .unset, .unset]) rfl ?_
      rw [show (own_and v15 v6) = (1 : Int32) from by simp [own_and, hc249, hc254]] at kt
      exact kt
    · refine XS.ifYes X.here hx rfl (pc0 := 254) (pc' := 261) rfl (hb hby at_254) rfl ((if0 _ _).trans (feq hc254).2) (by decide) (by decide) ?_
      show Steps p.tables e below (T.setTop (mkF m 261 #[.val (.int i0), .val (.int i1), .val (.int i2), .val (.int i3), .val (.int v4), .val (.int v5), .val (.int v6), .val (.int v7), .val (.int v8), .val (.ref a1), .val (.int v10), .val (.long v11), .second, .val (.int (1 : Int32)), .val (.int v14), .val (.int v15), .val (.long v16), .second, .unset, .unset, .unset] [])) _
      refine XS.iconst X.here hx rfl (hb hby at_261) ?_
      show Steps p.tables e below (T.setTop (mkF m 262 #[.val (.int i0), .val (.int i1), .val (.int i2), .val (.int i3), .val (.int v4), .val (.int v5), .val (.int v6), .val (.int v7), .val (.int v8), .val (.ref a1), .val (.int v10), .val (.long v11), .second, .val (.int (1 : Int32)), .val (.int v14), .val (.int v15), .val (.long v16), .second, .unset, .unset, .unset] [(.int (0 : Int32))])) _
      refine XS.istore X.here hx rfl (hb hby at_262) rfl (l' := #[.val (.int i0), .val (.int i1), .val (.int i2), .val (.int i3), .val (.int v4), .val (.int v5), .val (.int v6), .val (.int v7), .val (.int v8), .val (.ref a1), .val (.int v10), .val (.long v11), .second, .val (.int (1 : Int32)), .val (.int v14), .val (.int v15), .val (.long v16), .second, .val (.int (0 : Int32)), .unset, .unset]) rfl ?_
      rw [show (own_and v15 v6) = (0 : Int32) from by simp [own_and, hc249, hc254]] at kt
      exact kt
set_option maxRecDepth 65536 in
set_option maxHeartbeats 40000000 in
theorem sg_264 {p : Program} {l : Launch} {e : Env} {R : Room} {s : State} {m : MethodId} {args : Array Value} {below : List Frame} {meth : Method} {c : Code} {T : State} {locs : List Loc} {cells slots : Nat} {Z : State} {a0 : Array Value} (i0 i1 i2 i3 v4 v5 v6 v7 v8 : Int32) (a1 : Addr) (v10 : Int32) (v11 : Int64) (v14 : Int32) (v15 : Int32) (v16 : Int64) (v18 : Int32)
    (X : Stand p l e R s m args below meth c T locs cells slots) (hx : p.tables.exec = Jvm.exec) (hZ : Z.Warmed39 s.vm) (hw : ∀ d ∈ tables_1, d.before a0 Z = true) (hby : c.code = code) (hown : s.vm.findClass "com/example/antechamber/antechamber/TurnTookPinLaw" = some m.cls) :
    ∀ target, Steps p.tables e below (T.setTop (mkF m 293 #[.val (.int i0), .val (.int i1), .val (.int i2), .val (.int i3), .val (.int v4), .val (.int v5), .val (.int v6), .val (.int v7), .val (.int v8), .val (.ref a1), .val (.int v10), .val (.long v11), .second, .val (.int (1 : Int32)), .val (.int v14), .val (.int v15), .val (.long v16), .second, .val (.int v18), .val (.long (own_by v15 v16 v6)), .second] [])) target → Steps p.tables e below (T.setTop (mkF m 264 #[.val (.int i0), .val (.int i1), .val (.int i2), .val (.int i3), .val (.int v4), .val (.int v5), .val (.int v6), .val (.int v7), .val (.int v8), .val (.ref a1), .val (.int v10), .val (.long v11), .second, .val (.int (1 : Int32)), .val (.int v14), .val (.int v15), .val (.long v16), .second, .val (.int v18), .unset, .unset] [])) target := by
  intro target kt
  show Steps p.tables e below (T.setTop (mkF m 264 #[.val (.int i0), .val (.int i1), .val (.int i2), .val (.int i3), .val (.int v4), .val (.int v5), .val (.int v6), .val (.int v7), .val (.int v8), .val (.ref a1), .val (.int v10), .val (.long v11), .second, .val (.int (1 : Int32)), .val (.int v14), .val (.int v15), .val (.long v16), .second, .val (.int v18), .unset, .unset] [])) _
  refine XS.iload X.here hx rfl (hb hby at_264) rfl ?_
  show Steps p.tables e below (T.setTop (mkF m 266 #[.val (.int i0), .val (.int i1), .val (.int i2), .val (.int i3), .val (.int v4), .val (.int v5), .val (.int v6), .val (.int v7), .val (.int v8), .val (.ref a1), .val (.int v10), .val (.long v11), .second, .val (.int (1 : Int32)), .val (.int v14), .val (.int v15), .val (.long v16), .second, .val (.int v18), .unset, .unset] [(.int v6)])) _
  by_cases hc266 : (0 : Int32) < v6
  · refine XS.ifNo X.here hx rfl (hb hby at_266) rfl ((if0 _ _).trans (tlt hc266).2.2.2) ?_
    show Steps p.tables e below (T.setTop (mkF m 269 #[.val (.int i0), .val (.int i1), .val (.int i2), .val (.int i3), .val (.int v4), .val (.int v5), .val (.int v6), .val (.int v7), .val (.int v8), .val (.ref a1), .val (.int v10), .val (.long v11), .second, .val (.int (1 : Int32)), .val (.int v14), .val (.int v15), .val (.long v16), .second, .val (.int v18), .unset, .unset] [])) _
    refine XS.iload X.here hx rfl (hb hby at_269) rfl ?_
    show Steps p.tables e below (T.setTop (mkF m 271 #[.val (.int i0), .val (.int i1), .val (.int i2), .val (.int i3), .val (.int v4), .val (.int v5), .val (.int v6), .val (.int v7), .val (.int v8), .val (.ref a1), .val (.int v10), .val (.long v11), .second, .val (.int (1 : Int32)), .val (.int v14), .val (.int v15), .val (.long v16), .second, .val (.int v18), .unset, .unset] [(.int v15)])) _
    by_cases hc271 : v15 = (0 : Int32)
    · refine XS.ifYes X.here hx rfl (pc0 := 271) (pc' := 280) rfl (hb hby at_271) rfl ((if0 _ _).trans (teq hc271).1) (by decide) (by decide) ?_
      show Steps p.tables e below (T.setTop (mkF m 280 #[.val (.int i0), .val (.int i1), .val (.int i2), .val (.int i3), .val (.int v4), .val (.int v5), .val (.int v6), .val (.int v7), .val (.int v8), .val (.ref a1), .val (.int v10), .val (.long v11), .second, .val (.int (1 : Int32)), .val (.int v14), .val (.int v15), .val (.long v16), .second, .val (.int v18), .unset, .unset] [])) _
      refine XS.lload X.here hx rfl (hb hby at_280) rfl ?_
      show Steps p.tables e below (T.setTop (mkF m 282 #[.val (.int i0), .val (.int i1), .val (.int i2), .val (.int i3), .val (.int v4), .val (.int v5), .val (.int v6), .val (.int v7), .val (.int v8), .val (.ref a1), .val (.int v10), .val (.long v11), .second, .val (.int (1 : Int32)), .val (.int v14), .val (.int v15), .val (.long v16), .second, .val (.int v18), .unset, .unset] [(.long v16)])) _
      refine XS.iload X.here hx rfl (hb hby at_282) rfl ?_
      show Steps p.tables e below (T.setTop (mkF m 284 #[.val (.int i0), .val (.int i1), .val (.int i2), .val (.int i3), .val (.int v4), .val (.int v5), .val (.int v6), .val (.int v7), .val (.int v8), .val (.ref a1), .val (.int v10), .val (.long v11), .second, .val (.int (1 : Int32)), .val (.int v14), .val (.int v15), .val (.long v16), .second, .val (.int v18), .unset, .unset] [(.int v6), (.long v16)])) _
      refine XS.i2l X.here hx rfl (hb hby at_284) rfl ?_
      show Steps p.tables e below (T.setTop (mkF m 285 #[.val (.int i0), .val (.int i1), .val (.int i2), .val (.int i3), .val (.int v4), .val (.int v5), .val (.int v6), .val (.int v7), .val (.int v8), .val (.ref a1), .val (.int v10), .val (.long v11), .second, .val (.int (1 : Int32)), .val (.int v14), .val (.int v15), .val (.long v16), .second, .val (.int v18), .unset, .unset] [(.long (v6.toInt64)), (.long v16)])) _
      refine XS.ladd X.here hx rfl (hb hby at_285) rfl ?_
      show Steps p.tables e below (T.setTop (mkF m 286 #[.val (.int i0), .val (.int i1), .val (.int i2), .val (.int i3), .val (.int v4), .val (.int v5), .val (.int v6), .val (.int v7), .val (.int v8), .val (.ref a1), .val (.int v10), .val (.long v11), .second, .val (.int (1 : Int32)), .val (.int v14), .val (.int v15), .val (.long v16), .second, .val (.int v18), .unset, .unset] [(.long (v16 + (v6.toInt64)))])) _
      refine XS.goto X.here hx rfl (pc0 := 286) (pc' := 291) rfl (hb hby at_286) (by decide) (by decide) ?_
      show Steps p.tables e below (T.setTop (mkF m 291 #[.val (.int i0), .val (.int i1), .val (.int i2), .val (.int i3), .val (.int v4), .val (.int v5), .val (.int v6), .val (.int v7), .val (.int v8), .val (.ref a1), .val (.int v10), .val (.long v11), .second, .val (.int (1 : Int32)), .val (.int v14), .val (.int v15), .val (.long v16), .second, .val (.int v18), .unset, .unset] [(.long (v16 + (v6.toInt64)))])) _
      refine XS.lstore X.here hx rfl (hb hby at_291) rfl (l' := #[.val (.int i0), .val (.int i1), .val (.int i2), .val (.int i3), .val (.int v4), .val (.int v5), .val (.int v6), .val (.int v7), .val (.int v8), .val (.ref a1), .val (.int v10), .val (.long v11), .second, .val (.int (1 : Int32)), .val (.int v14), .val (.int v15), .val (.long v16), .second, .val (.int v18), .val (.long (v16 + (v6.toInt64))), .second]) rfl ?_
      rw [show (own_by v15 v16 v6) = (v16 + (v6.toInt64)) from by simp [own_by, hc266, hc271]] at kt
      exact kt
    · refine XS.ifNo X.here hx rfl (hb hby at_271) rfl ((if0 _ _).trans (feq hc271).1) ?_
      show Steps p.tables e below (T.setTop (mkF m 274 #[.val (.int i0), .val (.int i1), .val (.int i2), .val (.int i3), .val (.int v4), .val (.int v5), .val (.int v6), .val (.int v7), .val (.int v8), .val (.ref a1), .val (.int v10), .val (.long v11), .second, .val (.int (1 : Int32)), .val (.int v14), .val (.int v15), .val (.long v16), .second, .val (.int v18), .unset, .unset] [])) _
      refine XS.iload X.here hx rfl (hb hby at_274) rfl ?_
      show Steps p.tables e below (T.setTop (mkF m 276 #[.val (.int i0), .val (.int i1), .val (.int i2), .val (.int i3), .val (.int v4), .val (.int v5), .val (.int v6), .val (.int v7), .val (.int v8), .val (.ref a1), .val (.int v10), .val (.long v11), .second, .val (.int (1 : Int32)), .val (.int v14), .val (.int v15), .val (.long v16), .second, .val (.int v18), .unset, .unset] [(.int v6)])) _
      refine XS.i2l X.here hx rfl (hb hby at_276) rfl ?_
      show Steps p.tables e below (T.setTop (mkF m 277 #[.val (.int i0), .val (.int i1), .val (.int i2), .val (.int i3), .val (.int v4), .val (.int v5), .val (.int v6), .val (.int v7), .val (.int v8), .val (.ref a1), .val (.int v10), .val (.long v11), .second, .val (.int (1 : Int32)), .val (.int v14), .val (.int v15), .val (.long v16), .second, .val (.int v18), .unset, .unset] [(.long (v6.toInt64))])) _
      refine XS.goto X.here hx rfl (pc0 := 277) (pc' := 291) rfl (hb hby at_277) (by decide) (by decide) ?_
      show Steps p.tables e below (T.setTop (mkF m 291 #[.val (.int i0), .val (.int i1), .val (.int i2), .val (.int i3), .val (.int v4), .val (.int v5), .val (.int v6), .val (.int v7), .val (.int v8), .val (.ref a1), .val (.int v10), .val (.long v11), .second, .val (.int (1 : Int32)), .val (.int v14), .val (.int v15), .val (.long v16), .second, .val (.int v18), .unset, .unset] [(.long (v6.toInt64))])) _
      refine XS.lstore X.here hx rfl (hb hby at_291) rfl (l' := #[.val (.int i0), .val (.int i1), .val (.int i2), .val (.int i3), .val (.int v4), .val (.int v5), .val (.int v6), .val (.int v7), .val (.int v8), .val (.ref a1), .val (.int v10), .val (.long v11), .second, .val (.int (1 : Int32)), .val (.int v14), .val (.int v15), .val (.long v16), .second, .val (.int v18), .val (.long (v6.toInt64)), .second]) rfl ?_
      rw [show (own_by v15 v16 v6) = (v6.toInt64) from by simp [own_by, hc266, hc271]] at kt
      exact kt
  · refine XS.ifYes X.here hx rfl (pc0 := 266) (pc' := 289) rfl (hb hby at_266) rfl ((if0 _ _).trans (flt hc266).2.2.2) (by decide) (by decide) ?_
    show Steps p.tables e below (T.setTop (mkF m 289 #[.val (.int i0), .val (.int i1), .val (.int i2), .val (.int i3), .val (.int v4), .val (.int v5), .val (.int v6), .val (.int v7), .val (.int v8), .val (.ref a1), .val (.int v10), .val (.long v11), .second, .val (.int (1 : Int32)), .val (.int v14), .val (.int v15), .val (.long v16), .second, .val (.int v18), .unset, .unset] [])) _
    refine XS.lload X.here hx rfl (hb hby at_289) rfl ?_
    show Steps p.tables e below (T.setTop (mkF m 291 #[.val (.int i0), .val (.int i1), .val (.int i2), .val (.int i3), .val (.int v4), .val (.int v5), .val (.int v6), .val (.int v7), .val (.int v8), .val (.ref a1), .val (.int v10), .val (.long v11), .second, .val (.int (1 : Int32)), .val (.int v14), .val (.int v15), .val (.long v16), .second, .val (.int v18), .unset, .unset] [(.long v16)])) _
    refine XS.lstore X.here hx rfl (hb hby at_291) rfl (l' := #[.val (.int i0), .val (.int i1), .val (.int i2), .val (.int i3), .val (.int v4), .val (.int v5), .val (.int v6), .val (.int v7), .val (.int v8), .val (.ref a1), .val (.int v10), .val (.long v11), .second, .val (.int (1 : Int32)), .val (.int v14), .val (.int v15), .val (.long v16), .second, .val (.int v18), .val (.long v16), .second]) rfl ?_
    rw [show (own_by v15 v16 v6) = v16 from by simp [own_by, hc266]] at kt
    exact kt
set_option maxRecDepth 65536 in
set_option maxHeartbeats 40000000 in
theorem sg_313 {p : Program} {l : Launch} {e : Env} {R : Room} {s : State} {m : MethodId} {args : Array Value} {below : List Frame} {meth : Method} {c : Code} {T : State} {locs : List Loc} {cells slots : Nat} {Z : State} {a0 : Array Value} (i0 i1 i2 i3 v4 v5 v6 v7 v8 : Int32) (a1 : Addr) (v10 : Int32) (v11 : Int64) (v14 : Int32) (v15 : Int32) (v16 : Int64) (v18 : Int32) (v19 : Int64)
    (X : Stand p l e R s m args below meth c T locs cells slots) (hx : p.tables.exec = Jvm.exec) (hZ : Z.Warmed39 s.vm) (hw : ∀ d ∈ tables_1, d.before a0 Z = true) (hby : c.code = code) (hown : s.vm.findClass "com/example/antechamber/antechamber/TurnTookPinLaw" = some m.cls) :
    ∀ target, Steps p.tables e below (T.setTop (mkF m 340 #[.val (.int i0), .val (.int i1), .val (.int i2), .val (.int i3), .val (.int v4), .val (.int v5), .val (.int v6), .val (.int v7), .val (.int v8), .val (.ref a1), .val (.int v10), .val (.long v11), .second, .val (.int (1 : Int32)), .val (.int v14), .val (.int v15), .val (.long v16), .second, .val (.int v18), .val (.long v19), .second] [(.int (1 : Int32))])) target → Steps p.tables e below (T.setTop (mkF m 313 #[.val (.int i0), .val (.int i1), .val (.int i2), .val (.int i3), .val (.int v4), .val (.int v5), .val (.int v6), .val (.int v7), .val (.int v8), .val (.ref a1), .val (.int v10), .val (.long v11), .second, .val (.int (1 : Int32)), .val (.int v14), .val (.int v15), .val (.long v16), .second, .val (.int v18), .val (.long v19), .second] [(.int (own_pc v18 v19))])) target := by
  intro target kt
  show Steps p.tables e below (T.setTop (mkF m 313 #[.val (.int i0), .val (.int i1), .val (.int i2), .val (.int i3), .val (.int v4), .val (.int v5), .val (.int v6), .val (.int v7), .val (.int v8), .val (.ref a1), .val (.int v10), .val (.long v11), .second, .val (.int (1 : Int32)), .val (.int v14), .val (.int v15), .val (.long v16), .second, .val (.int v18), .val (.long v19), .second] [(.int (own_pc v18 v19))])) _
  refine XS.iload X.here hx rfl (hb hby at_313) rfl ?_
  show Steps p.tables e below (T.setTop (mkF m 315 #[.val (.int i0), .val (.int i1), .val (.int i2), .val (.int i3), .val (.int v4), .val (.int v5), .val (.int v6), .val (.int v7), .val (.int v8), .val (.ref a1), .val (.int v10), .val (.long v11), .second, .val (.int (1 : Int32)), .val (.int v14), .val (.int v15), .val (.long v16), .second, .val (.int v18), .val (.long v19), .second] [(.int v18), (.int (own_pc v18 v19))])) _
  by_cases hc315 : v18 = (0 : Int32)
  · refine XS.ifNo X.here hx rfl (hb hby at_315) rfl ((if0 _ _).trans (teq hc315).2) ?_
    show Steps p.tables e below (T.setTop (mkF m 318 #[.val (.int i0), .val (.int i1), .val (.int i2), .val (.int i3), .val (.int v4), .val (.int v5), .val (.int v6), .val (.int v7), .val (.int v8), .val (.ref a1), .val (.int v10), .val (.long v11), .second, .val (.int (1 : Int32)), .val (.int v14), .val (.int v15), .val (.long v16), .second, .val (.int v18), .val (.long v19), .second] [(.int (own_pc v18 v19))])) _
    refine XS.lload X.here hx rfl (hb hby at_318) rfl ?_
    show Steps p.tables e below (T.setTop (mkF m 320 #[.val (.int i0), .val (.int i1), .val (.int i2), .val (.int i3), .val (.int v4), .val (.int v5), .val (.int v6), .val (.int v7), .val (.int v8), .val (.ref a1), .val (.int v10), .val (.long v11), .second, .val (.int (1 : Int32)), .val (.int v14), .val (.int v15), .val (.long v16), .second, .val (.int v18), .val (.long v19), .second] [(.long v19), (.int (own_pc v18 v19))])) _
    refine X.ldc2Long hx hown (mvT hZ (hw _ (List.mem_of_getElem? (i := 34) rfl))) (g := (mkF m 320 #[.val (.int i0), .val (.int i1), .val (.int i2), .val (.int i3), .val (.int v4), .val (.int v5), .val (.int v6), .val (.int v7), .val (.int v8), .val (.ref a1), .val (.int v10), .val (.long v11), .second, .val (.int (1 : Int32)), .val (.int v14), .val (.int v15), .val (.long v16), .second, .val (.int v18), .val (.long v19), .second] [(.long v19), (.int (own_pc v18 v19))])) rfl (hb hby at_320) _ ?_
    show Steps p.tables e below (T.setTop (mkF m 323 #[.val (.int i0), .val (.int i1), .val (.int i2), .val (.int i3), .val (.int v4), .val (.int v5), .val (.int v6), .val (.int v7), .val (.int v8), .val (.ref a1), .val (.int v10), .val (.long v11), .second, .val (.int (1 : Int32)), .val (.int v14), .val (.int v15), .val (.long v16), .second, .val (.int v18), .val (.long v19), .second] [(.long (65536 : Int64)), (.long v19), (.int (own_pc v18 v19))])) _
    refine XS.lcmp X.here hx rfl (hb hby at_323) rfl ?_
    show Steps p.tables e below (T.setTop (mkF m 324 #[.val (.int i0), .val (.int i1), .val (.int i2), .val (.int i3), .val (.int v4), .val (.int v5), .val (.int v6), .val (.int v7), .val (.int v8), .val (.ref a1), .val (.int v10), .val (.long v11), .second, .val (.int (1 : Int32)), .val (.int v14), .val (.int v15), .val (.long v16), .second, .val (.int v18), .val (.long v19), .second] [(.int (lcmpW v19 (65536 : Int64))), (.int (own_pc v18 v19))])) _
    by_cases hc324 : (lcmpW v19 (65536 : Int64)) < (0 : Int32)
    · refine XS.ifYes X.here hx rfl (pc0 := 324) (pc' := 331) rfl (hb hby at_324) rfl ((if0 _ _).trans (tlt hc324).1) (by decide) (by decide) ?_
      show Steps p.tables e below (T.setTop (mkF m 331 #[.val (.int i0), .val (.int i1), .val (.int i2), .val (.int i3), .val (.int v4), .val (.int v5), .val (.int v6), .val (.int v7), .val (.int v8), .val (.ref a1), .val (.int v10), .val (.long v11), .second, .val (.int (1 : Int32)), .val (.int v14), .val (.int v15), .val (.long v16), .second, .val (.int v18), .val (.long v19), .second] [(.int (own_pc v18 v19))])) _
      refine XS.iconst X.here hx rfl (hb hby at_331) ?_
      show Steps p.tables e below (T.setTop (mkF m 332 #[.val (.int i0), .val (.int i1), .val (.int i2), .val (.int i3), .val (.int v4), .val (.int v5), .val (.int v6), .val (.int v7), .val (.int v8), .val (.ref a1), .val (.int v10), .val (.long v11), .second, .val (.int (1 : Int32)), .val (.int v14), .val (.int v15), .val (.long v16), .second, .val (.int v18), .val (.long v19), .second] [(.int (0 : Int32)), (.int (own_pc v18 v19))])) _
      refine XS.icmpNo X.here hx rfl (hb hby at_332) rfl (teq (by simp [own_pc, hc315, hc324] : (own_pc v18 v19) = (0 : Int32))).2 ?_
      show Steps p.tables e below (T.setTop (mkF m 335 #[.val (.int i0), .val (.int i1), .val (.int i2), .val (.int i3), .val (.int v4), .val (.int v5), .val (.int v6), .val (.int v7), .val (.int v8), .val (.ref a1), .val (.int v10), .val (.long v11), .second, .val (.int (1 : Int32)), .val (.int v14), .val (.int v15), .val (.long v16), .second, .val (.int v18), .val (.long v19), .second] [])) _
      refine XS.iconst X.here hx rfl (hb hby at_335) ?_
      show Steps p.tables e below (T.setTop (mkF m 336 #[.val (.int i0), .val (.int i1), .val (.int i2), .val (.int i3), .val (.int v4), .val (.int v5), .val (.int v6), .val (.int v7), .val (.int v8), .val (.ref a1), .val (.int v10), .val (.long v11), .second, .val (.int (1 : Int32)), .val (.int v14), .val (.int v15), .val (.long v16), .second, .val (.int v18), .val (.long v19), .second] [(.int (1 : Int32))])) _
      refine XS.goto X.here hx rfl (pc0 := 336) (pc' := 340) rfl (hb hby at_336) (by decide) (by decide) ?_
      exact kt
    · refine XS.ifNo X.here hx rfl (hb hby at_324) rfl ((if0 _ _).trans (flt hc324).1) ?_
      show Steps p.tables e below (T.setTop (mkF m 327 #[.val (.int i0), .val (.int i1), .val (.int i2), .val (.int i3), .val (.int v4), .val (.int v5), .val (.int v6), .val (.int v7), .val (.int v8), .val (.ref a1), .val (.int v10), .val (.long v11), .second, .val (.int (1 : Int32)), .val (.int v14), .val (.int v15), .val (.long v16), .second, .val (.int v18), .val (.long v19), .second] [(.int (own_pc v18 v19))])) _
      refine XS.iconst X.here hx rfl (hb hby at_327) ?_
      show Steps p.tables e below (T.setTop (mkF m 328 #[.val (.int i0), .val (.int i1), .val (.int i2), .val (.int i3), .val (.int v4), .val (.int v5), .val (.int v6), .val (.int v7), .val (.int v8), .val (.ref a1), .val (.int v10), .val (.long v11), .second, .val (.int (1 : Int32)), .val (.int v14), .val (.int v15), .val (.long v16), .second, .val (.int v18), .val (.long v19), .second] [(.int (1 : Int32)), (.int (own_pc v18 v19))])) _
      refine XS.goto X.here hx rfl (pc0 := 328) (pc' := 332) rfl (hb hby at_328) (by decide) (by decide) ?_
      show Steps p.tables e below (T.setTop (mkF m 332 #[.val (.int i0), .val (.int i1), .val (.int i2), .val (.int i3), .val (.int v4), .val (.int v5), .val (.int v6), .val (.int v7), .val (.int v8), .val (.ref a1), .val (.int v10), .val (.long v11), .second, .val (.int (1 : Int32)), .val (.int v14), .val (.int v15), .val (.long v16), .second, .val (.int v18), .val (.long v19), .second] [(.int (1 : Int32)), (.int (own_pc v18 v19))])) _
      refine XS.icmpNo X.here hx rfl (hb hby at_332) rfl (teq (by simp [own_pc, hc315, hc324] : (own_pc v18 v19) = (1 : Int32))).2 ?_
      show Steps p.tables e below (T.setTop (mkF m 335 #[.val (.int i0), .val (.int i1), .val (.int i2), .val (.int i3), .val (.int v4), .val (.int v5), .val (.int v6), .val (.int v7), .val (.int v8), .val (.ref a1), .val (.int v10), .val (.long v11), .second, .val (.int (1 : Int32)), .val (.int v14), .val (.int v15), .val (.long v16), .second, .val (.int v18), .val (.long v19), .second] [])) _
      refine XS.iconst X.here hx rfl (hb hby at_335) ?_
      show Steps p.tables e below (T.setTop (mkF m 336 #[.val (.int i0), .val (.int i1), .val (.int i2), .val (.int i3), .val (.int v4), .val (.int v5), .val (.int v6), .val (.int v7), .val (.int v8), .val (.ref a1), .val (.int v10), .val (.long v11), .second, .val (.int (1 : Int32)), .val (.int v14), .val (.int v15), .val (.long v16), .second, .val (.int v18), .val (.long v19), .second] [(.int (1 : Int32))])) _
      refine XS.goto X.here hx rfl (pc0 := 336) (pc' := 340) rfl (hb hby at_336) (by decide) (by decide) ?_
      exact kt
  · refine XS.ifYes X.here hx rfl (pc0 := 315) (pc' := 331) rfl (hb hby at_315) rfl ((if0 _ _).trans (feq hc315).2) (by decide) (by decide) ?_
    show Steps p.tables e below (T.setTop (mkF m 331 #[.val (.int i0), .val (.int i1), .val (.int i2), .val (.int i3), .val (.int v4), .val (.int v5), .val (.int v6), .val (.int v7), .val (.int v8), .val (.ref a1), .val (.int v10), .val (.long v11), .second, .val (.int (1 : Int32)), .val (.int v14), .val (.int v15), .val (.long v16), .second, .val (.int v18), .val (.long v19), .second] [(.int (own_pc v18 v19))])) _
    refine XS.iconst X.here hx rfl (hb hby at_331) ?_
    show Steps p.tables e below (T.setTop (mkF m 332 #[.val (.int i0), .val (.int i1), .val (.int i2), .val (.int i3), .val (.int v4), .val (.int v5), .val (.int v6), .val (.int v7), .val (.int v8), .val (.ref a1), .val (.int v10), .val (.long v11), .second, .val (.int (1 : Int32)), .val (.int v14), .val (.int v15), .val (.long v16), .second, .val (.int v18), .val (.long v19), .second] [(.int (0 : Int32)), (.int (own_pc v18 v19))])) _
    refine XS.icmpNo X.here hx rfl (hb hby at_332) rfl (teq (by simp [own_pc, hc315] : (own_pc v18 v19) = (0 : Int32))).2 ?_
    show Steps p.tables e below (T.setTop (mkF m 335 #[.val (.int i0), .val (.int i1), .val (.int i2), .val (.int i3), .val (.int v4), .val (.int v5), .val (.int v6), .val (.int v7), .val (.int v8), .val (.ref a1), .val (.int v10), .val (.long v11), .second, .val (.int (1 : Int32)), .val (.int v14), .val (.int v15), .val (.long v16), .second, .val (.int v18), .val (.long v19), .second] [])) _
    refine XS.iconst X.here hx rfl (hb hby at_335) ?_
    show Steps p.tables e below (T.setTop (mkF m 336 #[.val (.int i0), .val (.int i1), .val (.int i2), .val (.int i3), .val (.int v4), .val (.int v5), .val (.int v6), .val (.int v7), .val (.int v8), .val (.ref a1), .val (.int v10), .val (.long v11), .second, .val (.int (1 : Int32)), .val (.int v14), .val (.int v15), .val (.long v16), .second, .val (.int v18), .val (.long v19), .second] [(.int (1 : Int32))])) _
    refine XS.goto X.here hx rfl (pc0 := 336) (pc' := 340) rfl (hb hby at_336) (by decide) (by decide) ?_
    exact kt
set_option maxRecDepth 65536 in
set_option maxHeartbeats 40000000 in
theorem own_maybe1 {p : Program} {l : Launch} {e : Env} {s : State} {m : MethodId} {args : Array Value} {below : List Frame} {meth : Method} {c : Code} {T : State} {locs : List Loc} {Z : State} {a0 : Array Value}
    (X : Stand p l e room_1 s m args below meth c T locs 1 2) (hx : p.tables.exec = Jvm.exec) (hZ : Z.Warmed39 s.vm) (hw : ∀ d ∈ tables_1, d.before a0 Z = true) (hown : s.vm.findClass "com/example/antechamber/antechamber/TurnTookPinLaw" = some m.cls) {n0 : Nat} (N : Fr n0 locs) (Z0 : n0 ≤ T.heap.size) {a1 : Addr} (g_a1 : n0 ≤ a1) {w3 : Int32} {w5 : Int64} (E : Exa Z T.heap a1 "com/example/antechamber/antechamber/DatabaseSocket$Turn") (F : Fld Z T.heap a1 "com/example/antechamber/antechamber/DatabaseSocket$Turn" "answerDue" "Z" (.int w3)) (G : Fld Z T.heap a1 "com/example/antechamber/antechamber/DatabaseSocket$Turn" "answerBytes" "J" (.long w5)) (i0 i1 i2 i3 v4 v5 v6 v7 v8 : Int32) (hby : c.code = code) (hml : c.maxLocals = 21) :
    ∃ (T' : State) (L' : List Loc), Stand p l e room_1 s m args below meth c T' L' 1 2 ∧ Fr n0 L' ∧ n0 ≤ T'.heap.size ∧ (Exa Z T'.heap a1 "com/example/antechamber/antechamber/DatabaseSocket$Turn" ∧ Fld Z T'.heap a1 "com/example/antechamber/antechamber/DatabaseSocket$Turn" "answerDue" "Z" (.int (own_if v7 w3)) ∧ Fld Z T'.heap a1 "com/example/antechamber/antechamber/DatabaseSocket$Turn" "answerBytes" "J" (.long w5)) ∧
      ∀ target, Steps p.tables e below (T'.setTop (mkF m 78 #[.val (.int i0), .val (.int i1), .val (.int i2), .val (.int i3), .val (.int v4), .val (.int v5), .val (.int v6), .val (.int v7), .val (.int v8), .val (.ref a1), .unset, .unset, .unset, .unset, .unset, .unset, .unset, .unset, .unset, .unset, .unset] [])) target → Steps p.tables e below (T.setTop (mkF m 68 #[.val (.int i0), .val (.int i1), .val (.int i2), .val (.int i3), .val (.int v4), .val (.int v5), .val (.int v6), .val (.int v7), .val (.int v8), .val (.ref a1), .unset, .unset, .unset, .unset, .unset, .unset, .unset, .unset, .unset, .unset, .unset] [])) target := by
  by_cases hs : v7 = (0 : Int32)
  · rw [show own_if v7 w3 = w3 from if_pos hs]
    refine ⟨T, locs, X, N, Z0, ⟨E, F, G⟩, fun target kt => ?_⟩
    show Steps p.tables e below (T.setTop (mkF m 68 #[.val (.int i0), .val (.int i1), .val (.int i2), .val (.int i3), .val (.int v4), .val (.int v5), .val (.int v6), .val (.int v7), .val (.int v8), .val (.ref a1), .unset, .unset, .unset, .unset, .unset, .unset, .unset, .unset, .unset, .unset, .unset] [])) _
    refine XS.iload X.here hx rfl (hb hby at_68) rfl ?_
    show Steps p.tables e below (T.setTop (mkF m 70 #[.val (.int i0), .val (.int i1), .val (.int i2), .val (.int i3), .val (.int v4), .val (.int v5), .val (.int v6), .val (.int v7), .val (.int v8), .val (.ref a1), .unset, .unset, .unset, .unset, .unset, .unset, .unset, .unset, .unset, .unset, .unset] [(.int v7)])) _
    refine XS.ifYes X.here hx rfl (pc0 := 70) (pc' := 78) rfl (hb hby at_70) rfl ((if0 _ _).trans (teq hs).1) (by decide) (by decide) ?_
    exact kt
  · rw [show own_if v7 w3 = 1 from if_neg hs]
    obtain ⟨T1, L1, X1, N1, Z1, F1, st1⟩ := own_sent X hx hZ hw hown N Z0 g_a1 E F G (pc := 75) (Ls := #[.val (.int i0), .val (.int i1), .val (.int i2), .val (.int i3), .val (.int v4), .val (.int v5), .val (.int v6), .val (.int v7), .val (.int v8), .val (.ref a1), .unset, .unset, .unset, .unset, .unset, .unset, .unset, .unset, .unset, .unset, .unset]) (by rw [hml]; rfl) (hb hby at_75)
    refine ⟨T1, L1, X1, N1, Z1, F1, fun target kt => ?_⟩
    show Steps p.tables e below (T.setTop (mkF m 68 #[.val (.int i0), .val (.int i1), .val (.int i2), .val (.int i3), .val (.int v4), .val (.int v5), .val (.int v6), .val (.int v7), .val (.int v8), .val (.ref a1), .unset, .unset, .unset, .unset, .unset, .unset, .unset, .unset, .unset, .unset, .unset] [])) _
    refine XS.iload X.here hx rfl (hb hby at_68) rfl ?_
    show Steps p.tables e below (T.setTop (mkF m 70 #[.val (.int i0), .val (.int i1), .val (.int i2), .val (.int i3), .val (.int v4), .val (.int v5), .val (.int v6), .val (.int v7), .val (.int v8), .val (.ref a1), .unset, .unset, .unset, .unset, .unset, .unset, .unset, .unset, .unset, .unset, .unset] [(.int v7)])) _
    refine XS.ifNo X.here hx rfl (hb hby at_70) rfl ((if0 _ _).trans (feq hs).1) ?_
    show Steps p.tables e below (T.setTop (mkF m 73 #[.val (.int i0), .val (.int i1), .val (.int i2), .val (.int i3), .val (.int v4), .val (.int v5), .val (.int v6), .val (.int v7), .val (.int v8), .val (.ref a1), .unset, .unset, .unset, .unset, .unset, .unset, .unset, .unset, .unset, .unset, .unset] [])) _
    refine XS.aload X.here hx rfl (hb hby at_73) rfl rfl ?_
    exact st1 _ kt
set_option maxRecDepth 65536 in
set_option maxHeartbeats 40000000 in
theorem own_maybe2 {p : Program} {l : Launch} {e : Env} {s : State} {m : MethodId} {args : Array Value} {below : List Frame} {meth : Method} {c : Code} {T : State} {locs : List Loc} {Z : State} {a0 : Array Value}
    (X : Stand p l e room_1 s m args below meth c T locs 1 2) (hx : p.tables.exec = Jvm.exec) (hZ : Z.Warmed39 s.vm) (hw : ∀ d ∈ tables_1, d.before a0 Z = true) (hown : s.vm.findClass "com/example/antechamber/antechamber/TurnTookPinLaw" = some m.cls) {n0 : Nat} (N : Fr n0 locs) (Z0 : n0 ≤ T.heap.size) {a1 : Addr} (g_a1 : n0 ≤ a1) {w3 : Int32} {w5 : Int64} (E : Exa Z T.heap a1 "com/example/antechamber/antechamber/DatabaseSocket$Turn") (F : Fld Z T.heap a1 "com/example/antechamber/antechamber/DatabaseSocket$Turn" "answerDue" "Z" (.int w3)) (G : Fld Z T.heap a1 "com/example/antechamber/antechamber/DatabaseSocket$Turn" "answerBytes" "J" (.long w5)) (i0 i1 i2 i3 v4 v5 v6 v7 v8 : Int32) (v10 : Int32) (v11 : Int64) (hby : c.code = code) (hml : c.maxLocals = 21) :
    ∃ (T' : State) (L' : List Loc), Stand p l e room_1 s m args below meth c T' L' 1 2 ∧ Fr n0 L' ∧ n0 ≤ T'.heap.size ∧ (Exa Z T'.heap a1 "com/example/antechamber/antechamber/DatabaseSocket$Turn" ∧ Fld Z T'.heap a1 "com/example/antechamber/antechamber/DatabaseSocket$Turn" "answerDue" "Z" (.int (own_if v8 w3)) ∧ Fld Z T'.heap a1 "com/example/antechamber/antechamber/DatabaseSocket$Turn" "answerBytes" "J" (.long w5)) ∧
      ∀ target, Steps p.tables e below (T'.setTop (mkF m 170 #[.val (.int i0), .val (.int i1), .val (.int i2), .val (.int i3), .val (.int v4), .val (.int v5), .val (.int v6), .val (.int v7), .val (.int v8), .val (.ref a1), .val (.int v10), .val (.long v11), .second, .val (.int (1 : Int32)), .unset, .unset, .unset, .unset, .unset, .unset, .unset] [])) target → Steps p.tables e below (T.setTop (mkF m 160 #[.val (.int i0), .val (.int i1), .val (.int i2), .val (.int i3), .val (.int v4), .val (.int v5), .val (.int v6), .val (.int v7), .val (.int v8), .val (.ref a1), .val (.int v10), .val (.long v11), .second, .val (.int (1 : Int32)), .unset, .unset, .unset, .unset, .unset, .unset, .unset] [])) target := by
  by_cases hs : v8 = (0 : Int32)
  · rw [show own_if v8 w3 = w3 from if_pos hs]
    refine ⟨T, locs, X, N, Z0, ⟨E, F, G⟩, fun target kt => ?_⟩
    show Steps p.tables e below (T.setTop (mkF m 160 #[.val (.int i0), .val (.int i1), .val (.int i2), .val (.int i3), .val (.int v4), .val (.int v5), .val (.int v6), .val (.int v7), .val (.int v8), .val (.ref a1), .val (.int v10), .val (.long v11), .second, .val (.int (1 : Int32)), .unset, .unset, .unset, .unset, .unset, .unset, .unset] [])) _
    refine XS.iload X.here hx rfl (hb hby at_160) rfl ?_
    show Steps p.tables e below (T.setTop (mkF m 162 #[.val (.int i0), .val (.int i1), .val (.int i2), .val (.int i3), .val (.int v4), .val (.int v5), .val (.int v6), .val (.int v7), .val (.int v8), .val (.ref a1), .val (.int v10), .val (.long v11), .second, .val (.int (1 : Int32)), .unset, .unset, .unset, .unset, .unset, .unset, .unset] [(.int v8)])) _
    refine XS.ifYes X.here hx rfl (pc0 := 162) (pc' := 170) rfl (hb hby at_162) rfl ((if0 _ _).trans (teq hs).1) (by decide) (by decide) ?_
    exact kt
  · rw [show own_if v8 w3 = 1 from if_neg hs]
    obtain ⟨T1, L1, X1, N1, Z1, F1, st1⟩ := own_sent X hx hZ hw hown N Z0 g_a1 E F G (pc := 167) (Ls := #[.val (.int i0), .val (.int i1), .val (.int i2), .val (.int i3), .val (.int v4), .val (.int v5), .val (.int v6), .val (.int v7), .val (.int v8), .val (.ref a1), .val (.int v10), .val (.long v11), .second, .val (.int (1 : Int32)), .unset, .unset, .unset, .unset, .unset, .unset, .unset]) (by rw [hml]; rfl) (hb hby at_167)
    refine ⟨T1, L1, X1, N1, Z1, F1, fun target kt => ?_⟩
    show Steps p.tables e below (T.setTop (mkF m 160 #[.val (.int i0), .val (.int i1), .val (.int i2), .val (.int i3), .val (.int v4), .val (.int v5), .val (.int v6), .val (.int v7), .val (.int v8), .val (.ref a1), .val (.int v10), .val (.long v11), .second, .val (.int (1 : Int32)), .unset, .unset, .unset, .unset, .unset, .unset, .unset] [])) _
    refine XS.iload X.here hx rfl (hb hby at_160) rfl ?_
    show Steps p.tables e below (T.setTop (mkF m 162 #[.val (.int i0), .val (.int i1), .val (.int i2), .val (.int i3), .val (.int v4), .val (.int v5), .val (.int v6), .val (.int v7), .val (.int v8), .val (.ref a1), .val (.int v10), .val (.long v11), .second, .val (.int (1 : Int32)), .unset, .unset, .unset, .unset, .unset, .unset, .unset] [(.int v8)])) _
    refine XS.ifNo X.here hx rfl (hb hby at_162) rfl ((if0 _ _).trans (feq hs).1) ?_
    show Steps p.tables e below (T.setTop (mkF m 165 #[.val (.int i0), .val (.int i1), .val (.int i2), .val (.int i3), .val (.int v4), .val (.int v5), .val (.int v6), .val (.int v7), .val (.int v8), .val (.ref a1), .val (.int v10), .val (.long v11), .second, .val (.int (1 : Int32)), .unset, .unset, .unset, .unset, .unset, .unset, .unset] [])) _
    refine XS.aload X.here hx rfl (hb hby at_165) rfl rfl ?_
    exact st1 _ kt
set_option maxRecDepth 65536 in
set_option maxHeartbeats 40000000 in
theorem own_tail {p : Program} {l : Launch} {e : Env} {s : State} {m : MethodId} {args : Array Value} {below : List Frame} {meth : Method} {c : Code} {T : State} {locs : List Loc} {Z : State} {a0 : Array Value}
    (X : Stand p l e room_1 s m args below meth c T locs 1 2) (hx : p.tables.exec = Jvm.exec) (hZ : Z.Warmed39 s.vm) (hw : ∀ d ∈ tables_1, d.before a0 Z = true) (hown : s.vm.findClass "com/example/antechamber/antechamber/TurnTookPinLaw" = some m.cls) {n0 : Nat} (N : Fr n0 locs) (Z0 : n0 ≤ T.heap.size) {a1 : Addr} (g_a1 : n0 ≤ a1) {w3 : Int32} {w5 : Int64} (E : Exa Z T.heap a1 "com/example/antechamber/antechamber/DatabaseSocket$Turn") (F : Fld Z T.heap a1 "com/example/antechamber/antechamber/DatabaseSocket$Turn" "answerDue" "Z" (.int w3)) (G : Fld Z T.heap a1 "com/example/antechamber/antechamber/DatabaseSocket$Turn" "answerBytes" "J" (.long w5)) (i0 i1 i2 i3 v4 v5 v6 v7 v8 : Int32) (h7 : v7 = 0 ∨ v7 = 1) (h8 : v8 = 0 ∨ v8 = 1) (e3 : w3 = 0) (e5 : w5 = 0) (hby : c.code = code) (hml : c.maxLocals = 21) :
    ∃ (T' : State) (L' : List Loc) (Ls : Array Slot), Stand p l e room_1 s m args below meth c T' L' 1 2 ∧ Fr n0 L' ∧
      ∀ target, Steps p.tables e below (T'.setTop (mkF m 340 Ls [(.int (1 : Int32))])) target → Steps p.tables e below (T.setTop (mkF m 68 #[.val (.int i0), .val (.int i1), .val (.int i2), .val (.int i3), .val (.int v4), .val (.int v5), .val (.int v6), .val (.int v7), .val (.int v8), .val (.ref a1), .unset, .unset, .unset, .unset, .unset, .unset, .unset, .unset, .unset, .unset, .unset] [])) target := by
  subst e3 e5
  obtain ⟨T1, M1, X1, N1, Z1, ⟨E1, F1, G1⟩, st1⟩ := own_maybe1 X hx hZ hw hown N Z0 g_a1 E F G i0 i1 i2 i3 v4 v5 v6 v7 v8 hby hml
  rw [own_if_0 h7] at F1
  obtain ⟨T2, M2, X2, N2, Z2, ⟨E2, F2, G2⟩, st2⟩ := own_took v4 X1 hx hZ hw hown N1 Z1 g_a1 E1 F1 G1 (pc := 82) (Ls := #[.val (.int i0), .val (.int i1), .val (.int i2), .val (.int i3), .val (.int v4), .val (.int v5), .val (.int v6), .val (.int v7), .val (.int v8), .val (.ref a1), .unset, .unset, .unset, .unset, .unset, .unset, .unset, .unset, .unset, .unset, .unset]) (by rw [hml]; rfl) (hb hby at_82)
  obtain ⟨v10, q10⟩ : ∃ z, z = own_due v7 v4 := ⟨_, rfl⟩
  obtain ⟨v11, q11⟩ : ∃ z, z = own_by v7 0 v4 := ⟨_, rfl⟩
  have h10 : v10 = 0 ∨ v10 = 1 := q10 ▸ own_due_01 h7
  rw [← q10] at F2; rw [← q11] at G2
  have sg1 := sg_85 i0 i1 i2 i3 v4 v5 v6 v7 v8 a1 X2 hx hZ hw hby hown
  rw [own_and_due h7, ← q10] at sg1
  have sg2 := sg_102 i0 i1 i2 i3 v4 v5 v6 v7 v8 a1 v10 X2 hx hZ hw hby hown
  rw [own_b1_by v7, ← q11] at sg2
  obtain ⟨T3, M3, X3, N3, Z3, ⟨E3, F3, G3⟩, st3⟩ := own_asks X2 hx hZ hw hown N2 Z2 g_a1 E2 F2 G2 (pc := 118) (Ls := #[.val (.int i0), .val (.int i1), .val (.int i2), .val (.int i3), .val (.int v4), .val (.int v5), .val (.int v6), .val (.int v7), .val (.int v8), .val (.ref a1), .val (.int v10), .val (.long v11), .second, .unset, .unset, .unset, .unset, .unset, .unset, .unset, .unset]) (by rw [hml]; rfl) (hb hby at_118) h10
  obtain ⟨T4, M4, X4, N4, Z4, ⟨E4, F4, G4⟩, st4⟩ := own_paces X3 hx hZ hw hown N3 Z3 g_a1 E3 F3 G3 (pc := 128) (Ls := #[.val (.int i0), .val (.int i1), .val (.int i2), .val (.int i3), .val (.int v4), .val (.int v5), .val (.int v6), .val (.int v7), .val (.int v8), .val (.ref a1), .val (.int v10), .val (.long v11), .second, .unset, .unset, .unset, .unset, .unset, .unset, .unset, .unset]) (by rw [hml]; rfl) (hb hby at_128)
  have sg3 := sg_131 i0 i1 i2 i3 v4 v5 v6 v7 v8 a1 v10 v11 X4 hx hZ hw hby hown
  obtain ⟨T5, M5, X5, N5, Z5, ⟨E5, F5, G5⟩, st5⟩ := own_maybe2 X4 hx hZ hw hown N4 Z4 g_a1 E4 F4 G4 i0 i1 i2 i3 v4 v5 v6 v7 v8 v10 v11 hby hml
  obtain ⟨v14, q14⟩ : ∃ z, z = own_if v8 v10 := ⟨_, rfl⟩
  have h14 : v14 = 0 ∨ v14 = 1 := q14 ▸ own_if_01 h10
  rw [← q14] at F5
  have sg4 := sg_170 i0 i1 i2 i3 v4 v5 v6 v7 v8 a1 v10 v11 X5 hx hZ hw hby hown
  rw [own_or_if h10, ← q14] at sg4
  obtain ⟨T6, M6, X6, N6, Z6, ⟨E6, F6, G6⟩, st6⟩ := own_took v5 X5 hx hZ hw hown N5 Z5 g_a1 E5 F5 G5 (pc := 191) (Ls := #[.val (.int i0), .val (.int i1), .val (.int i2), .val (.int i3), .val (.int v4), .val (.int v5), .val (.int v6), .val (.int v7), .val (.int v8), .val (.ref a1), .val (.int v10), .val (.long v11), .second, .val (.int (1 : Int32)), .val (.int v14), .unset, .unset, .unset, .unset, .unset, .unset]) (by rw [hml]; rfl) (hb hby at_191)
  obtain ⟨v15, q15⟩ : ∃ z, z = own_due v14 v5 := ⟨_, rfl⟩
  obtain ⟨v16, q16⟩ : ∃ z, z = own_by v14 v11 v5 := ⟨_, rfl⟩
  have h15 : v15 = 0 ∨ v15 = 1 := q15 ▸ own_due_01 h14
  rw [← q15] at F6; rw [← q16] at G6
  have sg5 := sg_194 i0 i1 i2 i3 v4 v5 v6 v7 v8 a1 v10 v11 v14 X6 hx hZ hw hby hown
  rw [own_and_due h14, ← q15] at sg5
  have sg6 := sg_211 i0 i1 i2 i3 v4 v5 v6 v7 v8 a1 v10 v11 v14 v15 X6 hx hZ hw hby hown
  rw [← q16] at sg6
  obtain ⟨T7, M7, X7, N7, Z7, ⟨E7, F7, G7⟩, st7⟩ := own_took v6 X6 hx hZ hw hown N6 Z6 g_a1 E6 F6 G6 (pc := 244) (Ls := #[.val (.int i0), .val (.int i1), .val (.int i2), .val (.int i3), .val (.int v4), .val (.int v5), .val (.int v6), .val (.int v7), .val (.int v8), .val (.ref a1), .val (.int v10), .val (.long v11), .second, .val (.int (1 : Int32)), .val (.int v14), .val (.int v15), .val (.long v16), .second, .unset, .unset, .unset]) (by rw [hml]; rfl) (hb hby at_244)
  obtain ⟨v18, q18⟩ : ∃ z, z = own_due v15 v6 := ⟨_, rfl⟩
  obtain ⟨v19, q19⟩ : ∃ z, z = own_by v15 v16 v6 := ⟨_, rfl⟩
  have h18 : v18 = 0 ∨ v18 = 1 := q18 ▸ own_due_01 h15
  rw [← q18] at F7; rw [← q19] at G7
  have sg7 := sg_247 i0 i1 i2 i3 v4 v5 v6 v7 v8 a1 v10 v11 v14 v15 v16 X7 hx hZ hw hby hown
  rw [own_and_due h15, ← q18] at sg7
  have sg8 := sg_264 i0 i1 i2 i3 v4 v5 v6 v7 v8 a1 v10 v11 v14 v15 v16 v18 X7 hx hZ hw hby hown
  rw [← q19] at sg8
  obtain ⟨T8, M8, X8, N8, Z8, ⟨E8, F8, G8⟩, st8⟩ := own_asks X7 hx hZ hw hown N7 Z7 g_a1 E7 F7 G7 (pc := 300) (Ls := #[.val (.int i0), .val (.int i1), .val (.int i2), .val (.int i3), .val (.int v4), .val (.int v5), .val (.int v6), .val (.int v7), .val (.int v8), .val (.ref a1), .val (.int v10), .val (.long v11), .second, .val (.int (1 : Int32)), .val (.int v14), .val (.int v15), .val (.long v16), .second, .val (.int v18), .val (.long v19), .second]) (by rw [hml]; rfl) (hb hby at_300) h18
  obtain ⟨T9, M9, X9, N9, Z9, ⟨E9, F9, G9⟩, st9⟩ := own_paces X8 hx hZ hw hown N8 Z8 g_a1 E8 F8 G8 (pc := 310) (Ls := #[.val (.int i0), .val (.int i1), .val (.int i2), .val (.int i3), .val (.int v4), .val (.int v5), .val (.int v6), .val (.int v7), .val (.int v8), .val (.ref a1), .val (.int v10), .val (.long v11), .second, .val (.int (1 : Int32)), .val (.int v14), .val (.int v15), .val (.long v16), .second, .val (.int v18), .val (.long v19), .second]) (by rw [hml]; rfl) (hb hby at_310)
  have sg9 := sg_313 i0 i1 i2 i3 v4 v5 v6 v7 v8 a1 v10 v11 v14 v15 v16 v18 v19 X9 hx hZ hw hby hown
  refine ⟨T9, M9, #[.val (.int i0), .val (.int i1), .val (.int i2), .val (.int i3), .val (.int v4), .val (.int v5), .val (.int v6), .val (.int v7), .val (.int v8), .val (.ref a1), .val (.int v10), .val (.long v11), .second, .val (.int (1 : Int32)), .val (.int v14), .val (.int v15), .val (.long v16), .second, .val (.int v18), .val (.long v19), .second], X9, N9, fun target kt => ?_⟩
  refine st1 _ ?_
  show Steps p.tables e below (T1.setTop (mkF m 78 #[.val (.int i0), .val (.int i1), .val (.int i2), .val (.int i3), .val (.int v4), .val (.int v5), .val (.int v6), .val (.int v7), .val (.int v8), .val (.ref a1), .unset, .unset, .unset, .unset, .unset, .unset, .unset, .unset, .unset, .unset, .unset] [])) _
  refine XS.aload X1.here hx rfl (hb hby at_78) rfl rfl ?_
  show Steps p.tables e below (T1.setTop (mkF m 80 #[.val (.int i0), .val (.int i1), .val (.int i2), .val (.int i3), .val (.int v4), .val (.int v5), .val (.int v6), .val (.int v7), .val (.int v8), .val (.ref a1), .unset, .unset, .unset, .unset, .unset, .unset, .unset, .unset, .unset, .unset, .unset] [(.ref a1)])) _
  refine XS.iload X1.here hx rfl (hb hby at_80) rfl ?_
  refine st2 _ (sg1 _ (sg2 _ ?_))
  show Steps p.tables e below (T2.setTop (mkF m 116 #[.val (.int i0), .val (.int i1), .val (.int i2), .val (.int i3), .val (.int v4), .val (.int v5), .val (.int v6), .val (.int v7), .val (.int v8), .val (.ref a1), .val (.int v10), .val (.long v11), .second, .unset, .unset, .unset, .unset, .unset, .unset, .unset, .unset] [])) _
  refine XS.aload X2.here hx rfl (hb hby at_116) rfl rfl ?_
  refine st3 _ ?_
  show Steps p.tables e below (T3.setTop (mkF m 121 #[.val (.int i0), .val (.int i1), .val (.int i2), .val (.int i3), .val (.int v4), .val (.int v5), .val (.int v6), .val (.int v7), .val (.int v8), .val (.ref a1), .val (.int v10), .val (.long v11), .second, .unset, .unset, .unset, .unset, .unset, .unset, .unset, .unset] [(.int v10)])) _
  refine XS.iload X3.here hx rfl (hb hby at_121) rfl ?_
  show Steps p.tables e below (T3.setTop (mkF m 123 #[.val (.int i0), .val (.int i1), .val (.int i2), .val (.int i3), .val (.int v4), .val (.int v5), .val (.int v6), .val (.int v7), .val (.int v8), .val (.ref a1), .val (.int v10), .val (.long v11), .second, .unset, .unset, .unset, .unset, .unset, .unset, .unset, .unset] [(.int v10), (.int v10)])) _
  refine XS.icmpNo X3.here hx rfl (hb hby at_123) rfl (teq (rfl : v10 = v10)).2 ?_
  show Steps p.tables e below (T3.setTop (mkF m 126 #[.val (.int i0), .val (.int i1), .val (.int i2), .val (.int i3), .val (.int v4), .val (.int v5), .val (.int v6), .val (.int v7), .val (.int v8), .val (.ref a1), .val (.int v10), .val (.long v11), .second, .unset, .unset, .unset, .unset, .unset, .unset, .unset, .unset] [])) _
  refine XS.aload X3.here hx rfl (hb hby at_126) rfl rfl ?_
  refine st4 _ (sg3 _ (st5 _ (sg4 _ ?_)))
  show Steps p.tables e below (T5.setTop (mkF m 187 #[.val (.int i0), .val (.int i1), .val (.int i2), .val (.int i3), .val (.int v4), .val (.int v5), .val (.int v6), .val (.int v7), .val (.int v8), .val (.ref a1), .val (.int v10), .val (.long v11), .second, .val (.int (1 : Int32)), .val (.int v14), .unset, .unset, .unset, .unset, .unset, .unset] [])) _
  refine XS.aload X5.here hx rfl (hb hby at_187) rfl rfl ?_
  show Steps p.tables e below (T5.setTop (mkF m 189 #[.val (.int i0), .val (.int i1), .val (.int i2), .val (.int i3), .val (.int v4), .val (.int v5), .val (.int v6), .val (.int v7), .val (.int v8), .val (.ref a1), .val (.int v10), .val (.long v11), .second, .val (.int (1 : Int32)), .val (.int v14), .unset, .unset, .unset, .unset, .unset, .unset] [(.ref a1)])) _
  refine XS.iload X5.here hx rfl (hb hby at_189) rfl ?_
  refine st6 _ (sg5 _ (sg6 _ ?_))
  show Steps p.tables e below (T6.setTop (mkF m 240 #[.val (.int i0), .val (.int i1), .val (.int i2), .val (.int i3), .val (.int v4), .val (.int v5), .val (.int v6), .val (.int v7), .val (.int v8), .val (.ref a1), .val (.int v10), .val (.long v11), .second, .val (.int (1 : Int32)), .val (.int v14), .val (.int v15), .val (.long v16), .second, .unset, .unset, .unset] [])) _
  refine XS.aload X6.here hx rfl (hb hby at_240) rfl rfl ?_
  show Steps p.tables e below (T6.setTop (mkF m 242 #[.val (.int i0), .val (.int i1), .val (.int i2), .val (.int i3), .val (.int v4), .val (.int v5), .val (.int v6), .val (.int v7), .val (.int v8), .val (.ref a1), .val (.int v10), .val (.long v11), .second, .val (.int (1 : Int32)), .val (.int v14), .val (.int v15), .val (.long v16), .second, .unset, .unset, .unset] [(.ref a1)])) _
  refine XS.iload X6.here hx rfl (hb hby at_242) rfl ?_
  refine st7 _ (sg7 _ (sg8 _ ?_))
  show Steps p.tables e below (T7.setTop (mkF m 293 #[.val (.int i0), .val (.int i1), .val (.int i2), .val (.int i3), .val (.int v4), .val (.int v5), .val (.int v6), .val (.int v7), .val (.int v8), .val (.ref a1), .val (.int v10), .val (.long v11), .second, .val (.int (1 : Int32)), .val (.int v14), .val (.int v15), .val (.long v16), .second, .val (.int v18), .val (.long v19), .second] [])) _
  refine XS.iload X7.here hx rfl (hb hby at_293) rfl ?_
  show Steps p.tables e below (T7.setTop (mkF m 295 #[.val (.int i0), .val (.int i1), .val (.int i2), .val (.int i3), .val (.int v4), .val (.int v5), .val (.int v6), .val (.int v7), .val (.int v8), .val (.ref a1), .val (.int v10), .val (.long v11), .second, .val (.int (1 : Int32)), .val (.int v14), .val (.int v15), .val (.long v16), .second, .val (.int v18), .val (.long v19), .second] [(.int (1 : Int32))])) _
  refine XS.ifNo X7.here hx rfl (hb hby at_295) rfl ((if0 _ _).trans (feq (by decide : ¬ ((1 : Int32) = (0 : Int32)))).1) ?_
  show Steps p.tables e below (T7.setTop (mkF m 298 #[.val (.int i0), .val (.int i1), .val (.int i2), .val (.int i3), .val (.int v4), .val (.int v5), .val (.int v6), .val (.int v7), .val (.int v8), .val (.ref a1), .val (.int v10), .val (.long v11), .second, .val (.int (1 : Int32)), .val (.int v14), .val (.int v15), .val (.long v16), .second, .val (.int v18), .val (.long v19), .second] [])) _
  refine XS.aload X7.here hx rfl (hb hby at_298) rfl rfl ?_
  refine st8 _ ?_
  show Steps p.tables e below (T8.setTop (mkF m 303 #[.val (.int i0), .val (.int i1), .val (.int i2), .val (.int i3), .val (.int v4), .val (.int v5), .val (.int v6), .val (.int v7), .val (.int v8), .val (.ref a1), .val (.int v10), .val (.long v11), .second, .val (.int (1 : Int32)), .val (.int v14), .val (.int v15), .val (.long v16), .second, .val (.int v18), .val (.long v19), .second] [(.int v18)])) _
  refine XS.iload X8.here hx rfl (hb hby at_303) rfl ?_
  show Steps p.tables e below (T8.setTop (mkF m 305 #[.val (.int i0), .val (.int i1), .val (.int i2), .val (.int i3), .val (.int v4), .val (.int v5), .val (.int v6), .val (.int v7), .val (.int v8), .val (.ref a1), .val (.int v10), .val (.long v11), .second, .val (.int (1 : Int32)), .val (.int v14), .val (.int v15), .val (.long v16), .second, .val (.int v18), .val (.long v19), .second] [(.int v18), (.int v18)])) _
  refine XS.icmpNo X8.here hx rfl (hb hby at_305) rfl (teq (rfl : v18 = v18)).2 ?_
  show Steps p.tables e below (T8.setTop (mkF m 308 #[.val (.int i0), .val (.int i1), .val (.int i2), .val (.int i3), .val (.int v4), .val (.int v5), .val (.int v6), .val (.int v7), .val (.int v8), .val (.ref a1), .val (.int v10), .val (.long v11), .second, .val (.int (1 : Int32)), .val (.int v14), .val (.int v15), .val (.long v16), .second, .val (.int v18), .val (.long v19), .second] [])) _
  refine XS.aload X8.here hx rfl (hb hby at_308) rfl rfl ?_
  refine st9 _ (sg9 _ kt)
theorem pn_0 : plainName "com/example/antechamber/antechamber/TurnTookPinLaw" = true := by first | (simp [plainName, overriddenIn]; done) | decide +kernel
theorem ef_0 (m : MethodId) (i0 i1 i2 i3 : Int32) : entryFrame m #[(.int i0), (.int i1), (.int i2), (.int i3)] maxLocals = (mkF m 0 #[.val (.int i0), .val (.int i1), .val (.int i2), .val (.int i3), .unset, .unset, .unset, .unset, .unset, .unset, .unset, .unset, .unset, .unset, .unset, .unset, .unset, .unset, .unset, .unset, .unset] []) := by first | (simp [entryFrame, mkF, argsToLocals, Value.category, maxLocals]; done) | rfl
def Q0 (n0 : Nat) (v : Option Value) (L : List Loc) : Prop := v = some (.int (1 : Int32)) ∧ Fr n0 L
set_option maxRecDepth 65536 in
set_option maxHeartbeats 40000000 in
theorem rm0 (l : Launch) (Z : State) (a0 : Array Value) (hw : ∀ d ∈ tables_1, d.before a0 Z = true) (ws : List Jvm.Cond) (i0 i1 i2 i3 : Int32) (h0 : Heap) (n0 : Nat) (Z0 : n0 ≤ h0.size) :
    MetFree l x (head1 (Jvm.Cond.code x code maxLocals ret :: ws) room_1) (fun a U => a = #[(.int i0), (.int i1), (.int i2), (.int i3)] ∧ Z.Warmed39 U.vm ∧ U.heap = h0) (fun _ _ _ _ _ => True) (fun _ U o U' => ∃ v L, o = .returned v ∧ Q0 n0 v L ∧ FrameEnd U o U' L room_1.cells room_1.slots) := by
  refine MetFree.of_bodySF (plainFor_of_name pn_0) hisR ?_
  intro p e s m args below meth c s₁ Bd hml0 hP hK
  obtain ⟨rfl, hZ, hh⟩ := hP
  have hx := Bd.exec
  have hby := Bd.bytes
  have hml : c.maxLocals = 21 := hml0
  have hown : s.vm.findClass "com/example/antechamber/antechamber/TurnTookPinLaw" = some m.cls := findClass_of_methodNamed Bd.named
  have X0 : Stand p l e room_1 s m #[(.int i0), (.int i1), (.int i2), (.int i3)] below meth c s₁ [] 0 0 := Stand.of_body Bd
  have e0 : s₁.heap = h0 := by rw [← hh, Bd.state]; rfl
  have N0 := Fr.nil n0
  have pre0 : ∀ t, Steps p.tables e below (s₁.setTop (mkF m 0 #[.val (.int i0), .val (.int i1), .val (.int i2), .val (.int i3), .unset, .unset, .unset, .unset, .unset, .unset, .unset, .unset, .unset, .unset, .unset, .unset, .unset, .unset, .unset, .unset, .unset] [])) t → Steps p.tables e below (s₁.setTop (entryFrame m #[(.int i0), (.int i1), (.int i2), (.int i3)] maxLocals)) t := fun t k => castTop (ef_0 m i0 i1 i2 i3) k
  obtain ⟨v4, qv4⟩ : ∃ z, z = (own_nrm i0) := ⟨_, rfl⟩
  obtain ⟨v5, qv5⟩ : ∃ z, z = (own_nrm i1) := ⟨_, rfl⟩
  obtain ⟨v6, qv6⟩ : ∃ z, z = (own_nrm i2) := ⟨_, rfl⟩
  obtain ⟨v7, qv7⟩ : ∃ z, z = (own_bit (i3 &&& (1 : Int32))) := ⟨_, rfl⟩
  obtain ⟨v8, qv8⟩ : ∃ z, z = (own_bit (i3 &&& (2 : Int32))) := ⟨_, rfl⟩
  have h7 : v7 = 0 ∨ v7 = 1 := qv7 ▸ own_bit_01 _
  have h8 : v8 = 0 ∨ v8 = 1 := qv8 ▸ own_bit_01 _
  have sg1 := sg_0 i0 i1 i2 i3 X0 hx hZ hw hby hown
  rw [← qv4] at sg1
  have sg2 := sg_11 i0 i1 i2 i3 v4 X0 hx hZ hw hby hown
  rw [← qv5] at sg2
  have sg3 := sg_22 i0 i1 i2 i3 v4 v5 X0 hx hZ hw hby hown
  rw [← qv6] at sg3
  have sg4 := sg_33 i0 i1 i2 i3 v4 v5 v6 X0 hx hZ hw hby hown
  rw [← qv7] at sg4
  have sg5 := sg_46 i0 i1 i2 i3 v4 v5 v6 v7 X0 hx hZ hw hby hown
  rw [← qv8] at sg5
  obtain ⟨T1, h1, X1, e1, E1, A1, D1, -, st1⟩ := newO X0 hx hZ hown (hw _ (List.mem_of_getElem? (i := 0) rfl)) (hw _ (List.mem_of_getElem? (i := 1) rfl)) (hw _ (List.mem_of_getElem? (i := 2) rfl)) e0 (g := (mkF m 59 #[.val (.int i0), .val (.int i1), .val (.int i2), .val (.int i3), .val (.int v4), .val (.int v5), .val (.int v6), .val (.int v7), .val (.int v8), .unset, .unset, .unset, .unset, .unset, .unset, .unset, .unset, .unset, .unset, .unset, .unset] [])) rfl (hb hby at_59) (by decide) (by decide)
  obtain ⟨a1, g1⟩ : ∃ z, z = h0.size := ⟨_, rfl⟩
  rw [← g1] at A1 D1 st1
  have F1 : Fld Z h1 a1 "com/example/antechamber/antechamber/DatabaseSocket$Turn" "answerDue" "Z" (.int (0 : Int32)) := D1 (Or.inl (hw _ (List.mem_of_getElem? (i := 15) rfl))) (ty := .boolean) (by decide)
  have G1 : Fld Z h1 a1 "com/example/antechamber/antechamber/DatabaseSocket$Turn" "answerBytes" "J" (.long (0 : Int64)) := D1 (Or.inl (hw _ (List.mem_of_getElem? (i := 32) rfl))) (ty := .long) (by decide)
  have g_a1 : n0 ≤ a1 := Nat.le_trans Z0 (Nat.le_of_eq g1.symm)
  have Z1 : n0 ≤ h1.size := Nat.le_trans Z0 E1.1
  obtain ⟨_, _, ⟨T2, L2, k2, n2⟩, -, X2, ⟨Lc2, hQ2, l2, y2, z2⟩, st2⟩ := X1.specialBack hx (y := (⟨"com/example/antechamber/antechamber/DatabaseSocket$Turn", "<init>", "()V"⟩ : MethodName)) rfl hown (mvT hZ (hw _ (List.mem_of_getElem? (i := 3) rfl))) (mvT hZ (hw _ (List.mem_of_getElem? (i := 4) rfl))) (mvT hZ (hw _ (List.mem_of_getElem? (i := 5) rfl))) (by decide) (backOf (W := 1) (rm1 l Z a0 hw [] a1 h1 n0 Z1) hZ (hw _ (List.mem_of_getElem? (i := 5) rfl)) (hw _ (List.mem_of_getElem? (i := 2) rfl)) (by decide) (by decide)) (g := (mkF m 63 #[.val (.int i0), .val (.int i1), .val (.int i2), .val (.int i3), .val (.int v4), .val (.int v5), .val (.int v6), .val (.int v7), .val (.int v8), .unset, .unset, .unset, .unset, .unset, .unset, .unset, .unset, .unset, .unset, .unset, .unset] [(.ref a1), (.ref a1)])) rfl (by rw [hml]; rfl) (Steps.refl _) (a := a1) (argsL := []) (rest := [(.ref a1)]) (lenOf pd0 rfl) rfl (by show 2 * 0 + _ ≤ _; exact Nat.le_of_eq rfl) (hb hby at_63) (fun _ _ => ⟨rfl, e1, (by decide : 1 + 0 ≤ _), (by decide : 2 + 0 ≤ _)⟩)
  dsimp only [Pt.U, Pt.locs, Pt.cells, Pt.slots] at X2 l2 y2 z2 st2 hQ2
  subst l2 y2 z2
  obtain ⟨rfl, N2q, e2⟩ := hQ2
  have N2 := Fr.app N0 N2q
  obtain ⟨T3, M3, Lz, X3, N3, st3⟩ := own_tail X2 hx hZ hw hown N2 (e2 ▸ Z1) g_a1 (e2 ▸ A1) (e2 ▸ F1) (e2 ▸ G1) i0 i1 i2 i3 v4 v5 v6 v7 v8 h7 h8 rfl rfl hby hml
  obtain ⟨fs, hr, hrun, hended, hW, hsame⟩ := X3.leave (v := some (.int (1 : Int32))) (fun h => by rw [Bd.returns] at h; cases h)
  refine ⟨_, _, pre0 _ ?_, hrun, hended, _, _, rfl, ⟨rfl, N3⟩, ⟨_, rfl⟩, hW, hsame.mono (by decide) (by decide)⟩
  refine sg1 _ (sg2 _ (sg3 _ (sg4 _ (sg5 _ ?_))))
  refine st1 _ ?_
  show Steps p.tables e below (T1.setTop (mkF m 62 #[.val (.int i0), .val (.int i1), .val (.int i2), .val (.int i3), .val (.int v4), .val (.int v5), .val (.int v6), .val (.int v7), .val (.int v8), .unset, .unset, .unset, .unset, .unset, .unset, .unset, .unset, .unset, .unset, .unset, .unset] [(.ref a1)])) _
  refine XS.dup X1.here hx rfl (hb hby at_62) rfl rfl ?_
  refine st2.trans ?_
  show Steps p.tables e below (T2.setTop (mkF m 66 #[.val (.int i0), .val (.int i1), .val (.int i2), .val (.int i3), .val (.int v4), .val (.int v5), .val (.int v6), .val (.int v7), .val (.int v8), .unset, .unset, .unset, .unset, .unset, .unset, .unset, .unset, .unset, .unset, .unset, .unset] [(.ref a1)])) _
  refine XS.astore X2.here hx rfl (hb hby at_66) rfl rfl (l' := #[.val (.int i0), .val (.int i1), .val (.int i2), .val (.int i3), .val (.int v4), .val (.int v5), .val (.int v6), .val (.int v7), .val (.int v8), .val (.ref a1), .unset, .unset, .unset, .unset, .unset, .unset, .unset, .unset, .unset, .unset, .unset]) rfl ?_
  refine st3 _ ?_
  exact retN X3 hx (t := .boolean) Bd.returns (by simp) (hb hby at_340) hr
set_option maxRecDepth 65536 in
set_option maxHeartbeats 40000000 in
theorem comes_1 {Post : Tables → Env → Array Value → State → Outcome → State → Prop} (hpost : ∀ tb e args s v u, (limb_1_1.after args s (.returned v) u = true ∧ limb_1_2.after args s (.returned v) u = true ∧ True) → FrameEnd s (.returned v) u (Jvm.fieldLocs frame_1_writes args s ++ Jvm.arrayLocs frame_1_arrays args s ++ Jvm.staticLocs frame_1_statics s) 16 128 → Post tb e args s (.returned v) u) :
    ArmFor flags0 classFile x code maxLocals ret World_1 tables_1 room_1 Calls_1 rest_1 Pre_1 Post := by
  intro l hfl _ _ p e ha hc hk s m args below hf hA hF happ hP
  obtain ⟨hcalls, hrest, hpre⟩ := hP
  obtain ⟨-, -, -, hnamed, -, -, -, hat⟩ := (Spec.applies_iff hf).mp happ
  obtain ⟨hg, hn⟩ := and_e (Cond.before_iff.mp (show (Jvm.Cond.and given_1 narrow_1).before args s = true from hpre))
  obtain ⟨h1, h2⟩ := and_e hg
  obtain ⟨w0, w1, w2, w3, rfl⟩ : ∃ w0 w1 w2 w3 : Value, args = #[w0, w1, w2, w3] := by
    have hs : args.size = 4 := by simpa [Cond.value, given_1] using h1
    obtain ⟨L⟩ := args
    match L, hs with
    | [w0, w1, w2, w3], _ => exact ⟨w0, w1, w2, w3, rfl⟩
  have hw := fun d (hd : d ∈ tables_1) => atoms_spec (ws := Jvm.Cond.code x code maxLocals ret :: tables_1) hat d (List.mem_cons_of_mem _ hd)
  obtain ⟨h3, h4⟩ := and_e h2
  obtain ⟨h5, h6⟩ := and_e h4
  obtain ⟨h7, h8⟩ := and_e h6
  obtain ⟨i0, e0⟩ := is_v h3
  obtain rfl : w0 = (.int i0) := Option.some.inj e0
  obtain ⟨i1, e1⟩ := is_v h5
  obtain rfl : w1 = (.int i1) := Option.some.inj e1
  obtain ⟨i2, e2⟩ := is_v h7
  obtain rfl : w2 = (.int i2) := Option.some.inj e2
  obtain ⟨i3, e3⟩ := is_v h8
  obtain rfl : w3 = (.int i3) := Option.some.inj e3
  obtain ⟨n, o, h1, h2, h3, _, L, rfl, ⟨rfl, N⟩, hq⟩ := rm0 l s _ hw tables_1 i0 i1 i2 i3 s.heap s.heap.size (Nat.le_refl _) p e ha hc hk s m _ below hf ((Spec.applies_iff_loose hf).mp happ).1 ⟨rfl, State.Warmed39.refl s, rfl⟩ trivial
  refine ⟨n, _, h1, h2, h3, hpost _ _ _ _ _ _ ⟨Cond.after_iff.mpr rfl, Cond.after_iff.mpr (eq_i res_at (Term.int_eval (1)) rfl), trivial⟩ ⟨hq.1, hq.2.1, (hq.2.2.sift fun y hy => Or.inr (N y hy)).mono (by decide) (by decide)⟩⟩
theorem main_1_1 : Claimed_1_1 := comes_1 fun _ _ _ _ _ _ h hF => ⟨h.1, hF⟩
theorem main_1_2 : Claimed_1_2 := comes_1 fun _ _ _ _ _ _ h hF => ⟨h.2.1, hF⟩
end Jvm.Pilot.@@N@@
namespace Jvm.Pilot.@@N@@
open Jvm Jvm.ClassFile Sem Op Lib Jvm.Free Jvm.Stand Jvm.Pilot.@@N@@.Jvm.D
/-! MADE BY PROGRAM (witnessworld.py) out of the Statement's table words and the real class files: 9 classes; the members and pool entries that the words name. The judged class is class 1, her method 1. -/
namespace start1
open Jvm.ClassFile
def u (s : String) : CpInfo := .utf8 (stringToUtf16 s)
/-- a pool by its gaps: so many unusable entries, then the entry; so many at the end -/
def gap : Nat → List CpInfo → List CpInfo
  | 0, r => r
  | n + 1, r => .unusable :: gap n r
def poolList (es : List (Nat × CpInfo)) (last : Nat) : List CpInfo := es.foldr (fun e r => gap e.1 (e.2 :: r)) (gap last [])
def pool (es : List (Nat × CpInfo)) (last : Nat) : Array CpInfo := ⟨poolList es last⟩
def fileOf (pool : Array CpInfo) (this : Nat) (attrs : Array Attribute := #[]) (ms : Array MethodInfo := #[]) (fl : Nat := 33) (sup : Nat := 0) (ifs : Array Nat := #[]) (fds : Array FieldInfo := #[]) : ClassFile where
  minorVersion := 0
  majorVersion := 65
  constantPool := pool
  accessFlags := fl
  thisClass := this
  superClass := sup
  interfaces := ifs
  fields := fds
  methods := ms
  attributes := attrs
def plain (name : String) (sup : Option ClassId) : Class where
  name := name
  kind := .ordinary
  loader := none
  accessFlags := 33
  super := sup
  interfaces := #[]
  cf := none
  fields := #[]
  methods := #[]
  instanceTypes := #[]
  staticTypes := #[]
  resolved := #[]
  callSites := []
  init := .initialized
  statics := none
  mirror := none

def pool0 : Array CpInfo := pool [(5, u "<init>"), (0, u "()V"), (1, .class_ 10), (1, u "java/lang/Object")] 113

def k0c0 : Code := { maxStack := 0, maxLocals := 1, code := object_method_1_code, exceptionTable := #[], attributes := #[] }
def k0m0 : Method := { name := "<init>", desc := "()V", sig := { parameters := [], returnType := none }, accessFlags := 1, code := some k0c0 }
/-- java/lang/Object -/
def k0 : Class := { plain "java/lang/Object" none with
  accessFlags := 33
  interfaces := #[]
  cf := some (fileOf pool0 8 #[] #[{ accessFlags := 1, nameIndex := 5, descriptorIndex := 6, attributes := #[] }] 33 0 #[] #[])
  fields := #[]
  methods := #[k0m0]
  instanceTypes := #[]
  staticTypes := #[]
  resolved := Array.replicate 124 none
  statics := none }

def pool1 : Array CpInfo := pool [(2, .class_ 4), (0, .nameAndType 5 6), (0, u "java/lang/Object"), (0, u "<init>"), (0, u "()V"), (0, .class_ 8), (0, u "com/example/antechamber/antechamber/DatabaseSocket$Turn"), (0, .methodref 7 3), (0, .methodref 7 11), (0, .nameAndType 12 6), (0, u "sent"), (0, .methodref 7 14), (0, .nameAndType 15 16), (0, u "took"), (0, u "(I)V"), (0, .methodref 7 18), (0, .nameAndType 19 20), (0, u "answerDue"), (0, u "()Z"), (0, .methodref 7 22), (0, .nameAndType 23 20), (0, u "paces"), (0, .long 65536), (1, .class_ 27), (0, u "com/example/antechamber/antechamber/TurnTookPinLaw"), (2, u "law"), (0, u "(IIII)Z")] 7

def k1m0 : Method := { name := "<init>", desc := "()V", sig := { parameters := [], returnType := none }, accessFlags := 1, code := none }
def k1c1 : Code := { maxStack := 5, maxLocals := 21, code := code, exceptionTable := #[], attributes := #[] }
def k1m1 : Method := { name := "law", desc := "(IIII)Z", sig := { parameters := [.int, .int, .int, .int], returnType := some .boolean }, accessFlags := 9, code := some k1c1 }
/-- com/example/antechamber/antechamber/TurnTookPinLaw -/
def k1 : Class := { plain "com/example/antechamber/antechamber/TurnTookPinLaw" (some 0) with
  accessFlags := 49
  interfaces := #[]
  cf := some (fileOf pool1 26 #[] #[{ accessFlags := 1, nameIndex := 5, descriptorIndex := 6, attributes := #[] }, { accessFlags := 9, nameIndex := 30, descriptorIndex := 31, attributes := #[] }] 49 2 #[] #[])
  fields := #[]
  methods := #[k1m0, k1m1]
  instanceTypes := #[]
  staticTypes := #[]
  resolved := Array.replicate 39 none
  statics := none }

def pool2 : Array CpInfo := pool [(1, .methodref 2 3), (0, .class_ 4), (0, .nameAndType 5 6), (0, u "java/lang/Object"), (0, u "<init>"), (0, u "()V"), (0, .fieldref 8 9), (0, .class_ 10), (0, .nameAndType 11 12), (0, u "com/example/antechamber/antechamber/DatabaseSocket$Turn"), (0, u "answerDue"), (0, u "Z"), (0, .fieldref 8 14), (0, .nameAndType 15 16), (0, u "answerBytes"), (0, u "J"), (0, .long 65536), (28, u "()Z"), (6, u "LONG_ANSWER_BYTES"), (0, u "I"), (2, u "PAUSE_MICROS"), (2, u "sent"), (0, u "took"), (0, u "(I)V"), (1, u "paces"), (4, .class_ 70), (0, u "com/example/antechamber/antechamber/DatabaseSocket")] 2

def k2c0 : Code := { maxStack := 1, maxLocals := 1, code := prog_14_method_1_code, exceptionTable := #[], attributes := #[] }
def k2m0 : Method := { name := "<init>", desc := "()V", sig := { parameters := [], returnType := none }, accessFlags := 0, code := some k2c0 }
def k2c1 : Code := { maxStack := 2, maxLocals := 1, code := prog_14_method_2_code, exceptionTable := #[], attributes := #[] }
def k2m1 : Method := { name := "sent", desc := "()V", sig := { parameters := [], returnType := none }, accessFlags := 0, code := some k2c1 }
def k2c2 : Code := { maxStack := 1, maxLocals := 1, code := prog_14_method_3_code, exceptionTable := #[], attributes := #[] }
def k2m2 : Method := { name := "answerDue", desc := "()Z", sig := { parameters := [], returnType := some .boolean }, accessFlags := 0, code := some k2c2 }
def k2c3 : Code := { maxStack := 5, maxLocals := 2, code := prog_14_method_4_code, exceptionTable := #[], attributes := #[] }
def k2m3 : Method := { name := "took", desc := "(I)V", sig := { parameters := [.int], returnType := none }, accessFlags := 0, code := some k2c3 }
def k2c4 : Code := { maxStack := 4, maxLocals := 1, code := prog_14_method_5_code, exceptionTable := #[], attributes := #[] }
def k2m4 : Method := { name := "paces", desc := "()Z", sig := { parameters := [], returnType := some .boolean }, accessFlags := 0, code := some k2c4 }
/-- com/example/antechamber/antechamber/DatabaseSocket$Turn -/
def k2 : Class := { plain "com/example/antechamber/antechamber/DatabaseSocket$Turn" (some 0) with
  accessFlags := 48
  interfaces := #[]
  cf := some (fileOf pool2 8 #[.nestHost 69] #[{ accessFlags := 0, nameIndex := 5, descriptorIndex := 6, attributes := #[] }, { accessFlags := 0, nameIndex := 60, descriptorIndex := 6, attributes := #[] }, { accessFlags := 0, nameIndex := 11, descriptorIndex := 46, attributes := #[] }, { accessFlags := 0, nameIndex := 61, descriptorIndex := 62, attributes := #[] }, { accessFlags := 0, nameIndex := 64, descriptorIndex := 46, attributes := #[] }] 48 2 #[] #[{ accessFlags := 24, nameIndex := 53, descriptorIndex := 54, attributes := #[] }, { accessFlags := 24, nameIndex := 57, descriptorIndex := 16, attributes := #[] }, { accessFlags := 66, nameIndex := 11, descriptorIndex := 12, attributes := #[] }, { accessFlags := 2, nameIndex := 15, descriptorIndex := 16, attributes := #[] }])
  fields := #[{ name := "LONG_ANSWER_BYTES", type := .int, accessFlags := 24, slot := 0, constantValue := 0 }, { name := "PAUSE_MICROS", type := .long, accessFlags := 24, slot := 1, constantValue := 0 }, { name := "answerDue", type := .boolean, accessFlags := 66, slot := 0, constantValue := 0 }, { name := "answerBytes", type := .long, accessFlags := 2, slot := 1, constantValue := 0 }]
  methods := #[k2m0, k2m1, k2m2, k2m3, k2m4]
  instanceTypes := #[.boolean, .long]
  staticTypes := #[.int, .long]
  resolved := Array.replicate 73 none
  statics := none }

def pool3 : Array CpInfo := pool [(1, u "java/lang/Cloneable"), (0, .class_ 1), (0, u "java/lang/Object"), (0, .class_ 3)] 3

/-- java/lang/Cloneable -/
def k3 : Class := { plain "java/lang/Cloneable" (some 0) with
  accessFlags := 1537
  interfaces := #[]
  cf := some (fileOf pool3 2 #[] #[] 1537 4 #[] #[])
  fields := #[]
  methods := #[]
  instanceTypes := #[]
  staticTypes := #[]
  resolved := Array.replicate 8 none
  statics := none }

def pool4 : Array CpInfo := pool [(1, u "java/io/Serializable"), (0, .class_ 1), (0, u "java/lang/Object"), (0, .class_ 3)] 3

/-- java/io/Serializable -/
def k4 : Class := { plain "java/io/Serializable" (some 0) with
  accessFlags := 1537
  interfaces := #[]
  cf := some (fileOf pool4 2 #[] #[] 1537 4 #[] #[])
  fields := #[]
  methods := #[]
  instanceTypes := #[]
  staticTypes := #[]
  resolved := Array.replicate 8 none
  statics := none }

/-- the primitive byte -/
def k5 : Class := { plain "byte" none with kind := .primitive 'B', accessFlags := 0x411 }
/-- [B -/
def k6 : Class := { plain "[B" (some 0) with kind := .array 5 .byte, interfaces := #[3, 4], accessFlags := 1041 }

/-- the primitive int -/
def k7 : Class := { plain "int" none with kind := .primitive 'I', accessFlags := 0x411 }
/-- [I -/
def k8 : Class := { plain "[I" (some 0) with kind := .array 7 .int, interfaces := #[3, 4], accessFlags := 1041 }

def heap : Heap := #[]
def classes : Array Class := #[k0, k1, k2, k3, k4, k5, k6, k7, k8]
def interned : List (Array UInt16 × Addr) := []
def slotsUsed : Nat := 0
def theMethod : MethodId := ⟨1, 1⟩
def args0 : Array Value := #[.int 5, .int 0, .int 70000, .int 3]
def aboutOver (below : List Frame) : State where
  vm := { classes := classes, interned := interned.toArray }
  heap := heap
  slotsUsed := slotsUsed
  threads := #[{ frames := .invoking theMethod args0 :: below }]
def below0 : List Frame := [.native { method := ⟨0, 0⟩, args := #[] }]
def about1 : State := aboutOver below0
def p0 : Program := .bare "" "" ""
def e0 : Env := launch0.env 0 0 0
theorem w_frames : about1.frames = Frame.invoking theMethod args0 :: below0 := rfl
set_option maxRecDepth 65536 in
theorem w_args : argsFit about1.vm theMethod args0 = true := by decide +kernel
set_option maxRecDepth 65536 in
theorem w_heap : heapFits about1 = true := by decide +kernel
set_option maxRecDepth 65536 in
theorem w_runnable : about1.curStatus? = some .runnable := by decide +kernel
set_option maxRecDepth 65536 in
theorem w_alone : about1.alone = true := by decide +kernel
set_option maxRecDepth 65536 in
theorem w_named : about1.methodNamed? x = some theMethod := by decide +kernel
set_option maxRecDepth 65536 in
theorem w_hears : about1.hears theMethod below0 = true := by decide +kernel
set_option maxRecDepth 65536 in
theorem w_ripe : about1.ripe theMethod args0 below0 = true := by decide +kernel
theorem w_running : about1.status = .running := rfl
set_option maxRecDepth 65536 in
theorem w_room : about1.hasRoom e0.platform room_1 = true :=
  launch0.hasRoom_least _ room_1 (by decide +kernel) (by decide +kernel) (by decide +kernel) (by decide +kernel) (by decide +kernel) (by decide +kernel)
theorem allAtoms_all (ts : List Jvm.Cond) (a : Array Jvm.Value) (st : Jvm.State) : (allAtoms ts).before a st = ts.all (fun c => c.before a st) := by
  induction ts with
  | nil => rfl
  | cons c t ih =>
    show (Jvm.Cond.and c (allAtoms t)).before a st = _
    rw [Jvm.Cond.before_and, ih, List.all_cons]
def words1 : List Jvm.Cond := Jvm.Cond.code x code maxLocals ret :: tables_1
/-- a 'code' word, met by the world's own term for the bytes: nothing is compared byte by byte -/
theorem code_word {y : MethodName} {bytes : ByteArray} {mx : Nat} {rt : Option FieldType} {a : Array Value} {s : State} {m : MethodId} {meth : Method} {c : Code} (h1 : s.methodNamed? y = some m) (h2 : s.vm.method? m = some meth) (h3 : meth.code = some c) (h4 : c.code = bytes)
    (h5 : (c.maxLocals == mx && c.exceptionTable.isEmpty && decide (c.maxStack ≤ mostOperands) && decide (meth.sig.returnType = rt) && !meth.locks && decide (parseMethodDescriptor y.desc = some meth.sig)) = true) : (Jvm.Cond.code y bytes mx rt).before a s = true := by
  simp only [Bool.and_eq_true, beq_iff_eq, Bool.not_eq_true', decide_eq_true_eq] at h5
  obtain ⟨⟨⟨⟨⟨g1, g2⟩, g3⟩, g4⟩, g5⟩, g6⟩ := h5
  simp [Cond.before, Cond.holds, Cond.value, h1, h2, h3, h4, g1, g2, g3, g4, g5, g6]
def isCode : Jvm.Cond → Bool
  | .code _ _ _ _ => true
  | _ => false
theorem all_split {L : List Jvm.Cond} {P : Jvm.Cond → Bool} (h1 : L.all (fun c => isCode c || P c) = true) (h2 : ∀ c ∈ L.filter isCode, P c = true) : L.all P = true := by
  refine List.all_eq_true.mpr fun c hc => ?_
  have h := List.all_eq_true.mp h1 c hc
  rcases Bool.eq_false_or_eq_true (isCode c) with hi | hi
  · exact h2 c (List.mem_filter.mpr ⟨hc, hi⟩)
  · simpa [hi] using h
set_option maxRecDepth 65536 in
theorem w_c0 : (Jvm.Cond.code x code maxLocals ret).before args0 about1 = true := code_word (m := ⟨1, 1⟩) (meth := k1m1) (c := k1c1) (by decide +kernel) rfl rfl rfl (by decide +kernel)
set_option maxRecDepth 65536 in
theorem w_c1 : (Jvm.Cond.code ({ cls := "com/example/antechamber/antechamber/DatabaseSocket$Turn", name := "<init>", desc := "()V" } : Jvm.MethodName) prog_14_method_1_code (1 : Nat) (Option.none : Option Jvm.ClassFile.FieldType)).before args0 about1 = true := code_word (m := ⟨2, 0⟩) (meth := k2m0) (c := k2c0) (by decide +kernel) rfl rfl rfl (by decide +kernel)
set_option maxRecDepth 65536 in
theorem w_c2 : (Jvm.Cond.code ({ cls := "java/lang/Object", name := "<init>", desc := "()V" } : Jvm.MethodName) object_method_1_code (1 : Nat) (Option.none : Option Jvm.ClassFile.FieldType)).before args0 about1 = true := code_word (m := ⟨0, 0⟩) (meth := k0m0) (c := k0c0) (by decide +kernel) rfl rfl rfl (by decide +kernel)
set_option maxRecDepth 65536 in
theorem w_c3 : (Jvm.Cond.code ({ cls := "com/example/antechamber/antechamber/DatabaseSocket$Turn", name := "sent", desc := "()V" } : Jvm.MethodName) prog_14_method_2_code (1 : Nat) (Option.none : Option Jvm.ClassFile.FieldType)).before args0 about1 = true := code_word (m := ⟨2, 1⟩) (meth := k2m1) (c := k2c1) (by decide +kernel) rfl rfl rfl (by decide +kernel)
set_option maxRecDepth 65536 in
theorem w_c4 : (Jvm.Cond.code ({ cls := "com/example/antechamber/antechamber/DatabaseSocket$Turn", name := "took", desc := "(I)V" } : Jvm.MethodName) prog_14_method_4_code (2 : Nat) (Option.none : Option Jvm.ClassFile.FieldType)).before args0 about1 = true := code_word (m := ⟨2, 3⟩) (meth := k2m3) (c := k2c3) (by decide +kernel) rfl rfl rfl (by decide +kernel)
set_option maxRecDepth 65536 in
theorem w_c5 : (Jvm.Cond.code ({ cls := "com/example/antechamber/antechamber/DatabaseSocket$Turn", name := "answerDue", desc := "()Z" } : Jvm.MethodName) prog_14_method_3_code (1 : Nat) (Option.some Jvm.ClassFile.FieldType.boolean)).before args0 about1 = true := code_word (m := ⟨2, 2⟩) (meth := k2m2) (c := k2c2) (by decide +kernel) rfl rfl rfl (by decide +kernel)
set_option maxRecDepth 65536 in
theorem w_c6 : (Jvm.Cond.code ({ cls := "com/example/antechamber/antechamber/DatabaseSocket$Turn", name := "paces", desc := "()Z" } : Jvm.MethodName) prog_14_method_5_code (1 : Nat) (Option.some Jvm.ClassFile.FieldType.boolean)).before args0 about1 = true := code_word (m := ⟨2, 4⟩) (meth := k2m4) (c := k2c4) (by decide +kernel) rfl rfl rfl (by decide +kernel)
def codes1 : List Jvm.Cond := [Jvm.Cond.code x code maxLocals ret, Jvm.Cond.code ({ cls := "com/example/antechamber/antechamber/DatabaseSocket$Turn", name := "<init>", desc := "()V" } : Jvm.MethodName) prog_14_method_1_code (1 : Nat) (Option.none : Option Jvm.ClassFile.FieldType), Jvm.Cond.code ({ cls := "java/lang/Object", name := "<init>", desc := "()V" } : Jvm.MethodName) object_method_1_code (1 : Nat) (Option.none : Option Jvm.ClassFile.FieldType), Jvm.Cond.code ({ cls := "com/example/antechamber/antechamber/DatabaseSocket$Turn", name := "sent", desc := "()V" } : Jvm.MethodName) prog_14_method_2_code (1 : Nat) (Option.none : Option Jvm.ClassFile.FieldType), Jvm.Cond.code ({ cls := "com/example/antechamber/antechamber/DatabaseSocket$Turn", name := "took", desc := "(I)V" } : Jvm.MethodName) prog_14_method_4_code (2 : Nat) (Option.none : Option Jvm.ClassFile.FieldType), Jvm.Cond.code ({ cls := "com/example/antechamber/antechamber/DatabaseSocket$Turn", name := "answerDue", desc := "()Z" } : Jvm.MethodName) prog_14_method_3_code (1 : Nat) (Option.some Jvm.ClassFile.FieldType.boolean), Jvm.Cond.code ({ cls := "com/example/antechamber/antechamber/DatabaseSocket$Turn", name := "paces", desc := "()Z" } : Jvm.MethodName) prog_14_method_5_code (1 : Nat) (Option.some Jvm.ClassFile.FieldType.boolean)]
set_option maxRecDepth 65536 in
theorem codes_eq : words1.filter isCode = codes1 := rfl
theorem w_codes : ∀ c ∈ words1.filter isCode, c.before args0 about1 = true := by
  rw [codes_eq]
  intro c hc
  simp only [codes1, List.mem_cons, List.not_mem_nil, or_false] at hc
  rcases hc with rfl | rfl | rfl | rfl | rfl | rfl | rfl
  · exact w_c0
  · exact w_c1
  · exact w_c2
  · exact w_c3
  · exact w_c4
  · exact w_c5
  · exact w_c6
set_option maxRecDepth 65536 in
theorem w_t1 : (words1.take 24).all (fun c => isCode c || c.before args0 about1) = true := by decide +kernel
set_option maxRecDepth 65536 in
theorem w_t2 : (words1.drop 24).all (fun c => isCode c || c.before args0 about1) = true := by decide +kernel
theorem w_tables : (allAtoms (Jvm.Cond.code x code maxLocals ret :: tables_1)).before args0 about1 = true := by
  rw [allAtoms_all]
  show words1.all (fun c => c.before args0 about1) = true
  refine all_split ?_ w_codes
  rw [← List.take_append_drop 24 words1, List.all_append, w_t1, w_t2]
  rfl
set_option maxRecDepth 65536 in
theorem w_case : (Jvm.Cond.and given_1 narrow_1).before args0 about1 = true := by decide +kernel
theorem w_applies : (headSpec (Jvm.Cond.code x code maxLocals ret :: tables_1) room_1).applies x e0.platform about1 = true :=
  (Spec.applies_iff w_frames).mpr ⟨w_running, w_runnable, w_alone, w_named, w_hears, w_ripe, w_room, w_tables⟩
theorem atStart : AtStart classFile x code maxLocals ret World_1 tables_1 room_1 Calls_1 rest_1 Pre_1 launch0 p0 e0 about1 theMethod args0 below0 :=
  ⟨lists_1, trivial, launch0.admits_env _ _ _, launch0.least_env, fairChoices_fair.cas, fairChoices_fair.clock, w_frames, w_args, w_heap, w_applies, trivial, trivial, w_case⟩
end start1
theorem witness_1 : WitnessClaimed_1 := ⟨start1.p0, start1.e0, start1.about1, start1.theMethod, start1.args0, start1.below0, start1.atStart⟩
end Jvm.Pilot.@@N@@
