import JvmDerived
import JvmDerived.Pilot.@@N@@Statement
import JvmDerived.Pilot.@@N@@Code
set_option linter.unusedVariables false
set_option linter.unusedSimpArgs false
namespace Jvm.RoadKit
open Sem ClassFile Op Lib Jvm.Stand Jvm.Free Jvm.LawKit
section New
variable {p : Program} {l : Launch} {e : Env} {R : Room} {s : State} {m : MethodId} {args : Array Value} {below : List Frame} {meth : Method} {c : Code} {T : State} {locs : List Loc} {cells slots : Nat}
theorem retI (X : Stand p l e R s m args below meth c T locs cells slots) (hx : p.tables.exec = Jvm.exec) {pc : Nat} {Ls : Array Slot} {z : Int32} {rest : List Value} (hret : meth.sig.returnType = some .int) (hd : decode c.code pc = .ok (.ireturn, 1)) {fs : List Frame}
    (hl : ∀ (f : JFrame) (acts : List Action), f.method = m → f.locked = none → f.entered = [] → (doReturn e (T.setTop f) acts (some (.int z))).1 = T.setFrames fs) : Steps p.tables e below (T.setTop (mkF m pc Ls (.int z :: rest))) (T.setFrames fs) := by
  have hm' : T.vm.method? m = some meth := X.method'
  have hn : narrow .int (.int z) = .int z := rfl
  show Steps p.tables e below (T.setTop { method := m, pc := pc, locals := Ls, stack := _ :: rest, locked := none }) _
  jvm_step X.here [X.here.top, hx, hd, hm', hret, hn]
  first | (intro acts; rw [hl _ acts rfl rfl rfl]) | rw [hl _ _ rfl rfl rfl]
  exact Steps.refl _
end New
end Jvm.RoadKit
namespace Jvm.Pilot.@@N@@
open Jvm Jvm.ClassFile Sem Op Lib Jvm.Free Jvm.Stand Jvm.LawKit Jvm.RoadKit Bundle Jvm.Pilot.@@N@@.Jvm.D

/-! int arrays: n places, place i holds f i -/
def own_IA (Z : State) (h : Heap) (a : Addr) (n : Nat) (f : Nat → Int32) : Prop := ∃ c : Cell, Arr Z h a c .int ∧ Z.vm.findClass "[I" = some c.cls ∧ c.slots.size = n ∧ ∀ i, i < n → c.slots[i]? = some (.int (f i))
theorem own_IA.ext {Z : State} {h h' : Heap} {a : Addr} {n : Nat} {f : Nat → Int32} (F : own_IA Z h a n f) (E : Ext h h') : own_IA Z h' a n f := by
  obtain ⟨c, A, r⟩ := F; exact ⟨c, A.ext E, r⟩
theorem own_IA.other {Z : State} {h h' : Heap} {a b : Addr} {n sl : Nat} {v : Value} {f : Nat → Int32} (F : own_IA Z h a n f) (W : Wr h h' b sl v) (q : a ≠ b) : own_IA Z h' a n f := by
  obtain ⟨c, A, r⟩ := F; exact ⟨c, A.other W q, r⟩
theorem own_IA.keep {Z : State} {h h' : Heap} {a : Addr} {ws : List Addr} {n : Nat} {f : Nat → Int32} (F : own_IA Z h a n f) (K : Keep h h' ws) (q : a ∉ ws) : own_IA Z h' a n f := by
  obtain ⟨c, A, r⟩ := F; exact ⟨c, ⟨K.2.1 a c A.1 q, A.2⟩, r⟩
theorem own_IA.lt {Z : State} {h : Heap} {a : Addr} {n : Nat} {f : Nat → Int32} (F : own_IA Z h a n f) : a < h.size := by
  obtain ⟨c, A, -⟩ := F; exact A.lt
theorem own_IA.fn {Z : State} {h : Heap} {a : Addr} {n : Nat} {f g : Nat → Int32} (F : own_IA Z h a n f) (q : ∀ i, i < n → f i = g i) : own_IA Z h a n g := by
  obtain ⟨c, A, r, s, H⟩ := F; exact ⟨c, A, r, s, fun i hi => by rw [H i hi, q i hi]⟩
theorem own_lt {i n : Nat} (h : i < n) (hn : n ≤ 255) : Int32.ofNat i < Int32.ofNat n := by
  rw [Int32.lt_iff_toInt_lt, Int32.toInt_ofNat_of_lt (by omega), Int32.toInt_ofNat_of_lt (by omega)]
  omega
theorem own_nn {n : Nat} (hn : n ≤ 255) : ¬ Int32.ofNat n < 0 := by
  rw [Int32.lt_iff_toInt_lt, Int32.toInt_ofNat_of_lt (by omega), show (0 : Int32).toInt = 0 from rfl]
  omega
theorem own_n32 {n : Nat} (hn : n ≤ 255) : (Int32.ofNat n).toNatClampNeg = n := by
  rw [Int32.toNatClampNeg, Int32.toInt_ofNat_of_lt (by omega)]; rfl
theorem own_one (i : Nat) : Int32.ofNat i + (1 : Int32) = Int32.ofNat (i + 1) := (Int32.ofNat_add i 1).symm
theorem own_mask (x : Int32) : ∃ n : Nat, n ≤ 3 ∧ (x &&& (3 : Int32)) = Int32.ofNat n := by
  refine ⟨(x &&& 3).toBitVec.toNat, ?_, ?_⟩
  · simp only [Int32.toBitVec_and, BitVec.toNat_and]
    exact Nat.and_le_right
  · apply Int32.toBitVec_inj.mp
    show _ = BitVec.ofNat 32 _
    rw [BitVec.ofNat_toNat]; simp
theorem own_inb {c : Cell} {n i : Nat} (S : c.slots.size = n) (hn : n ≤ 255) (hi : i < n) : ¬ (Int32.ofNat i < 0 ∨ c.slots.size ≤ (Int32.ofNat i).toNatClampNeg) := by
  rw [S, own_n32 (by omega)]
  exact fun q => q.elim (own_nn (by omega)) (fun q => by omega)
theorem own_size {c : Cell} {n : Nat} (S : c.slots.size = n) (hn : n ≤ 255) : c.slots.size = (Int32.ofNat n).toNatClampNeg := by rw [S, own_n32 hn]
section OwnNew
variable {p : Program} {l : Launch} {e : Env} {R : Room} {s : State} {m : MethodId} {args : Array Value} {below : List Frame} {meth : Method} {c : Code} {T : State} {locs : List Loc} {cells slots : Nat} {Z : State} {a0 : Array Value} {h : Heap}
/-- newarray of n ints, n a small natural: the fresh array of zeros, its class known -/
theorem own_newI (X : Stand p l e R s m args below meth c T locs cells slots) (hx : p.tables.exec = Jvm.exec) (hZ : Z.Warmed39 s.vm) (w : (Cond.arrayClass .int).before a0 Z = true) (eT : T.heap = h) {n : Nat} (hn : n ≤ 255) {g : JFrame} (hg : g.method = m) (hd : decode c.code g.pc = .ok (.newarray .int, 2)) {rest : List Value} (hs : g.stack = .int (Int32.ofNat n) :: rest)
    {cap : Nat} (hcap : n ≤ cap) (hc : cells + 1 ≤ R.cells) (hl : slots + cap ≤ R.slots) :
    ∃ T' h', Stand p l e R s m args below meth c T' locs (cells + 1) (slots + cap) ∧ T'.heap = h' ∧ Ext h h' ∧ own_IA Z h' h.size n (fun _ => 0) ∧
      ∀ target, Steps p.tables e below (T'.setTop { g with pc := g.pc + 2, stack := .ref h.size :: rest }) target → Steps p.tables e below (T.setTop g) target := by
  have e1 := own_n32 hn
  obtain ⟨cA, kA, comp, h1, h2, h3, X', st⟩ := X.newarrayPrim (atype := .int) hx (mvA hZ w) hg hd hs (own_nn hn) (by rw [e1]; show n * 4 ≤ _; omega) hc (by rw [e1]; omega)
  subst eT
  have f1 : Z.vm.findClass "[I" = some cA := by rw [← hZ.alike.findClass]; exact h1
  obtain ⟨kZ, z1, -⟩ := Vm.findClass_spec f1
  obtain ⟨k', z2, z3⟩ := hZ.alike.2.2 _ _ z1
  cases h2.symm.trans z2
  refine ⟨_, _, X'.more (Nat.le_refl _) (by rw [e1]; omega), rfl, ⟨?_, fun a c q => ?_⟩, ⟨{ cls := cA, slots := Array.replicate (Int32.ofNat n).toNatClampNeg (defaultValue (newarray.typeOf .int)), vm := .none }, ⟨?_, ⟨?_, kZ, z1, comp, ?_⟩, ?_⟩, f1, ?_, fun i hi => ?_⟩, st⟩
  · show T.heap.size ≤ (T.heap.push _).size; simp
  · show (T.heap.push _)[a]? = _
    rw [Array.getElem?_push_lt (Array.getElem?_eq_some_iff.mp q).1]; exact (Array.getElem?_eq_getElem _).symm.trans q
  · show (T.heap.push _)[T.heap.size]? = some _; exact Array.getElem?_push_size
  · intro q; simp
  · exact (congrArg Class.kind z3).symm.trans h3
  · simp
  · show (Array.replicate _ _).size = n; rw [Array.size_replicate, e1]
  · show (Array.replicate _ _)[i]? = _
    rw [Array.getElem?_replicate, if_pos (by rw [e1]; exact hi)]; rfl
/-- iastore into it -/
theorem own_stI (X : Stand p l e R s m args below meth c T locs cells slots) (hx : p.tables.exec = Jvm.exec) (hZ : Z.Warmed39 s.vm) (eT : T.heap = h) {a : Addr} {n : Nat} {f : Nat → Int32} (hn : n ≤ 255) (F : own_IA Z h a n f) {i : Nat} (hi : i < n) {z : Int32} {g : JFrame} (hg : g.method = m) {rest : List Value} (hs : g.stack = .int z :: .int (Int32.ofNat i) :: .ref a :: rest) (hd : decode c.code g.pc = .ok (.iastore, 1)) :
    ∃ T' h', Stand p l e R s m args below meth c T' (locs ++ [⟨a, i⟩]) cells slots ∧ T'.heap = h' ∧ Keep h h' [a] ∧ own_IA Z h' a n (fun j => if j = i then z else f j) ∧
      ∀ target, Steps p.tables e below (T'.setTop { g with pc := g.pc + 1, stack := rest }) target → Steps p.tables e below (T.setTop g) target := by
  obtain ⟨cl, Ar, q1, S, H⟩ := F
  obtain ⟨T', h', X', e', W, st⟩ := stI X hx hZ eT Ar (j := Int32.ofNat i) (own_inb S hn hi) hg hs hd
  rw [own_n32 (by omega : i ≤ 255)] at X' W
  refine ⟨T', h', X', e', Keep.of_wr W, ⟨_, Ar.same W, q1, by rw [sz_set]; exact S, fun j hj => ?_⟩, st⟩
  by_cases q : j = i
  · subst q; show (cl.setSlot j (.int z)).slots[j]? = some (.int (if j = j then z else f j)); rw [if_pos rfl]; simp [Cell.setSlot, S, hi]
  · show (cl.setSlot i (.int z)).slots[j]? = some (.int (if j = i then z else f j)); rw [if_neg q, ← H j hj]; simp only [Cell.setSlot]; exact Array.getElem?_setIfInBounds_ne (fun z => q z.symm)
end OwnNew
theorem own_andb {a b : Jvm.Cond} {args : Array Value} {s : State} (h1 : a.before args s = true) (h2 : b.before args s = true) : (Jvm.Cond.and a b).before args s = true := by rw [Cond.before_and, h1, h2]; rfl

theorem own_ahi {Z s : State} {a0 args : Array Value} (hw : ∀ d ∈ tables_1, d.before a0 Z = true) (hZ : Z.Warmed39 s.vm) : Jvm.Free.Hash.AHI.tab.before args s = true :=
  own_andb (mvT hZ (hw _ (List.mem_of_getElem? (i := 15) rfl))) (own_andb (mvT hZ (hw _ (List.mem_of_getElem? (i := 16) rfl))) (own_andb (mvT hZ (hw _ (List.mem_of_getElem? (i := 17) rfl))) (own_andb (own_andb (mvT hZ (hw _ (List.mem_of_getElem? (i := 19) rfl))) (own_andb (mvT hZ (hw _ (List.mem_of_getElem? (i := 20) rfl))) (own_andb (mvT hZ (hw _ (List.mem_of_getElem? (i := 22) rfl))) (own_andb (mvT hZ (hw _ (List.mem_of_getElem? (i := 23) rfl))) (own_andb (mvT hZ (hw _ (List.mem_of_getElem? (i := 24) rfl))) (mvT hZ (hw _ (List.mem_of_getElem? (i := 18) rfl)))))))) (own_andb (mvT hZ (hw _ (List.mem_of_getElem? (i := 18) rfl))) (mvT hZ (hw _ (List.mem_of_getElem? (i := 14) rfl)))))))
theorem d1_0 : decode prog_27_method_1_code 0 = .ok (.aload_n 0, 1) := by decide +kernel
theorem d1_1 : decode prog_27_method_1_code 1 = .ok (.invokespecial 5, 3) := by decide +kernel
theorem d1_4 : decode prog_27_method_1_code 4 = .ok (.aload_n 0, 1) := by decide +kernel
theorem d1_5 : decode prog_27_method_1_code 5 = .ok (.aload_n 1, 1) := by decide +kernel
theorem d1_6 : decode prog_27_method_1_code 6 = .ok (.putfield 11, 3) := by decide +kernel
theorem d1_9 : decode prog_27_method_1_code 9 = .ok (.aload_n 0, 1) := by decide +kernel
theorem d1_10 : decode prog_27_method_1_code 10 = .ok (.aload_n 1, 1) := by decide +kernel
theorem d1_11 : decode prog_27_method_1_code 11 = .ok (.invokestatic 15, 3) := by decide +kernel
theorem d1_14 : decode prog_27_method_1_code 14 = .ok (.putfield 21, 3) := by decide +kernel
theorem d1_17 : decode prog_27_method_1_code 17 = .ok (.return_, 1) := by decide +kernel
theorem pn_1 : plainName "com/example/tracewarden/tracewarden/net/Marking" = true := by first | (simp [plainName, overriddenIn]; done) | decide +kernel
theorem pd_1_2 : parseMethodDescriptor "([I)I" = some ⟨[(.array .int)], some .int⟩ := by decide +kernel
theorem ef_1 (m : MethodId) (x0 : Addr) (x1 : Addr) : entryFrame m #[(.ref x0), (.ref x1)] 2 = mkF m 0 #[.val (.ref x0), .val (.ref x1)] [] := by first | (simp [entryFrame, mkF, argsToLocals, Value.category]; done) | rfl
def Q1 (Z : State) (a1 a2 : Addr) (h0 : Heap) (n0 : Nat) (v : Option Value) (h : Heap) (L : List Loc) : Prop := v = none ∧ Fr n0 L ∧ Keep h0 h [a1] ∧ Exa Z h a1 "com/example/tracewarden/tracewarden/net/Marking" ∧ Fld Z h a1 "com/example/tracewarden/tracewarden/net/Marking" "tokens" "[I" (.ref a2)
set_option maxRecDepth 65536 in
set_option maxHeartbeats 40000000 in
theorem rm1 (l : Launch) (Z : State) (a0 : Array Value) (hw : ∀ d ∈ tables_1, d.before a0 Z = true) (ws : List Jvm.Cond) (a1 : Addr) (a2 : Addr) (u_tokens_a1 : Value) (u_hash_a1 : Value) (n : Nat) (f : Nat → Int32) (hn : n ≤ 255) (h0 : Heap) (n0 : Nat) (Z0 : n0 ≤ h0.size) (E_a1 : Exa Z h0 a1 "com/example/tracewarden/tracewarden/net/Marking") (F_tokens_a1 : Fld Z h0 a1 "com/example/tracewarden/tracewarden/net/Marking" "tokens" "[I" u_tokens_a1) (g_a1 : n0 ≤ a1) (F_hash_a1 : Fld Z h0 a1 "com/example/tracewarden/tracewarden/net/Marking" "hash" "I" u_hash_a1) (IA : own_IA Z h0 a2 n f) (hne : a2 ≠ a1) :
    MetFree l (⟨"com/example/tracewarden/tracewarden/net/Marking", "<init>", "([I)V"⟩ : MethodName) (head1 (Jvm.Cond.code (⟨"com/example/tracewarden/tracewarden/net/Marking", "<init>", "([I)V"⟩ : MethodName) prog_27_method_1_code 2 none :: ws) ({ frames := 5, cells := 0, slots := 0, locals := 123 } : Room)) (fun a U => a = #[(.ref a1), (.ref a2)] ∧ Z.Warmed39 U.vm ∧ U.heap = h0) (fun _ _ _ _ _ => True) (fun _ U o U' => ∃ v L, o = .returned v ∧ Q1 Z a1 a2 h0 n0 v U'.heap L ∧ FrameEnd U o U' L ({ frames := 5, cells := 0, slots := 0, locals := 123 } : Room).cells ({ frames := 5, cells := 0, slots := 0, locals := 123 } : Room).slots) := by
  refine MetFree.of_bodySF (plainFor_of_name pn_1) hisR ?_
  intro p e s m args below meth c s₁ Bd hml0 hP hK
  obtain ⟨rfl, hZ, hh⟩ := hP
  have hx := Bd.exec
  have hby := Bd.bytes
  have hml : c.maxLocals = 2 := hml0
  have hown : s.vm.findClass "com/example/tracewarden/tracewarden/net/Marking" = some m.cls := findClass_of_methodNamed Bd.named
  have hnm := (name_of_methodNamed Bd.named Bd.method).1
  have X0 : Stand p l e ({ frames := 5, cells := 0, slots := 0, locals := 123 } : Room) s m #[(.ref a1), (.ref a2)] below meth c s₁ [] 0 0 := Stand.of_body Bd
  have e0 : s₁.heap = h0 := by rw [← hh, Bd.state]; rfl
  have N0 := Fr.nil n0
  have pre0 : ∀ t, Steps p.tables e below (s₁.setTop (mkF m 0 #[.val (.ref a1), .val (.ref a2)] [])) t → Steps p.tables e below (s₁.setTop (entryFrame m #[(.ref a1), (.ref a2)] 2)) t := fun t k => castTop (ef_1 m a1 a2) k
  -- 3. LAWS
  obtain ⟨T3, X3, e3, st3⟩ := initO X0 hx hZ hown (hw _ (List.mem_of_getElem? (i := 7) rfl)) (hw _ (List.mem_of_getElem? (i := 8) rfl)) (hw _ (List.mem_of_getElem? (i := 9) rfl)) e0 (g := (mkF m 1 #[.val (.ref a1), .val (.ref a2)] [(.ref a1)])) rfl (by rw [hml]; rfl) rfl (hb hby d1_1) (by decide) (W := 0) (by show 2 * 0 + _ ≤ _; exact Nat.le_of_eq rfl) (by decide)
  obtain ⟨T4, h4, X4, e4, W4, st4⟩ := putF X3 hx hZ hown (host := "") (Or.inl (hw _ (List.mem_of_getElem? (i := 10) rfl))) Via.refl e3 F_tokens_a1 E_a1 (Or.inr ⟨(hw _ (List.mem_of_getElem? (i := 11) rfl)), rfl, hnm⟩) (hw _ (List.mem_of_getElem? (i := 2) rfl)) (ty := (.array .int)) (by decide) rfl rfl (g := (mkF m 6 #[.val (.ref a1), .val (.ref a2)] [(.ref a2), (.ref a1)])) rfl rfl (hb hby d1_6)
  have Fw4 := F_tokens_a1.same W4      -- the field now holds (.ref a2)
  have K4 : Keep h0 h4 [a1] := (Keep.refl h0 [a1]).wr W4 (Or.inl (List.mem_of_getElem? (i := 0) rfl))
  have N4 := Fr.snoc X4 N0 g_a1
  obtain ⟨cl, Ar, q1, S, H⟩ := IA.other W4 hne
  have hP : ∀ vm₁, s.WarmedH vm₁ → Jvm.Free.Hash.AHI.P a2 cl #[(.ref a2)] (T4.setVm vm₁) := fun vm₁ hW => ⟨rfl, by show T4.heap[a2]? = some cl; rw [e4]; exact Ar.1, State.isArrayOf_alike (wtrans (U := T4.setVm vm₁) hZ hW).alike Ar.2.1, Ar.2.2, by rw [S]; omega, fun i hi => by
    have q := H i (by rw [← S]; exact hi)
    rw [q, show Jvm.Lib.StringLatin1.equals.intAt cl i = f i from by simp only [Jvm.Lib.StringLatin1.equals.intAt, q]], by rw [(wtrans (U := T4.setVm vm₁) hZ hW).alike.findClass]; exact q1⟩
  obtain ⟨v5, vm5, ⟨T5, L5, k5, n5⟩, hW5, X5, ⟨⟨p1, p2, p3, p4⟩, rel⟩, st5⟩ := Jvm.LawKit.callS X4 hx (y := Jvm.Free.Hash.ahiN) hown (mvT hZ (hw _ (List.mem_of_getElem? (i := 12) rfl))) (mvT hZ (hw _ (List.mem_of_getElem? (i := 13) rfl))) (mvT hZ (hw _ (List.mem_of_getElem? (i := 14) rfl))) (mvT hZ (hw _ (List.mem_of_getElem? (i := 15) rfl))) (by decide) (Jvm.Free.Hash.paidAHI (l := l) (W := 1) (len := 3) (by decide) (by decide) (own_ahi hw hZ)) (g := (mkF m 11 #[.val (.ref a1), .val (.ref a2)] [(.ref a2), (.ref a1)])) rfl (by rw [hml]; rfl) (argsL := [(.ref a2)]) (rest := [(.ref a1)]) (lenOf pd_1_2 rfl) rfl (by show 2 * 0 + _ ≤ _; exact Nat.le_of_eq rfl) (hb hby d1_11) (fun vm₁ hW => ⟨(by decide : 0 ≤ _), (by decide : 0 ≤ _), (a2, cl), hP vm₁ hW⟩)
  dsimp only [Pt.U, Pt.locs, Pt.cells, Pt.slots] at X5 p1 p2 p3 p4 rel st5
  subst p2 p3 p4
  have q5 := rel (a2, cl) (hP vm5 hW5)
  obtain ⟨z5, rfl⟩ : ∃ z5 : Int32, v5 = some (.int z5) := ⟨_, q5⟩
  have e5 : T5.heap = h4 := p1.trans e4
  obtain ⟨T6, h6, X6, e6, W6, st6⟩ := putF X5 hx hZ hown (host := "") (Or.inl (hw _ (List.mem_of_getElem? (i := 25) rfl))) Via.refl e5 (F_hash_a1.other W4 (Or.inr (slot_ne (Or.inr (hw _ (List.mem_of_getElem? (i := 26) rfl))) (Or.inr (hw _ (List.mem_of_getElem? (i := 11) rfl))) (by decide) (t := .int) (t' := (.array .int)) (by decide) (by decide)))) (E_a1.wr W4) (Or.inr ⟨(hw _ (List.mem_of_getElem? (i := 26) rfl)), rfl, hnm⟩) (hw _ (List.mem_of_getElem? (i := 2) rfl)) (ty := .int) (by decide) rfl rfl (g := (mkF m 14 #[.val (.ref a1), .val (.ref a2)] [(.int z5), (.ref a1)])) rfl rfl (hb hby d1_14)
  have Ft6 := Fw4.other W6 (Or.inr (slot_ne (Or.inr (hw _ (List.mem_of_getElem? (i := 11) rfl))) (Or.inr (hw _ (List.mem_of_getElem? (i := 26) rfl))) (by decide) (t := (.array .int)) (t' := .int) (by decide) (by decide)))
  have K6 : Keep h0 h6 [a1] := K4.wr W6 (Or.inl (List.mem_of_getElem? (i := 0) rfl))
  have N6 := Fr.snoc X6 N4 g_a1
  obtain ⟨fs, hr, hrun, hended, hW, hsame⟩ := X6.leave (v := none) (fun _ => rfl)
  refine ⟨_, _, pre0 _ ?_, hrun, hended, _, _, rfl, ?_, ⟨_, rfl⟩, hW, hsame.mono (by decide) (by decide)⟩
  -- 4. STEPS
  · show Steps p.tables e below (s₁.setTop (mkF m 0 #[.val (.ref a1), .val (.ref a2)] [])) _
    refine XS.aloadN X0.here hx rfl (hb hby d1_0) rfl rfl ?_
    show Steps p.tables e below (s₁.setTop (mkF m 1 #[.val (.ref a1), .val (.ref a2)] [(.ref a1)])) _
    refine st3 _ ?_
    show Steps p.tables e below (T3.setTop (mkF m 4 #[.val (.ref a1), .val (.ref a2)] [])) _
    refine XS.aloadN X3.here hx rfl (hb hby d1_4) rfl rfl ?_
    show Steps p.tables e below (T3.setTop (mkF m 5 #[.val (.ref a1), .val (.ref a2)] [(.ref a1)])) _
    refine XS.aloadN X3.here hx rfl (hb hby d1_5) rfl rfl ?_
    show Steps p.tables e below (T3.setTop (mkF m 6 #[.val (.ref a1), .val (.ref a2)] [(.ref a2), (.ref a1)])) _
    refine st4 _ ?_
    show Steps p.tables e below (T4.setTop (mkF m 9 #[.val (.ref a1), .val (.ref a2)] [])) _
    refine XS.aloadN X4.here hx rfl (hb hby d1_9) rfl rfl ?_
    show Steps p.tables e below (T4.setTop (mkF m 10 #[.val (.ref a1), .val (.ref a2)] [(.ref a1)])) _
    refine XS.aloadN X4.here hx rfl (hb hby d1_10) rfl rfl ?_
    show Steps p.tables e below (T4.setTop (mkF m 11 #[.val (.ref a1), .val (.ref a2)] [(.ref a2), (.ref a1)])) _
    refine st5 _ ?_
    show Steps p.tables e below (T5.setTop (mkF m 14 #[.val (.ref a1), .val (.ref a2)] [(.int z5), (.ref a1)])) _
    refine st6 _ ?_
    show Steps p.tables e below (T6.setTop (mkF m 17 #[.val (.ref a1), .val (.ref a2)] [])) _
    exact X6.returnOut hx Bd.returns (hb hby d1_17) hr
  · show Q1 Z a1 a2 h0 n0 _ T6.heap _
    rw [e6]
    exact ⟨rfl, N6, K6, ((E_a1.wr W4).wr W6), Ft6⟩
def own_z (b : Bool) : Int32 := if b then 1 else 0
def own_f (x y z : Int32) (i : Nat) : Int32 := if i = 0 then x else if i = 1 then y else z
def own_ge (f g : Nat → Int32) : Nat → Nat → Bool
  | 0, _ => true
  | k + 1, i => (!decide (f i < g i)) && own_ge f g k (i + 1)
def own_gt (f g : Nat → Int32) : Nat → Nat → Bool
  | 0, _ => false
  | k + 1, i => decide (g i < f i) || own_gt f g k (i + 1)
theorem own_or1 (b : Bool) : own_z b ||| (1 : Int32) = own_z true := by cases b <;> decide
theorem own_or0 (b : Bool) : own_z b ||| (0 : Int32) = own_z b := by cases b <;> decide
theorem own_nar (b : Bool) : nar .boolean (own_z b) = own_z b := by cases b <;> decide
def QP (z : Int32) (h0 : Heap) (n0 : Nat) (v : Option Value) (h : Heap) (L : List Loc) : Prop := v = some (.int z) ∧ Fr n0 L ∧ h = h0
theorem d6_0 : decode prog_27_method_4_code 0 = .ok (.iconst 0, 1) := by decide +kernel
theorem d6_1 : decode prog_27_method_4_code 1 = .ok (.istore_n 2, 1) := by decide +kernel
theorem d6_2 : decode prog_27_method_4_code 2 = .ok (.iconst 0, 1) := by decide +kernel
theorem d6_3 : decode prog_27_method_4_code 3 = .ok (.istore_n 3, 1) := by decide +kernel
theorem d6_4 : decode prog_27_method_4_code 4 = .ok (.iload_n 3, 1) := by decide +kernel
theorem d6_5 : decode prog_27_method_4_code 5 = .ok (.aload_n 0, 1) := by decide +kernel
theorem d6_6 : decode prog_27_method_4_code 6 = .ok (.getfield 11, 3) := by decide +kernel
theorem d6_9 : decode prog_27_method_4_code 9 = .ok (.arraylength, 1) := by decide +kernel
theorem d6_10 : decode prog_27_method_4_code 10 = .ok (.if_icmp .ge 49, 3) := by decide +kernel
theorem d6_13 : decode prog_27_method_4_code 13 = .ok (.aload_n 0, 1) := by decide +kernel
theorem d6_14 : decode prog_27_method_4_code 14 = .ok (.getfield 11, 3) := by decide +kernel
theorem d6_17 : decode prog_27_method_4_code 17 = .ok (.iload_n 3, 1) := by decide +kernel
theorem d6_18 : decode prog_27_method_4_code 18 = .ok (.iaload, 1) := by decide +kernel
theorem d6_19 : decode prog_27_method_4_code 19 = .ok (.aload_n 1, 1) := by decide +kernel
theorem d6_20 : decode prog_27_method_4_code 20 = .ok (.getfield 11, 3) := by decide +kernel
theorem d6_23 : decode prog_27_method_4_code 23 = .ok (.iload_n 3, 1) := by decide +kernel
theorem d6_24 : decode prog_27_method_4_code 24 = .ok (.iaload, 1) := by decide +kernel
theorem d6_25 : decode prog_27_method_4_code 25 = .ok (.if_icmp .ge 5, 3) := by decide +kernel
theorem d6_28 : decode prog_27_method_4_code 28 = .ok (.iconst 0, 1) := by decide +kernel
theorem d6_29 : decode prog_27_method_4_code 29 = .ok (.ireturn, 1) := by decide +kernel
theorem d6_30 : decode prog_27_method_4_code 30 = .ok (.iload_n 2, 1) := by decide +kernel
theorem d6_31 : decode prog_27_method_4_code 31 = .ok (.aload_n 0, 1) := by decide +kernel
theorem d6_32 : decode prog_27_method_4_code 32 = .ok (.getfield 11, 3) := by decide +kernel
theorem d6_35 : decode prog_27_method_4_code 35 = .ok (.iload_n 3, 1) := by decide +kernel
theorem d6_36 : decode prog_27_method_4_code 36 = .ok (.iaload, 1) := by decide +kernel
theorem d6_37 : decode prog_27_method_4_code 37 = .ok (.aload_n 1, 1) := by decide +kernel
theorem d6_38 : decode prog_27_method_4_code 38 = .ok (.getfield 11, 3) := by decide +kernel
theorem d6_41 : decode prog_27_method_4_code 41 = .ok (.iload_n 3, 1) := by decide +kernel
theorem d6_42 : decode prog_27_method_4_code 42 = .ok (.iaload, 1) := by decide +kernel
theorem d6_43 : decode prog_27_method_4_code 43 = .ok (.if_icmp .le 7, 3) := by decide +kernel
theorem d6_46 : decode prog_27_method_4_code 46 = .ok (.iconst 1, 1) := by decide +kernel
theorem d6_47 : decode prog_27_method_4_code 47 = .ok (.goto 4, 3) := by decide +kernel
theorem d6_50 : decode prog_27_method_4_code 50 = .ok (.iconst 0, 1) := by decide +kernel
theorem d6_51 : decode prog_27_method_4_code 51 = .ok (.ior, 1) := by decide +kernel
theorem d6_52 : decode prog_27_method_4_code 52 = .ok (.istore_n 2, 1) := by decide +kernel
theorem d6_53 : decode prog_27_method_4_code 53 = .ok (.iinc 3 1, 3) := by decide +kernel
theorem d6_56 : decode prog_27_method_4_code 56 = .ok (.goto (-52), 3) := by decide +kernel
theorem d6_59 : decode prog_27_method_4_code 59 = .ok (.iload_n 2, 1) := by decide +kernel
theorem d6_60 : decode prog_27_method_4_code 60 = .ok (.ireturn, 1) := by decide +kernel
set_option maxRecDepth 65536 in
set_option maxHeartbeats 40000000 in
theorem tn6_gt {p : Program} {l : Launch} {e : Env} {R : Room} {s : State} {m : MethodId} {args : Array Value} {below : List Frame} {meth : Method} {c : Code} {T0 : State} {locs : List Loc} {cells slots : Nat} {Z : State} {a0 : Array Value} {h0 : Heap} (o0 : Addr) (o1 : Addr) (i2 : Int32) (i3 : Int32) (w3 : Addr) (cl_w3 : Cell) (z_w3 : Int32) (w6 : Int32) (w7 : Addr) (w9 : Int32) (cl_w7 : Cell) (w11 : Int32) (w13 : Int32)
    (X0 : Stand p l e R s m args below meth c T0 locs cells slots) (hx : p.tables.exec = Jvm.exec) (hZ : Z.Warmed39 s.vm) (hw : ∀ d ∈ tables_1, d.before a0 Z = true) (hby : c.code = prog_27_method_4_code) (hml : c.maxLocals = 4) (hown : s.vm.findClass "com/example/tracewarden/tracewarden/net/Marking" = some m.cls) (e0 : T0.heap = h0) (F_tokens_o0 : Fld Z h0 o0 "com/example/tracewarden/tracewarden/net/Marking" "tokens" "[I" (.ref w3)) (Ar_w3 : Arr Z h0 w3 cl_w3 .int) (S_w3 : cl_w3.slots.size = z_w3.toNatClampNeg) (N_w3 : ¬ z_w3 < 0) (hin18 : ¬ (i3 < 0 ∨ cl_w3.slots.size ≤ (i3).toNatClampNeg)) (hat18 : cl_w3.slots[(i3).toNatClampNeg]? = some (.int w6)) (F_tokens_o1 : Fld Z h0 o1 "com/example/tracewarden/tracewarden/net/Marking" "tokens" "[I" (.ref w7)) (Ar_w7 : Arr Z h0 w7 cl_w7 .int) (hin24 : ¬ (i3 < 0 ∨ cl_w7.slots.size ≤ (i3).toNatClampNeg)) (hat24 : cl_w7.slots[(i3).toNatClampNeg]? = some (.int w9)) (hin36 : ¬ (i3 < 0 ∨ cl_w3.slots.size ≤ (i3).toNatClampNeg)) (hat36 : cl_w3.slots[(i3).toNatClampNeg]? = some (.int w11)) (hin42 : ¬ (i3 < 0 ∨ cl_w7.slots.size ≤ (i3).toNatClampNeg)) (hat42 : cl_w7.slots[(i3).toNatClampNeg]? = some (.int w13)) (hc10 : i3 < z_w3) (hc25 : ¬ (w6 < w9)) (hc43 : w13 < w11) :
    ∃ (T' : State), Stand p l e R s m args below meth c T' locs cells slots ∧ T'.heap = h0 ∧
      ∀ target, Steps p.tables e below (T'.setTop (mkF m 4 #[.val (.ref o0), .val (.ref o1), .val (.int (i2 ||| (1 : Int32))), .val (.int (i3 + (1 : Int32)))] [])) target → Steps p.tables e below (T0.setTop (mkF m 4 #[.val (.ref o0), .val (.ref o1), .val (.int i2), .val (.int i3)] [])) target := by
  -- 3. LAWS
  obtain ⟨T4, X4, e4, st4⟩ := getF X0 hx hZ hown (host := "") (Or.inl (hw _ (List.mem_of_getElem? (i := 10) rfl))) Via.refl e0 F_tokens_o0 (g := (mkF m 6 #[.val (.ref o0), .val (.ref o1), .val (.int i2), .val (.int i3)] [(.ref o0), (.int i3)])) rfl rfl (hb hby d6_6)
  obtain ⟨T5, X5, e5, st5⟩ := getF X4 hx hZ hown (host := "") (Or.inl (hw _ (List.mem_of_getElem? (i := 10) rfl))) Via.refl e4 F_tokens_o0 (g := (mkF m 14 #[.val (.ref o0), .val (.ref o1), .val (.int i2), .val (.int i3)] [(.ref o0)])) rfl rfl (hb hby d6_14)
  obtain ⟨T8, X8, e8, st8⟩ := getF X5 hx hZ hown (host := "") (Or.inl (hw _ (List.mem_of_getElem? (i := 10) rfl))) Via.refl e5 F_tokens_o1 (g := (mkF m 20 #[.val (.ref o0), .val (.ref o1), .val (.int i2), .val (.int i3)] [(.ref o1), (.int w6)])) rfl rfl (hb hby d6_20)
  obtain ⟨T10, X10, e10, st10⟩ := getF X8 hx hZ hown (host := "") (Or.inl (hw _ (List.mem_of_getElem? (i := 10) rfl))) Via.refl e8 F_tokens_o0 (g := (mkF m 32 #[.val (.ref o0), .val (.ref o1), .val (.int i2), .val (.int i3)] [(.ref o0), (.int i2)])) rfl rfl (hb hby d6_32)
  obtain ⟨T12, X12, e12, st12⟩ := getF X10 hx hZ hown (host := "") (Or.inl (hw _ (List.mem_of_getElem? (i := 10) rfl))) Via.refl e10 F_tokens_o1 (g := (mkF m 38 #[.val (.ref o0), .val (.ref o1), .val (.int i2), .val (.int i3)] [(.ref o1), (.int w11), (.int i2)])) rfl rfl (hb hby d6_38)
  refine ⟨T12, X12, e12, fun target kt => ?_⟩
  -- 4. STEPS
  show Steps p.tables e below (T0.setTop (mkF m 4 #[.val (.ref o0), .val (.ref o1), .val (.int i2), .val (.int i3)] [])) _
  refine XS.iloadN X0.here hx rfl (hb hby d6_4) rfl ?_
  show Steps p.tables e below (T0.setTop (mkF m 5 #[.val (.ref o0), .val (.ref o1), .val (.int i2), .val (.int i3)] [(.int i3)])) _
  refine XS.aloadN X0.here hx rfl (hb hby d6_5) rfl rfl ?_
  show Steps p.tables e below (T0.setTop (mkF m 6 #[.val (.ref o0), .val (.ref o1), .val (.int i2), .val (.int i3)] [(.ref o0), (.int i3)])) _
  refine st4 _ ?_
  show Steps p.tables e below (T4.setTop (mkF m 9 #[.val (.ref o0), .val (.ref o1), .val (.int i2), .val (.int i3)] [(.ref w3), (.int i3)])) _
  refine X4.arraylength hx (by rw [e4]; exact Ar_w3.1) (State.isArrayOf_alike hZ.alike Ar_w3.2.1) (g := (mkF m 9 #[.val (.ref o0), .val (.ref o1), .val (.int i2), .val (.int i3)] [(.ref w3), (.int i3)])) rfl rfl (hb hby d6_9) _ ?_
  rw [len_of S_w3 N_w3]
  show Steps p.tables e below (T4.setTop (mkF m 10 #[.val (.ref o0), .val (.ref o1), .val (.int i2), .val (.int i3)] [(.int z_w3), (.int i3)])) _
  refine XS.icmpNo X4.here hx rfl (hb hby d6_10) rfl (tlt hc10).2.1 ?_
  show Steps p.tables e below (T4.setTop (mkF m 13 #[.val (.ref o0), .val (.ref o1), .val (.int i2), .val (.int i3)] [])) _
  refine XS.aloadN X4.here hx rfl (hb hby d6_13) rfl rfl ?_
  show Steps p.tables e below (T4.setTop (mkF m 14 #[.val (.ref o0), .val (.ref o1), .val (.int i2), .val (.int i3)] [(.ref o0)])) _
  refine st5 _ ?_
  show Steps p.tables e below (T5.setTop (mkF m 17 #[.val (.ref o0), .val (.ref o1), .val (.int i2), .val (.int i3)] [(.ref w3)])) _
  refine XS.iloadN X5.here hx rfl (hb hby d6_17) rfl ?_
  show Steps p.tables e below (T5.setTop (mkF m 18 #[.val (.ref o0), .val (.ref o1), .val (.int i2), .val (.int i3)] [(.int i3), (.ref w3)])) _
  refine X5.iaload hx (j := i3) (v := (.int w6)) (by rw [e5]; exact Ar_w3.1) (State.isArrayOf_alike hZ.alike Ar_w3.2.1) Ar_w3.2.2 hin18 hat18 (g := (mkF m 18 #[.val (.ref o0), .val (.ref o1), .val (.int i2), .val (.int i3)] [(.int i3), (.ref w3)])) rfl rfl (hb hby d6_18) _ ?_
  show Steps p.tables e below (T5.setTop (mkF m 19 #[.val (.ref o0), .val (.ref o1), .val (.int i2), .val (.int i3)] [(.int w6)])) _
  refine XS.aloadN X5.here hx rfl (hb hby d6_19) rfl rfl ?_
  show Steps p.tables e below (T5.setTop (mkF m 20 #[.val (.ref o0), .val (.ref o1), .val (.int i2), .val (.int i3)] [(.ref o1), (.int w6)])) _
  refine st8 _ ?_
  show Steps p.tables e below (T8.setTop (mkF m 23 #[.val (.ref o0), .val (.ref o1), .val (.int i2), .val (.int i3)] [(.ref w7), (.int w6)])) _
  refine XS.iloadN X8.here hx rfl (hb hby d6_23) rfl ?_
  show Steps p.tables e below (T8.setTop (mkF m 24 #[.val (.ref o0), .val (.ref o1), .val (.int i2), .val (.int i3)] [(.int i3), (.ref w7), (.int w6)])) _
  refine X8.iaload hx (j := i3) (v := (.int w9)) (by rw [e8]; exact Ar_w7.1) (State.isArrayOf_alike hZ.alike Ar_w7.2.1) Ar_w7.2.2 hin24 hat24 (g := (mkF m 24 #[.val (.ref o0), .val (.ref o1), .val (.int i2), .val (.int i3)] [(.int i3), (.ref w7), (.int w6)])) rfl rfl (hb hby d6_24) _ ?_
  show Steps p.tables e below (T8.setTop (mkF m 25 #[.val (.ref o0), .val (.ref o1), .val (.int i2), .val (.int i3)] [(.int w9), (.int w6)])) _
  refine XS.icmpYes X8.here hx rfl (pc0 := 25) (pc' := 30) rfl (hb hby d6_25) rfl (flt hc25).2.1 (by decide) (by decide) ?_
  show Steps p.tables e below (T8.setTop (mkF m 30 #[.val (.ref o0), .val (.ref o1), .val (.int i2), .val (.int i3)] [])) _
  refine XS.iloadN X8.here hx rfl (hb hby d6_30) rfl ?_
  show Steps p.tables e below (T8.setTop (mkF m 31 #[.val (.ref o0), .val (.ref o1), .val (.int i2), .val (.int i3)] [(.int i2)])) _
  refine XS.aloadN X8.here hx rfl (hb hby d6_31) rfl rfl ?_
  show Steps p.tables e below (T8.setTop (mkF m 32 #[.val (.ref o0), .val (.ref o1), .val (.int i2), .val (.int i3)] [(.ref o0), (.int i2)])) _
  refine st10 _ ?_
  show Steps p.tables e below (T10.setTop (mkF m 35 #[.val (.ref o0), .val (.ref o1), .val (.int i2), .val (.int i3)] [(.ref w3), (.int i2)])) _
  refine XS.iloadN X10.here hx rfl (hb hby d6_35) rfl ?_
  show Steps p.tables e below (T10.setTop (mkF m 36 #[.val (.ref o0), .val (.ref o1), .val (.int i2), .val (.int i3)] [(.int i3), (.ref w3), (.int i2)])) _
  refine X10.iaload hx (j := i3) (v := (.int w11)) (by rw [e10]; exact Ar_w3.1) (State.isArrayOf_alike hZ.alike Ar_w3.2.1) Ar_w3.2.2 hin36 hat36 (g := (mkF m 36 #[.val (.ref o0), .val (.ref o1), .val (.int i2), .val (.int i3)] [(.int i3), (.ref w3), (.int i2)])) rfl rfl (hb hby d6_36) _ ?_
  show Steps p.tables e below (T10.setTop (mkF m 37 #[.val (.ref o0), .val (.ref o1), .val (.int i2), .val (.int i3)] [(.int w11), (.int i2)])) _
  refine XS.aloadN X10.here hx rfl (hb hby d6_37) rfl rfl ?_
  show Steps p.tables e below (T10.setTop (mkF m 38 #[.val (.ref o0), .val (.ref o1), .val (.int i2), .val (.int i3)] [(.ref o1), (.int w11), (.int i2)])) _
  refine st12 _ ?_
  show Steps p.tables e below (T12.setTop (mkF m 41 #[.val (.ref o0), .val (.ref o1), .val (.int i2), .val (.int i3)] [(.ref w7), (.int w11), (.int i2)])) _
  refine XS.iloadN X12.here hx rfl (hb hby d6_41) rfl ?_
  show Steps p.tables e below (T12.setTop (mkF m 42 #[.val (.ref o0), .val (.ref o1), .val (.int i2), .val (.int i3)] [(.int i3), (.ref w7), (.int w11), (.int i2)])) _
  refine X12.iaload hx (j := i3) (v := (.int w13)) (by rw [e12]; exact Ar_w7.1) (State.isArrayOf_alike hZ.alike Ar_w7.2.1) Ar_w7.2.2 hin42 hat42 (g := (mkF m 42 #[.val (.ref o0), .val (.ref o1), .val (.int i2), .val (.int i3)] [(.int i3), (.ref w7), (.int w11), (.int i2)])) rfl rfl (hb hby d6_42) _ ?_
  show Steps p.tables e below (T12.setTop (mkF m 43 #[.val (.ref o0), .val (.ref o1), .val (.int i2), .val (.int i3)] [(.int w13), (.int w11), (.int i2)])) _
  refine XS.icmpNo X12.here hx rfl (hb hby d6_43) rfl (tlt hc43).2.2.2 ?_
  show Steps p.tables e below (T12.setTop (mkF m 46 #[.val (.ref o0), .val (.ref o1), .val (.int i2), .val (.int i3)] [(.int i2)])) _
  refine XS.iconst X12.here hx rfl (hb hby d6_46) ?_
  show Steps p.tables e below (T12.setTop (mkF m 47 #[.val (.ref o0), .val (.ref o1), .val (.int i2), .val (.int i3)] [(.int (1 : Int32)), (.int i2)])) _
  refine XS.goto X12.here hx rfl (pc0 := 47) (pc' := 51) rfl (hb hby d6_47) (by decide) (by decide) ?_
  show Steps p.tables e below (T12.setTop (mkF m 51 #[.val (.ref o0), .val (.ref o1), .val (.int i2), .val (.int i3)] [(.int (1 : Int32)), (.int i2)])) _
  refine XS.ior X12.here hx rfl (hb hby d6_51) rfl ?_
  show Steps p.tables e below (T12.setTop (mkF m 52 #[.val (.ref o0), .val (.ref o1), .val (.int i2), .val (.int i3)] [(.int (i2 ||| (1 : Int32)))])) _
  refine XS.istoreN X12.here hx rfl (hb hby d6_52) rfl (l' := #[.val (.ref o0), .val (.ref o1), .val (.int (i2 ||| (1 : Int32))), .val (.int i3)]) rfl ?_
  show Steps p.tables e below (T12.setTop (mkF m 53 #[.val (.ref o0), .val (.ref o1), .val (.int (i2 ||| (1 : Int32))), .val (.int i3)] [])) _
  refine XS.iinc X12.here hx rfl (hb hby d6_53) rfl (l' := #[.val (.ref o0), .val (.ref o1), .val (.int (i2 ||| (1 : Int32))), .val (.int (i3 + (1 : Int32)))]) rfl ?_
  show Steps p.tables e below (T12.setTop (mkF m 56 #[.val (.ref o0), .val (.ref o1), .val (.int (i2 ||| (1 : Int32))), .val (.int (i3 + (1 : Int32)))] [])) _
  refine XS.goto X12.here hx rfl (pc0 := 56) (pc' := 4) rfl (hb hby d6_56) (by decide) (by decide) ?_
  exact kt
set_option maxRecDepth 65536 in
set_option maxHeartbeats 40000000 in
theorem tn6_le {p : Program} {l : Launch} {e : Env} {R : Room} {s : State} {m : MethodId} {args : Array Value} {below : List Frame} {meth : Method} {c : Code} {T0 : State} {locs : List Loc} {cells slots : Nat} {Z : State} {a0 : Array Value} {h0 : Heap} (o0 : Addr) (o1 : Addr) (i2 : Int32) (i3 : Int32) (w3 : Addr) (cl_w3 : Cell) (z_w3 : Int32) (w6 : Int32) (w7 : Addr) (w9 : Int32) (cl_w7 : Cell) (w11 : Int32) (w13 : Int32)
    (X0 : Stand p l e R s m args below meth c T0 locs cells slots) (hx : p.tables.exec = Jvm.exec) (hZ : Z.Warmed39 s.vm) (hw : ∀ d ∈ tables_1, d.before a0 Z = true) (hby : c.code = prog_27_method_4_code) (hml : c.maxLocals = 4) (hown : s.vm.findClass "com/example/tracewarden/tracewarden/net/Marking" = some m.cls) (e0 : T0.heap = h0) (F_tokens_o0 : Fld Z h0 o0 "com/example/tracewarden/tracewarden/net/Marking" "tokens" "[I" (.ref w3)) (Ar_w3 : Arr Z h0 w3 cl_w3 .int) (S_w3 : cl_w3.slots.size = z_w3.toNatClampNeg) (N_w3 : ¬ z_w3 < 0) (hin18 : ¬ (i3 < 0 ∨ cl_w3.slots.size ≤ (i3).toNatClampNeg)) (hat18 : cl_w3.slots[(i3).toNatClampNeg]? = some (.int w6)) (F_tokens_o1 : Fld Z h0 o1 "com/example/tracewarden/tracewarden/net/Marking" "tokens" "[I" (.ref w7)) (Ar_w7 : Arr Z h0 w7 cl_w7 .int) (hin24 : ¬ (i3 < 0 ∨ cl_w7.slots.size ≤ (i3).toNatClampNeg)) (hat24 : cl_w7.slots[(i3).toNatClampNeg]? = some (.int w9)) (hin36 : ¬ (i3 < 0 ∨ cl_w3.slots.size ≤ (i3).toNatClampNeg)) (hat36 : cl_w3.slots[(i3).toNatClampNeg]? = some (.int w11)) (hin42 : ¬ (i3 < 0 ∨ cl_w7.slots.size ≤ (i3).toNatClampNeg)) (hat42 : cl_w7.slots[(i3).toNatClampNeg]? = some (.int w13)) (hc10 : i3 < z_w3) (hc25 : ¬ (w6 < w9)) (hc43 : ¬ (w13 < w11)) :
    ∃ (T' : State), Stand p l e R s m args below meth c T' locs cells slots ∧ T'.heap = h0 ∧
      ∀ target, Steps p.tables e below (T'.setTop (mkF m 4 #[.val (.ref o0), .val (.ref o1), .val (.int (i2 ||| (0 : Int32))), .val (.int (i3 + (1 : Int32)))] [])) target → Steps p.tables e below (T0.setTop (mkF m 4 #[.val (.ref o0), .val (.ref o1), .val (.int i2), .val (.int i3)] [])) target := by
  -- 3. LAWS
  obtain ⟨T4, X4, e4, st4⟩ := getF X0 hx hZ hown (host := "") (Or.inl (hw _ (List.mem_of_getElem? (i := 10) rfl))) Via.refl e0 F_tokens_o0 (g := (mkF m 6 #[.val (.ref o0), .val (.ref o1), .val (.int i2), .val (.int i3)] [(.ref o0), (.int i3)])) rfl rfl (hb hby d6_6)
  obtain ⟨T5, X5, e5, st5⟩ := getF X4 hx hZ hown (host := "") (Or.inl (hw _ (List.mem_of_getElem? (i := 10) rfl))) Via.refl e4 F_tokens_o0 (g := (mkF m 14 #[.val (.ref o0), .val (.ref o1), .val (.int i2), .val (.int i3)] [(.ref o0)])) rfl rfl (hb hby d6_14)
  obtain ⟨T8, X8, e8, st8⟩ := getF X5 hx hZ hown (host := "") (Or.inl (hw _ (List.mem_of_getElem? (i := 10) rfl))) Via.refl e5 F_tokens_o1 (g := (mkF m 20 #[.val (.ref o0), .val (.ref o1), .val (.int i2), .val (.int i3)] [(.ref o1), (.int w6)])) rfl rfl (hb hby d6_20)
  obtain ⟨T10, X10, e10, st10⟩ := getF X8 hx hZ hown (host := "") (Or.inl (hw _ (List.mem_of_getElem? (i := 10) rfl))) Via.refl e8 F_tokens_o0 (g := (mkF m 32 #[.val (.ref o0), .val (.ref o1), .val (.int i2), .val (.int i3)] [(.ref o0), (.int i2)])) rfl rfl (hb hby d6_32)
  obtain ⟨T12, X12, e12, st12⟩ := getF X10 hx hZ hown (host := "") (Or.inl (hw _ (List.mem_of_getElem? (i := 10) rfl))) Via.refl e10 F_tokens_o1 (g := (mkF m 38 #[.val (.ref o0), .val (.ref o1), .val (.int i2), .val (.int i3)] [(.ref o1), (.int w11), (.int i2)])) rfl rfl (hb hby d6_38)
  refine ⟨T12, X12, e12, fun target kt => ?_⟩
  -- 4. STEPS
  show Steps p.tables e below (T0.setTop (mkF m 4 #[.val (.ref o0), .val (.ref o1), .val (.int i2), .val (.int i3)] [])) _
  refine XS.iloadN X0.here hx rfl (hb hby d6_4) rfl ?_
  show Steps p.tables e below (T0.setTop (mkF m 5 #[.val (.ref o0), .val (.ref o1), .val (.int i2), .val (.int i3)] [(.int i3)])) _
  refine XS.aloadN X0.here hx rfl (hb hby d6_5) rfl rfl ?_
  show Steps p.tables e below (T0.setTop (mkF m 6 #[.val (.ref o0), .val (.ref o1), .val (.int i2), .val (.int i3)] [(.ref o0), (.int i3)])) _
  refine st4 _ ?_
  show Steps p.tables e below (T4.setTop (mkF m 9 #[.val (.ref o0), .val (.ref o1), .val (.int i2), .val (.int i3)] [(.ref w3), (.int i3)])) _
  refine X4.arraylength hx (by rw [e4]; exact Ar_w3.1) (State.isArrayOf_alike hZ.alike Ar_w3.2.1) (g := (mkF m 9 #[.val (.ref o0), .val (.ref o1), .val (.int i2), .val (.int i3)] [(.ref w3), (.int i3)])) rfl rfl (hb hby d6_9) _ ?_
  rw [len_of S_w3 N_w3]
  show Steps p.tables e below (T4.setTop (mkF m 10 #[.val (.ref o0), .val (.ref o1), .val (.int i2), .val (.int i3)] [(.int z_w3), (.int i3)])) _
  refine XS.icmpNo X4.here hx rfl (hb hby d6_10) rfl (tlt hc10).2.1 ?_
  show Steps p.tables e below (T4.setTop (mkF m 13 #[.val (.ref o0), .val (.ref o1), .val (.int i2), .val (.int i3)] [])) _
  refine XS.aloadN X4.here hx rfl (hb hby d6_13) rfl rfl ?_
  show Steps p.tables e below (T4.setTop (mkF m 14 #[.val (.ref o0), .val (.ref o1), .val (.int i2), .val (.int i3)] [(.ref o0)])) _
  refine st5 _ ?_
  show Steps p.tables e below (T5.setTop (mkF m 17 #[.val (.ref o0), .val (.ref o1), .val (.int i2), .val (.int i3)] [(.ref w3)])) _
  refine XS.iloadN X5.here hx rfl (hb hby d6_17) rfl ?_
  show Steps p.tables e below (T5.setTop (mkF m 18 #[.val (.ref o0), .val (.ref o1), .val (.int i2), .val (.int i3)] [(.int i3), (.ref w3)])) _
  refine X5.iaload hx (j := i3) (v := (.int w6)) (by rw [e5]; exact Ar_w3.1) (State.isArrayOf_alike hZ.alike Ar_w3.2.1) Ar_w3.2.2 hin18 hat18 (g := (mkF m 18 #[.val (.ref o0), .val (.ref o1), .val (.int i2), .val (.int i3)] [(.int i3), (.ref w3)])) rfl rfl (hb hby d6_18) _ ?_
  show Steps p.tables e below (T5.setTop (mkF m 19 #[.val (.ref o0), .val (.ref o1), .val (.int i2), .val (.int i3)] [(.int w6)])) _
  refine XS.aloadN X5.here hx rfl (hb hby d6_19) rfl rfl ?_
  show Steps p.tables e below (T5.setTop (mkF m 20 #[.val (.ref o0), .val (.ref o1), .val (.int i2), .val (.int i3)] [(.ref o1), (.int w6)])) _
  refine st8 _ ?_
  show Steps p.tables e below (T8.setTop (mkF m 23 #[.val (.ref o0), .val (.ref o1), .val (.int i2), .val (.int i3)] [(.ref w7), (.int w6)])) _
  refine XS.iloadN X8.here hx rfl (hb hby d6_23) rfl ?_
  show Steps p.tables e below (T8.setTop (mkF m 24 #[.val (.ref o0), .val (.ref o1), .val (.int i2), .val (.int i3)] [(.int i3), (.ref w7), (.int w6)])) _
  refine X8.iaload hx (j := i3) (v := (.int w9)) (by rw [e8]; exact Ar_w7.1) (State.isArrayOf_alike hZ.alike Ar_w7.2.1) Ar_w7.2.2 hin24 hat24 (g := (mkF m 24 #[.val (.ref o0), .val (.ref o1), .val (.int i2), .val (.int i3)] [(.int i3), (.ref w7), (.int w6)])) rfl rfl (hb hby d6_24) _ ?_
  show Steps p.tables e below (T8.setTop (mkF m 25 #[.val (.ref o0), .val (.ref o1), .val (.int i2), .val (.int i3)] [(.int w9), (.int w6)])) _
  refine XS.icmpYes X8.here hx rfl (pc0 := 25) (pc' := 30) rfl (hb hby d6_25) rfl (flt hc25).2.1 (by decide) (by decide) ?_
  show Steps p.tables e below (T8.setTop (mkF m 30 #[.val (.ref o0), .val (.ref o1), .val (.int i2), .val (.int i3)] [])) _
  refine XS.iloadN X8.here hx rfl (hb hby d6_30) rfl ?_
  show Steps p.tables e below (T8.setTop (mkF m 31 #[.val (.ref o0), .val (.ref o1), .val (.int i2), .val (.int i3)] [(.int i2)])) _
  refine XS.aloadN X8.here hx rfl (hb hby d6_31) rfl rfl ?_
  show Steps p.tables e below (T8.setTop (mkF m 32 #[.val (.ref o0), .val (.ref o1), .val (.int i2), .val (.int i3)] [(.ref o0), (.int i2)])) _
  refine st10 _ ?_
  show Steps p.tables e below (T10.setTop (mkF m 35 #[.val (.ref o0), .val (.ref o1), .val (.int i2), .val (.int i3)] [(.ref w3), (.int i2)])) _
  refine XS.iloadN X10.here hx rfl (hb hby d6_35) rfl ?_
  show Steps p.tables e below (T10.setTop (mkF m 36 #[.val (.ref o0), .val (.ref o1), .val (.int i2), .val (.int i3)] [(.int i3), (.ref w3), (.int i2)])) _
  refine X10.iaload hx (j := i3) (v := (.int w11)) (by rw [e10]; exact Ar_w3.1) (State.isArrayOf_alike hZ.alike Ar_w3.2.1) Ar_w3.2.2 hin36 hat36 (g := (mkF m 36 #[.val (.ref o0), .val (.ref o1), .val (.int i2), .val (.int i3)] [(.int i3), (.ref w3), (.int i2)])) rfl rfl (hb hby d6_36) _ ?_
  show Steps p.tables e below (T10.setTop (mkF m 37 #[.val (.ref o0), .val (.ref o1), .val (.int i2), .val (.int i3)] [(.int w11), (.int i2)])) _
  refine XS.aloadN X10.here hx rfl (hb hby d6_37) rfl rfl ?_
  show Steps p.tables e below (T10.setTop (mkF m 38 #[.val (.ref o0), .val (.ref o1), .val (.int i2), .val (.int i3)] [(.ref o1), (.int w11), (.int i2)])) _
  refine st12 _ ?_
  show Steps p.tables e below (T12.setTop (mkF m 41 #[.val (.ref o0), .val (.ref o1), .val (.int i2), .val (.int i3)] [(.ref w7), (.int w11), (.int i2)])) _
  refine XS.iloadN X12.here hx rfl (hb hby d6_41) rfl ?_
  show Steps p.tables e below (T12.setTop (mkF m 42 #[.val (.ref o0), .val (.ref o1), .val (.int i2), .val (.int i3)] [(.int i3), (.ref w7), (.int w11), (.int i2)])) _
  refine X12.iaload hx (j := i3) (v := (.int w13)) (by rw [e12]; exact Ar_w7.1) (State.isArrayOf_alike hZ.alike Ar_w7.2.1) Ar_w7.2.2 hin42 hat42 (g := (mkF m 42 #[.val (.ref o0), .val (.ref o1), .val (.int i2), .val (.int i3)] [(.int i3), (.ref w7), (.int w11), (.int i2)])) rfl rfl (hb hby d6_42) _ ?_
  show Steps p.tables e below (T12.setTop (mkF m 43 #[.val (.ref o0), .val (.ref o1), .val (.int i2), .val (.int i3)] [(.int w13), (.int w11), (.int i2)])) _
  refine XS.icmpYes X12.here hx rfl (pc0 := 43) (pc' := 50) rfl (hb hby d6_43) rfl (flt hc43).2.2.2 (by decide) (by decide) ?_
  show Steps p.tables e below (T12.setTop (mkF m 50 #[.val (.ref o0), .val (.ref o1), .val (.int i2), .val (.int i3)] [(.int i2)])) _
  refine XS.iconst X12.here hx rfl (hb hby d6_50) ?_
  show Steps p.tables e below (T12.setTop (mkF m 51 #[.val (.ref o0), .val (.ref o1), .val (.int i2), .val (.int i3)] [(.int (0 : Int32)), (.int i2)])) _
  refine XS.ior X12.here hx rfl (hb hby d6_51) rfl ?_
  show Steps p.tables e below (T12.setTop (mkF m 52 #[.val (.ref o0), .val (.ref o1), .val (.int i2), .val (.int i3)] [(.int (i2 ||| (0 : Int32)))])) _
  refine XS.istoreN X12.here hx rfl (hb hby d6_52) rfl (l' := #[.val (.ref o0), .val (.ref o1), .val (.int (i2 ||| (0 : Int32))), .val (.int i3)]) rfl ?_
  show Steps p.tables e below (T12.setTop (mkF m 53 #[.val (.ref o0), .val (.ref o1), .val (.int (i2 ||| (0 : Int32))), .val (.int i3)] [])) _
  refine XS.iinc X12.here hx rfl (hb hby d6_53) rfl (l' := #[.val (.ref o0), .val (.ref o1), .val (.int (i2 ||| (0 : Int32))), .val (.int (i3 + (1 : Int32)))]) rfl ?_
  show Steps p.tables e below (T12.setTop (mkF m 56 #[.val (.ref o0), .val (.ref o1), .val (.int (i2 ||| (0 : Int32))), .val (.int (i3 + (1 : Int32)))] [])) _
  refine XS.goto X12.here hx rfl (pc0 := 56) (pc' := 4) rfl (hb hby d6_56) (by decide) (by decide) ?_
  exact kt
set_option maxRecDepth 65536 in
set_option maxHeartbeats 40000000 in
theorem tn6_mid {p : Program} {l : Launch} {e : Env} {R : Room} {s : State} {m : MethodId} {args : Array Value} {below : List Frame} {meth : Method} {c : Code} {T0 : State} {locs : List Loc} {cells slots : Nat} {Z : State} {a0 : Array Value} {h0 : Heap} (o0 : Addr) (o1 : Addr) (s2 : Slot) (i3 : Int32) (w3 : Addr) (cl_w3 : Cell) (z_w3 : Int32) (w6 : Int32) (w7 : Addr) (w9 : Int32) (cl_w7 : Cell)
    (X0 : Stand p l e R s m args below meth c T0 locs cells slots) (hx : p.tables.exec = Jvm.exec) (hZ : Z.Warmed39 s.vm) (hw : ∀ d ∈ tables_1, d.before a0 Z = true) (hby : c.code = prog_27_method_4_code) (hml : c.maxLocals = 4) (hown : s.vm.findClass "com/example/tracewarden/tracewarden/net/Marking" = some m.cls) (e0 : T0.heap = h0) (F_tokens_o0 : Fld Z h0 o0 "com/example/tracewarden/tracewarden/net/Marking" "tokens" "[I" (.ref w3)) (Ar_w3 : Arr Z h0 w3 cl_w3 .int) (S_w3 : cl_w3.slots.size = z_w3.toNatClampNeg) (N_w3 : ¬ z_w3 < 0) (hin18 : ¬ (i3 < 0 ∨ cl_w3.slots.size ≤ (i3).toNatClampNeg)) (hat18 : cl_w3.slots[(i3).toNatClampNeg]? = some (.int w6)) (F_tokens_o1 : Fld Z h0 o1 "com/example/tracewarden/tracewarden/net/Marking" "tokens" "[I" (.ref w7)) (Ar_w7 : Arr Z h0 w7 cl_w7 .int) (hin24 : ¬ (i3 < 0 ∨ cl_w7.slots.size ≤ (i3).toNatClampNeg)) (hat24 : cl_w7.slots[(i3).toNatClampNeg]? = some (.int w9)) (hc10 : i3 < z_w3) (hc25 : w6 < w9) :
    ∃ (T' : State), Stand p l e R s m args below meth c T' locs cells slots ∧ T'.heap = h0 ∧
      ∀ target, Steps p.tables e below (T'.setTop (mkF m 28 #[.val (.ref o0), .val (.ref o1), s2, .val (.int i3)] [])) target → Steps p.tables e below (T0.setTop (mkF m 4 #[.val (.ref o0), .val (.ref o1), s2, .val (.int i3)] [])) target := by
  -- 3. LAWS
  obtain ⟨T4, X4, e4, st4⟩ := getF X0 hx hZ hown (host := "") (Or.inl (hw _ (List.mem_of_getElem? (i := 10) rfl))) Via.refl e0 F_tokens_o0 (g := (mkF m 6 #[.val (.ref o0), .val (.ref o1), s2, .val (.int i3)] [(.ref o0), (.int i3)])) rfl rfl (hb hby d6_6)
  obtain ⟨T5, X5, e5, st5⟩ := getF X4 hx hZ hown (host := "") (Or.inl (hw _ (List.mem_of_getElem? (i := 10) rfl))) Via.refl e4 F_tokens_o0 (g := (mkF m 14 #[.val (.ref o0), .val (.ref o1), s2, .val (.int i3)] [(.ref o0)])) rfl rfl (hb hby d6_14)
  obtain ⟨T8, X8, e8, st8⟩ := getF X5 hx hZ hown (host := "") (Or.inl (hw _ (List.mem_of_getElem? (i := 10) rfl))) Via.refl e5 F_tokens_o1 (g := (mkF m 20 #[.val (.ref o0), .val (.ref o1), s2, .val (.int i3)] [(.ref o1), (.int w6)])) rfl rfl (hb hby d6_20)
  refine ⟨T8, X8, e8, fun target kt => ?_⟩
  -- 4. STEPS
  show Steps p.tables e below (T0.setTop (mkF m 4 #[.val (.ref o0), .val (.ref o1), s2, .val (.int i3)] [])) _
  refine XS.iloadN X0.here hx rfl (hb hby d6_4) rfl ?_
  show Steps p.tables e below (T0.setTop (mkF m 5 #[.val (.ref o0), .val (.ref o1), s2, .val (.int i3)] [(.int i3)])) _
  refine XS.aloadN X0.here hx rfl (hb hby d6_5) rfl rfl ?_
  show Steps p.tables e below (T0.setTop (mkF m 6 #[.val (.ref o0), .val (.ref o1), s2, .val (.int i3)] [(.ref o0), (.int i3)])) _
  refine st4 _ ?_
  show Steps p.tables e below (T4.setTop (mkF m 9 #[.val (.ref o0), .val (.ref o1), s2, .val (.int i3)] [(.ref w3), (.int i3)])) _
  refine X4.arraylength hx (by rw [e4]; exact Ar_w3.1) (State.isArrayOf_alike hZ.alike Ar_w3.2.1) (g := (mkF m 9 #[.val (.ref o0), .val (.ref o1), s2, .val (.int i3)] [(.ref w3), (.int i3)])) rfl rfl (hb hby d6_9) _ ?_
  rw [len_of S_w3 N_w3]
  show Steps p.tables e below (T4.setTop (mkF m 10 #[.val (.ref o0), .val (.ref o1), s2, .val (.int i3)] [(.int z_w3), (.int i3)])) _
  refine XS.icmpNo X4.here hx rfl (hb hby d6_10) rfl (tlt hc10).2.1 ?_
  show Steps p.tables e below (T4.setTop (mkF m 13 #[.val (.ref o0), .val (.ref o1), s2, .val (.int i3)] [])) _
  refine XS.aloadN X4.here hx rfl (hb hby d6_13) rfl rfl ?_
  show Steps p.tables e below (T4.setTop (mkF m 14 #[.val (.ref o0), .val (.ref o1), s2, .val (.int i3)] [(.ref o0)])) _
  refine st5 _ ?_
  show Steps p.tables e below (T5.setTop (mkF m 17 #[.val (.ref o0), .val (.ref o1), s2, .val (.int i3)] [(.ref w3)])) _
  refine XS.iloadN X5.here hx rfl (hb hby d6_17) rfl ?_
  show Steps p.tables e below (T5.setTop (mkF m 18 #[.val (.ref o0), .val (.ref o1), s2, .val (.int i3)] [(.int i3), (.ref w3)])) _
  refine X5.iaload hx (j := i3) (v := (.int w6)) (by rw [e5]; exact Ar_w3.1) (State.isArrayOf_alike hZ.alike Ar_w3.2.1) Ar_w3.2.2 hin18 hat18 (g := (mkF m 18 #[.val (.ref o0), .val (.ref o1), s2, .val (.int i3)] [(.int i3), (.ref w3)])) rfl rfl (hb hby d6_18) _ ?_
  show Steps p.tables e below (T5.setTop (mkF m 19 #[.val (.ref o0), .val (.ref o1), s2, .val (.int i3)] [(.int w6)])) _
  refine XS.aloadN X5.here hx rfl (hb hby d6_19) rfl rfl ?_
  show Steps p.tables e below (T5.setTop (mkF m 20 #[.val (.ref o0), .val (.ref o1), s2, .val (.int i3)] [(.ref o1), (.int w6)])) _
  refine st8 _ ?_
  show Steps p.tables e below (T8.setTop (mkF m 23 #[.val (.ref o0), .val (.ref o1), s2, .val (.int i3)] [(.ref w7), (.int w6)])) _
  refine XS.iloadN X8.here hx rfl (hb hby d6_23) rfl ?_
  show Steps p.tables e below (T8.setTop (mkF m 24 #[.val (.ref o0), .val (.ref o1), s2, .val (.int i3)] [(.int i3), (.ref w7), (.int w6)])) _
  refine X8.iaload hx (j := i3) (v := (.int w9)) (by rw [e8]; exact Ar_w7.1) (State.isArrayOf_alike hZ.alike Ar_w7.2.1) Ar_w7.2.2 hin24 hat24 (g := (mkF m 24 #[.val (.ref o0), .val (.ref o1), s2, .val (.int i3)] [(.int i3), (.ref w7), (.int w6)])) rfl rfl (hb hby d6_24) _ ?_
  show Steps p.tables e below (T8.setTop (mkF m 25 #[.val (.ref o0), .val (.ref o1), s2, .val (.int i3)] [(.int w9), (.int w6)])) _
  refine XS.icmpNo X8.here hx rfl (hb hby d6_25) rfl (tlt hc25).2.1 ?_
  exact kt
set_option maxRecDepth 65536 in
set_option maxHeartbeats 40000000 in
theorem tn6_out {p : Program} {l : Launch} {e : Env} {R : Room} {s : State} {m : MethodId} {args : Array Value} {below : List Frame} {meth : Method} {c : Code} {T0 : State} {locs : List Loc} {cells slots : Nat} {Z : State} {a0 : Array Value} {h0 : Heap} (o0 : Addr) (s1 : Slot) (s2 : Slot) (i3 : Int32) (w3 : Addr) (cl_w3 : Cell) (z_w3 : Int32)
    (X0 : Stand p l e R s m args below meth c T0 locs cells slots) (hx : p.tables.exec = Jvm.exec) (hZ : Z.Warmed39 s.vm) (hw : ∀ d ∈ tables_1, d.before a0 Z = true) (hby : c.code = prog_27_method_4_code) (hml : c.maxLocals = 4) (hown : s.vm.findClass "com/example/tracewarden/tracewarden/net/Marking" = some m.cls) (e0 : T0.heap = h0) (F_tokens_o0 : Fld Z h0 o0 "com/example/tracewarden/tracewarden/net/Marking" "tokens" "[I" (.ref w3)) (Ar_w3 : Arr Z h0 w3 cl_w3 .int) (S_w3 : cl_w3.slots.size = z_w3.toNatClampNeg) (N_w3 : ¬ z_w3 < 0) (hc10 : ¬ (i3 < z_w3)) :
    ∃ (T' : State), Stand p l e R s m args below meth c T' locs cells slots ∧ T'.heap = h0 ∧
      ∀ target, Steps p.tables e below (T'.setTop (mkF m 59 #[.val (.ref o0), s1, s2, .val (.int i3)] [])) target → Steps p.tables e below (T0.setTop (mkF m 4 #[.val (.ref o0), s1, s2, .val (.int i3)] [])) target := by
  -- 3. LAWS
  obtain ⟨T4, X4, e4, st4⟩ := getF X0 hx hZ hown (host := "") (Or.inl (hw _ (List.mem_of_getElem? (i := 10) rfl))) Via.refl e0 F_tokens_o0 (g := (mkF m 6 #[.val (.ref o0), s1, s2, .val (.int i3)] [(.ref o0), (.int i3)])) rfl rfl (hb hby d6_6)
  refine ⟨T4, X4, e4, fun target kt => ?_⟩
  -- 4. STEPS
  show Steps p.tables e below (T0.setTop (mkF m 4 #[.val (.ref o0), s1, s2, .val (.int i3)] [])) _
  refine XS.iloadN X0.here hx rfl (hb hby d6_4) rfl ?_
  show Steps p.tables e below (T0.setTop (mkF m 5 #[.val (.ref o0), s1, s2, .val (.int i3)] [(.int i3)])) _
  refine XS.aloadN X0.here hx rfl (hb hby d6_5) rfl rfl ?_
  show Steps p.tables e below (T0.setTop (mkF m 6 #[.val (.ref o0), s1, s2, .val (.int i3)] [(.ref o0), (.int i3)])) _
  refine st4 _ ?_
  show Steps p.tables e below (T4.setTop (mkF m 9 #[.val (.ref o0), s1, s2, .val (.int i3)] [(.ref w3), (.int i3)])) _
  refine X4.arraylength hx (by rw [e4]; exact Ar_w3.1) (State.isArrayOf_alike hZ.alike Ar_w3.2.1) (g := (mkF m 9 #[.val (.ref o0), s1, s2, .val (.int i3)] [(.ref w3), (.int i3)])) rfl rfl (hb hby d6_9) _ ?_
  rw [len_of S_w3 N_w3]
  show Steps p.tables e below (T4.setTop (mkF m 10 #[.val (.ref o0), s1, s2, .val (.int i3)] [(.int z_w3), (.int i3)])) _
  refine XS.icmpYes X4.here hx rfl (pc0 := 10) (pc' := 59) rfl (hb hby d6_10) rfl (flt hc10).2.1 (by decide) (by decide) ?_
  exact kt
set_option maxRecDepth 65536 in
set_option maxHeartbeats 40000000 in
theorem loop6 {p : Program} {l : Launch} {e : Env} {R : Room} {s : State} {m : MethodId} {args : Array Value} {below : List Frame} {meth : Method} {c : Code} {locs : List Loc} {cells slots : Nat} {Z : State} {a0 : Array Value} {h0 : Heap} (o0 o1 w3 w7 : Addr) (f g : Nat → Int32) (n : Nat) (hn : n ≤ 255) (hx : p.tables.exec = Jvm.exec) (hZ : Z.Warmed39 s.vm) (hw : ∀ d ∈ tables_1, d.before a0 Z = true) (hby : c.code = prog_27_method_4_code) (hml : c.maxLocals = 4) (hown : s.vm.findClass "com/example/tracewarden/tracewarden/net/Marking" = some m.cls) (F : Fld Z h0 o0 "com/example/tracewarden/tracewarden/net/Marking" "tokens" "[I" (.ref w3)) (G : Fld Z h0 o1 "com/example/tracewarden/tracewarden/net/Marking" "tokens" "[I" (.ref w7)) (cl : Cell) (Ar : Arr Z h0 w3 cl .int) (S : cl.slots.size = n) (hat : ∀ j, j < n → cl.slots[j]? = some (.int (f j))) (cl' : Cell) (Ar' : Arr Z h0 w7 cl' .int) (S' : cl'.slots.size = n) (hat' : ∀ j, j < n → cl'.slots[j]? = some (.int (g j))) :
    ∀ (k i : Nat) (b : Bool) (T0 : State), i + k = n → Stand p l e R s m args below meth c T0 locs cells slots → T0.heap = h0 →
      ∃ (T' : State) (j : Nat) (b' : Bool), Stand p l e R s m args below meth c T' locs cells slots ∧ T'.heap = h0 ∧
        (((own_ge f g k i && (b || own_gt f g k i)) = false ∧ ∀ target, Steps p.tables e below (T'.setTop (mkF m 28 #[.val (.ref o0), .val (.ref o1), .val (.int (own_z b')), .val (.int (Int32.ofNat j))] [])) target → Steps p.tables e below (T0.setTop (mkF m 4 #[.val (.ref o0), .val (.ref o1), .val (.int (own_z b)), .val (.int (Int32.ofNat i))] [])) target) ∨
         ((own_ge f g k i && (b || own_gt f g k i)) = b' ∧ ∀ target, Steps p.tables e below (T'.setTop (mkF m 59 #[.val (.ref o0), .val (.ref o1), .val (.int (own_z b')), .val (.int (Int32.ofNat j))] [])) target → Steps p.tables e below (T0.setTop (mkF m 4 #[.val (.ref o0), .val (.ref o1), .val (.int (own_z b)), .val (.int (Int32.ofNat i))] [])) target)) := by
  intro k
  induction k with
  | zero =>
    intro i b T0 hi X0 e0
    obtain rfl : i = n := by omega
    obtain ⟨T1, X1, e1, st1⟩ := tn6_out o0 (.val (.ref o1)) (.val (.int (own_z b))) (Int32.ofNat i) w3 cl (Int32.ofNat i) X0 hx hZ hw hby hml hown e0 F Ar (own_size S hn) (own_nn hn) Int32.lt_irrefl
    exact ⟨T1, i, b, X1, e1, Or.inr ⟨by simp [own_ge, own_gt], st1⟩⟩
  | succ k ih =>
    intro i b T0 hi X0 e0
    have a1 := own_inb S hn (show i < n by omega)
    have a2 := own_inb S' hn (show i < n by omega)
    have b1 : cl.slots[(Int32.ofNat i).toNatClampNeg]? = some (.int (f i)) := by rw [own_n32 (by omega)]; exact hat i (by omega)
    have b2 : cl'.slots[(Int32.ofNat i).toNatClampNeg]? = some (.int (g i)) := by rw [own_n32 (by omega)]; exact hat' i (by omega)
    have hlt := own_lt (show i < n by omega) hn
    by_cases q : f i < g i
    · obtain ⟨T1, X1, e1, st1⟩ := tn6_mid o0 o1 (.val (.int (own_z b))) (Int32.ofNat i) w3 cl (Int32.ofNat n) (f i) w7 (g i) cl' X0 hx hZ hw hby hml hown e0 F Ar (own_size S hn) (own_nn hn) a1 b1 G Ar' a2 b2 hlt q
      exact ⟨T1, i, b, X1, e1, Or.inl ⟨by simp [own_ge, q], st1⟩⟩
    · by_cases r : g i < f i
      · obtain ⟨T1, X1, e1, st1⟩ := tn6_gt o0 o1 (own_z b) (Int32.ofNat i) w3 cl (Int32.ofNat n) (f i) w7 (g i) cl' (f i) (g i) X0 hx hZ hw hby hml hown e0 F Ar (own_size S hn) (own_nn hn) a1 b1 G Ar' a2 b2 a1 b1 a2 b2 hlt q r
        rw [own_one, own_or1] at st1
        obtain ⟨T', j, b', X', e', st⟩ := ih (i + 1) true T1 (by omega) X1 e1
        refine ⟨T', j, b', X', e', ?_⟩
        rw [show (own_ge f g (k + 1) i && (b || own_gt f g (k + 1) i)) = (own_ge f g k (i + 1) && (true || own_gt f g k (i + 1))) from by simp [own_ge, own_gt, q, r]]
        exact st.imp (fun z => ⟨z.1, fun target h => st1 target (z.2 target h)⟩) (fun z => ⟨z.1, fun target h => st1 target (z.2 target h)⟩)
      · obtain ⟨T1, X1, e1, st1⟩ := tn6_le o0 o1 (own_z b) (Int32.ofNat i) w3 cl (Int32.ofNat n) (f i) w7 (g i) cl' (f i) (g i) X0 hx hZ hw hby hml hown e0 F Ar (own_size S hn) (own_nn hn) a1 b1 G Ar' a2 b2 a1 b1 a2 b2 hlt q r
        rw [own_one, own_or0] at st1
        obtain ⟨T', j, b', X', e', st⟩ := ih (i + 1) b T1 (by omega) X1 e1
        refine ⟨T', j, b', X', e', ?_⟩
        rw [show (own_ge f g (k + 1) i && (b || own_gt f g (k + 1) i)) = (own_ge f g k (i + 1) && (b || own_gt f g k (i + 1))) from by simp [own_ge, own_gt, q, r]]
        exact st.imp (fun z => ⟨z.1, fun target h => st1 target (z.2 target h)⟩) (fun z => ⟨z.1, fun target h => st1 target (z.2 target h)⟩)
theorem ef_6 (m : MethodId) (x0 x1 : Addr) : entryFrame m #[(.ref x0), (.ref x1)] 4 = mkF m 0 #[.val (.ref x0), .val (.ref x1), .unset, .unset] [] := by first | (simp [entryFrame, mkF, argsToLocals, Value.category]; done) | rfl
set_option maxRecDepth 65536 in
set_option maxHeartbeats 40000000 in
theorem rm6 (l : Launch) (Z : State) (a0 : Array Value) (hw : ∀ d ∈ tables_1, d.before a0 Z = true) (ws : List Jvm.Cond) (o0 o1 w3 w7 : Addr) (n : Nat) (f g : Nat → Int32) (hn : n ≤ 255) (h0 : Heap) (n0 : Nat) (Z0 : n0 ≤ h0.size) (F : Fld Z h0 o0 "com/example/tracewarden/tracewarden/net/Marking" "tokens" "[I" (.ref w3)) (G : Fld Z h0 o1 "com/example/tracewarden/tracewarden/net/Marking" "tokens" "[I" (.ref w7)) (IA : own_IA Z h0 w3 n f) (IB : own_IA Z h0 w7 n g) :
    MetFree l (⟨"com/example/tracewarden/tracewarden/net/Marking", "strictlyCovers", "(Lcom/example/tracewarden/tracewarden/net/Marking;)Z"⟩ : MethodName) (head1 (Jvm.Cond.code (⟨"com/example/tracewarden/tracewarden/net/Marking", "strictlyCovers", "(Lcom/example/tracewarden/tracewarden/net/Marking;)Z"⟩ : MethodName) prog_27_method_4_code 4 (some .boolean) :: ws) ({ frames := 0, cells := 0, slots := 0, locals := 0 } : Room)) (fun a U => a = #[(.ref o0), (.ref o1)] ∧ Z.Warmed39 U.vm ∧ U.heap = h0) (fun _ _ _ _ _ => True) (fun _ U o U' => ∃ v L, o = .returned v ∧ QP (own_z (own_ge f g n 0 && own_gt f g n 0)) h0 n0 v U'.heap L ∧ FrameEnd U o U' L ({ frames := 0, cells := 0, slots := 0, locals := 0 } : Room).cells ({ frames := 0, cells := 0, slots := 0, locals := 0 } : Room).slots) := by
  refine MetFree.of_bodySF (plainFor_of_name pn_1) hisR ?_
  intro p e s m args below meth c s₁ Bd hml0 hP hK
  obtain ⟨rfl, hZ, hh⟩ := hP
  have hx := Bd.exec
  have hby := Bd.bytes
  have hml : c.maxLocals = 4 := hml0
  have hown : s.vm.findClass "com/example/tracewarden/tracewarden/net/Marking" = some m.cls := findClass_of_methodNamed Bd.named
  have X0 : Stand p l e ({ frames := 0, cells := 0, slots := 0, locals := 0 } : Room) s m #[(.ref o0), (.ref o1)] below meth c s₁ [] 0 0 := Stand.of_body Bd
  have e0 : s₁.heap = h0 := by rw [← hh, Bd.state]; rfl
  have N0 := Fr.nil n0
  have pre0 : ∀ t, Steps p.tables e below (s₁.setTop (mkF m 0 #[.val (.ref o0), .val (.ref o1), .unset, .unset] [])) t → Steps p.tables e below (s₁.setTop (entryFrame m #[(.ref o0), (.ref o1)] 4)) t := fun t k => castTop (ef_6 m o0 o1) k
  obtain ⟨cl, Ar, q1, S, H⟩ := IA
  obtain ⟨cl', Ar', q1', S', H'⟩ := IB
  obtain ⟨T9, j9, b9, X9, e9, st9⟩ := loop6 o0 o1 w3 w7 f g n hn hx hZ hw hby hml hown F G cl Ar S H cl' Ar' S' H' n 0 false s₁ (by omega) X0 e0
  rw [Bool.false_or] at st9
  have chain : ∀ target, Steps p.tables e below (s₁.setTop (mkF m 4 #[.val (.ref o0), .val (.ref o1), .val (.int (own_z false)), .val (.int (Int32.ofNat 0))] [])) target → Steps p.tables e below (s₁.setTop (mkF m 0 #[.val (.ref o0), .val (.ref o1), .unset, .unset] [])) target := by
    intro target kt
    show Steps p.tables e below (s₁.setTop (mkF m 0 #[.val (.ref o0), .val (.ref o1), .unset, .unset] [])) _
    refine XS.iconst X0.here hx rfl (hb hby d6_0) ?_
    show Steps p.tables e below (s₁.setTop (mkF m 1 #[.val (.ref o0), .val (.ref o1), .unset, .unset] [(.int (0 : Int32))])) _
    refine XS.istoreN X0.here hx rfl (hb hby d6_1) rfl (l' := #[.val (.ref o0), .val (.ref o1), .val (.int (0 : Int32)), .unset]) rfl ?_
    show Steps p.tables e below (s₁.setTop (mkF m 2 #[.val (.ref o0), .val (.ref o1), .val (.int (0 : Int32)), .unset] [])) _
    refine XS.iconst X0.here hx rfl (hb hby d6_2) ?_
    show Steps p.tables e below (s₁.setTop (mkF m 3 #[.val (.ref o0), .val (.ref o1), .val (.int (0 : Int32)), .unset] [(.int (0 : Int32))])) _
    refine XS.istoreN X0.here hx rfl (hb hby d6_3) rfl (l' := #[.val (.ref o0), .val (.ref o1), .val (.int (0 : Int32)), .val (.int (0 : Int32))]) rfl ?_
    exact kt
  rcases st9 with ⟨q9, st9⟩ | ⟨q9, st9⟩
  · obtain ⟨fs, hr, hrun, hended, hW, hsame⟩ := X9.leave (v := some (.int (0 : Int32))) (fun h => by rw [Bd.returns] at h; cases h)
    refine ⟨_, _, pre0 _ (chain _ (st9 _ ?_)), hrun, hended, _, _, rfl, ⟨by rw [q9]; rfl, N0, e9⟩, ⟨_, rfl⟩, hW, hsame.mono (by decide) (by decide)⟩
    refine XS.iconst X9.here hx rfl (hb hby d6_28) ?_
    exact retN X9 hx (t := .boolean) Bd.returns (by simp) (hb hby d6_29) hr
  · obtain ⟨fs, hr, hrun, hended, hW, hsame⟩ := X9.leave (v := some (.int (own_z b9))) (fun h => by rw [Bd.returns] at h; cases h)
    refine ⟨_, _, pre0 _ (chain _ (st9 _ ?_)), hrun, hended, _, _, rfl, ⟨by rw [q9], N0, e9⟩, ⟨_, rfl⟩, hW, hsame.mono (by decide) (by decide)⟩
    refine XS.iloadN X9.here hx rfl (hb hby d6_59) rfl ?_
    exact retN X9 hx (t := .boolean) Bd.returns (by simp) (hb hby d6_60) (by rw [own_nar]; exact hr)
set_option maxRecDepth 65536 in
set_option maxHeartbeats 40000000 in
theorem own_fill0 {p : Program} {l : Launch} {e : Env} {s : State} {m : MethodId} {args : Array Value} {below : List Frame} {meth : Method} {c : Code} {T : State} {Z : State} {a0 : Array Value} {h0 : Heap} {locs : List Loc} (i0 i1 i2 : Int64) (i3 c0 d0 c1 d1 c2 d2 : Int32) (b1 b2 : Addr) (X1 : Stand p l e room_1 s m args below meth c T locs 2 6) (hx : p.tables.exec = Jvm.exec) (hZ : Z.Warmed39 s.vm) (hw : ∀ d ∈ tables_1, d.before a0 Z = true) (hby : c.code = code) (hown : s.vm.findClass "com/example/tracewarden/tracewarden/net/MarkingStrictlyCoversPinLaw" = some m.cls) (e1 : T.heap = h0) {n0 : Nat} (Z1 : n0 ≤ h0.size) (N1 : Fr n0 locs) (g_b1 : n0 ≤ b1) (g_b2 : n0 ≤ b2) (hne : b1 ≠ b2) (A1 : own_IA Z h0 b1 0 (fun _ => 0)) (B1 : own_IA Z h0 b2 0 (fun _ => 0)) :
    ∃ (T' : State) (h' : Heap) (L' : List Loc), Stand p l e room_1 s m args below meth c T' L' 2 6 ∧ T'.heap = h' ∧ Fr n0 L' ∧ n0 ≤ h'.size ∧ own_IA Z h' b1 0 (own_f c0 c1 c2) ∧ own_IA Z h' b2 0 (own_f d0 d1 d2) ∧
      ∀ target, Steps p.tables e below (T'.setTop (mkF m 106 #[.val (.long i0), .second, .val (.long i1), .second, .val (.long i2), .second, .val (.int i3), .val (.int (0 : Int32)), .val (.int c0), .val (.int d0), .val (.int c1), .val (.int d1), .val (.int c2), .val (.int d2), .val (.ref b1), .val (.ref b2), .unset, .unset, .unset, .unset] [])) target → Steps p.tables e below (T.setTop (mkF m 53 #[.val (.long i0), .second, .val (.long i1), .second, .val (.long i2), .second, .val (.int i3), .val (.int (0 : Int32)), .val (.int c0), .val (.int d0), .val (.int c1), .val (.int d1), .val (.int c2), .val (.int d2), .val (.ref b1), .val (.ref b2), .unset, .unset, .unset, .unset] [])) target := by
  have AF : own_IA Z h0 b1 0 (own_f c0 c1 c2) := A1.fn fun i hi => by
    exact absurd hi (Nat.not_lt_zero _)
  have BF : own_IA Z h0 b2 0 (own_f d0 d1 d2) := B1.fn fun i hi => by
    exact absurd hi (Nat.not_lt_zero _)
  refine ⟨T, h0, _, X1, e1, N1, Z1, AF, BF, fun target kt => ?_⟩
  show Steps p.tables e below (T.setTop (mkF m 53 #[.val (.long i0), .second, .val (.long i1), .second, .val (.long i2), .second, .val (.int i3), .val (.int (0 : Int32)), .val (.int c0), .val (.int d0), .val (.int c1), .val (.int d1), .val (.int c2), .val (.int d2), .val (.ref b1), .val (.ref b2), .unset, .unset, .unset, .unset] [])) _
  refine XS.iload X1.here hx rfl (hb hby at_53) rfl ?_
  show Steps p.tables e below (T.setTop (mkF m 55 #[.val (.long i0), .second, .val (.long i1), .second, .val (.long i2), .second, .val (.int i3), .val (.int (0 : Int32)), .val (.int c0), .val (.int d0), .val (.int c1), .val (.int d1), .val (.int c2), .val (.int d2), .val (.ref b1), .val (.ref b2), .unset, .unset, .unset, .unset] [(.int (0 : Int32))])) _
  refine XS.ifYes X1.here hx rfl (pc0 := 55) (pc' := 70) rfl (hb hby at_55) rfl ((if0 _ _).trans (flt (by decide : ¬ ((0 : Int32) < (0 : Int32)))).2.2.2) (by decide) (by decide) ?_
  show Steps p.tables e below (T.setTop (mkF m 70 #[.val (.long i0), .second, .val (.long i1), .second, .val (.long i2), .second, .val (.int i3), .val (.int (0 : Int32)), .val (.int c0), .val (.int d0), .val (.int c1), .val (.int d1), .val (.int c2), .val (.int d2), .val (.ref b1), .val (.ref b2), .unset, .unset, .unset, .unset] [])) _
  refine XS.iload X1.here hx rfl (hb hby at_70) rfl ?_
  show Steps p.tables e below (T.setTop (mkF m 72 #[.val (.long i0), .second, .val (.long i1), .second, .val (.long i2), .second, .val (.int i3), .val (.int (0 : Int32)), .val (.int c0), .val (.int d0), .val (.int c1), .val (.int d1), .val (.int c2), .val (.int d2), .val (.ref b1), .val (.ref b2), .unset, .unset, .unset, .unset] [(.int (0 : Int32))])) _
  refine XS.iconst X1.here hx rfl (hb hby at_72) ?_
  show Steps p.tables e below (T.setTop (mkF m 73 #[.val (.long i0), .second, .val (.long i1), .second, .val (.long i2), .second, .val (.int i3), .val (.int (0 : Int32)), .val (.int c0), .val (.int d0), .val (.int c1), .val (.int d1), .val (.int c2), .val (.int d2), .val (.ref b1), .val (.ref b2), .unset, .unset, .unset, .unset] [(.int (1 : Int32)), (.int (0 : Int32))])) _
  refine XS.icmpYes X1.here hx rfl (pc0 := 73) (pc' := 88) rfl (hb hby at_73) rfl (flt (by decide : ¬ ((1 : Int32) < (0 : Int32)))).2.2.2 (by decide) (by decide) ?_
  show Steps p.tables e below (T.setTop (mkF m 88 #[.val (.long i0), .second, .val (.long i1), .second, .val (.long i2), .second, .val (.int i3), .val (.int (0 : Int32)), .val (.int c0), .val (.int d0), .val (.int c1), .val (.int d1), .val (.int c2), .val (.int d2), .val (.ref b1), .val (.ref b2), .unset, .unset, .unset, .unset] [])) _
  refine XS.iload X1.here hx rfl (hb hby at_88) rfl ?_
  show Steps p.tables e below (T.setTop (mkF m 90 #[.val (.long i0), .second, .val (.long i1), .second, .val (.long i2), .second, .val (.int i3), .val (.int (0 : Int32)), .val (.int c0), .val (.int d0), .val (.int c1), .val (.int d1), .val (.int c2), .val (.int d2), .val (.ref b1), .val (.ref b2), .unset, .unset, .unset, .unset] [(.int (0 : Int32))])) _
  refine XS.iconst X1.here hx rfl (hb hby at_90) ?_
  show Steps p.tables e below (T.setTop (mkF m 91 #[.val (.long i0), .second, .val (.long i1), .second, .val (.long i2), .second, .val (.int i3), .val (.int (0 : Int32)), .val (.int c0), .val (.int d0), .val (.int c1), .val (.int d1), .val (.int c2), .val (.int d2), .val (.ref b1), .val (.ref b2), .unset, .unset, .unset, .unset] [(.int (2 : Int32)), (.int (0 : Int32))])) _
  refine XS.icmpYes X1.here hx rfl (pc0 := 91) (pc' := 106) rfl (hb hby at_91) rfl (flt (by decide : ¬ ((2 : Int32) < (0 : Int32)))).2.2.2 (by decide) (by decide) ?_
  exact kt
set_option maxRecDepth 65536 in
set_option maxHeartbeats 40000000 in
theorem own_all0 {p : Program} {l : Launch} {e : Env} {s : State} {m : MethodId} {args : Array Value} {below : List Frame} {meth : Method} {c : Code} {T : State} {Z : State} {a0 : Array Value} {locs : List Loc} {cells slots : Nat} (i0 i1 i2 : Int64) (i3 c0 d0 c1 d1 c2 d2 : Int32) (b1 b2 x1 x2 : Addr) (v18 : Int32) (X : Stand p l e room_1 s m args below meth c T locs cells slots) (hx : p.tables.exec = Jvm.exec) (hZ : Z.Warmed39 s.vm) (hw : ∀ d ∈ tables_1, d.before a0 Z = true) (hby : c.code = code) (hown : s.vm.findClass "com/example/tracewarden/tracewarden/net/MarkingStrictlyCoversPinLaw" = some m.cls) :
    ∀ target, Steps p.tables e below (T.setTop (mkF m 174 #[.val (.long i0), .second, .val (.long i1), .second, .val (.long i2), .second, .val (.int i3), .val (.int (0 : Int32)), .val (.int c0), .val (.int d0), .val (.int c1), .val (.int d1), .val (.int c2), .val (.int d2), .val (.ref b1), .val (.ref b2), .val (.ref x1), .val (.ref x2), .val (.int (own_z (own_ge (own_f c0 c1 c2) (own_f d0 d1 d2) 0 0))), .unset] [])) target → Steps p.tables e below (T.setTop (mkF m 128 #[.val (.long i0), .second, .val (.long i1), .second, .val (.long i2), .second, .val (.int i3), .val (.int (0 : Int32)), .val (.int c0), .val (.int d0), .val (.int c1), .val (.int d1), .val (.int c2), .val (.int d2), .val (.ref b1), .val (.ref b2), .val (.ref x1), .val (.ref x2), .unset, .unset] [])) target := by
  intro target kt
  show Steps p.tables e below (T.setTop (mkF m 128 #[.val (.long i0), .second, .val (.long i1), .second, .val (.long i2), .second, .val (.int i3), .val (.int (0 : Int32)), .val (.int c0), .val (.int d0), .val (.int c1), .val (.int d1), .val (.int c2), .val (.int d2), .val (.ref b1), .val (.ref b2), .val (.ref x1), .val (.ref x2), .unset, .unset] [])) _
  refine XS.iload X.here hx rfl (hb hby at_128) rfl ?_
  show Steps p.tables e below (T.setTop (mkF m 130 #[.val (.long i0), .second, .val (.long i1), .second, .val (.long i2), .second, .val (.int i3), .val (.int (0 : Int32)), .val (.int c0), .val (.int d0), .val (.int c1), .val (.int d1), .val (.int c2), .val (.int d2), .val (.ref b1), .val (.ref b2), .val (.ref x1), .val (.ref x2), .unset, .unset] [(.int (0 : Int32))])) _
  refine XS.iconst X.here hx rfl (hb hby at_130) ?_
  show Steps p.tables e below (T.setTop (mkF m 131 #[.val (.long i0), .second, .val (.long i1), .second, .val (.long i2), .second, .val (.int i3), .val (.int (0 : Int32)), .val (.int c0), .val (.int d0), .val (.int c1), .val (.int d1), .val (.int c2), .val (.int d2), .val (.ref b1), .val (.ref b2), .val (.ref x1), .val (.ref x2), .unset, .unset] [(.int (1 : Int32)), (.int (0 : Int32))])) _
  refine XS.icmpYes X.here hx rfl (pc0 := 131) (pc' := 141) rfl (hb hby at_131) rfl (tlt (by decide : (0 : Int32) < (1 : Int32))).1 (by decide) (by decide) ?_
  show Steps p.tables e below (T.setTop (mkF m 141 #[.val (.long i0), .second, .val (.long i1), .second, .val (.long i2), .second, .val (.int i3), .val (.int (0 : Int32)), .val (.int c0), .val (.int d0), .val (.int c1), .val (.int d1), .val (.int c2), .val (.int d2), .val (.ref b1), .val (.ref b2), .val (.ref x1), .val (.ref x2), .unset, .unset] [])) _
  refine XS.iload X.here hx rfl (hb hby at_141) rfl ?_
  show Steps p.tables e below (T.setTop (mkF m 143 #[.val (.long i0), .second, .val (.long i1), .second, .val (.long i2), .second, .val (.int i3), .val (.int (0 : Int32)), .val (.int c0), .val (.int d0), .val (.int c1), .val (.int d1), .val (.int c2), .val (.int d2), .val (.ref b1), .val (.ref b2), .val (.ref x1), .val (.ref x2), .unset, .unset] [(.int (0 : Int32))])) _
  refine XS.iconst X.here hx rfl (hb hby at_143) ?_
  show Steps p.tables e below (T.setTop (mkF m 144 #[.val (.long i0), .second, .val (.long i1), .second, .val (.long i2), .second, .val (.int i3), .val (.int (0 : Int32)), .val (.int c0), .val (.int d0), .val (.int c1), .val (.int d1), .val (.int c2), .val (.int d2), .val (.ref b1), .val (.ref b2), .val (.ref x1), .val (.ref x2), .unset, .unset] [(.int (2 : Int32)), (.int (0 : Int32))])) _
  refine XS.icmpYes X.here hx rfl (pc0 := 144) (pc' := 154) rfl (hb hby at_144) rfl (tlt (by decide : (0 : Int32) < (2 : Int32))).1 (by decide) (by decide) ?_
  show Steps p.tables e below (T.setTop (mkF m 154 #[.val (.long i0), .second, .val (.long i1), .second, .val (.long i2), .second, .val (.int i3), .val (.int (0 : Int32)), .val (.int c0), .val (.int d0), .val (.int c1), .val (.int d1), .val (.int c2), .val (.int d2), .val (.ref b1), .val (.ref b2), .val (.ref x1), .val (.ref x2), .unset, .unset] [])) _
  refine XS.iload X.here hx rfl (hb hby at_154) rfl ?_
  show Steps p.tables e below (T.setTop (mkF m 156 #[.val (.long i0), .second, .val (.long i1), .second, .val (.long i2), .second, .val (.int i3), .val (.int (0 : Int32)), .val (.int c0), .val (.int d0), .val (.int c1), .val (.int d1), .val (.int c2), .val (.int d2), .val (.ref b1), .val (.ref b2), .val (.ref x1), .val (.ref x2), .unset, .unset] [(.int (0 : Int32))])) _
  refine XS.iconst X.here hx rfl (hb hby at_156) ?_
  show Steps p.tables e below (T.setTop (mkF m 157 #[.val (.long i0), .second, .val (.long i1), .second, .val (.long i2), .second, .val (.int i3), .val (.int (0 : Int32)), .val (.int c0), .val (.int d0), .val (.int c1), .val (.int d1), .val (.int c2), .val (.int d2), .val (.ref b1), .val (.ref b2), .val (.ref x1), .val (.ref x2), .unset, .unset] [(.int (3 : Int32)), (.int (0 : Int32))])) _
  refine XS.icmpYes X.here hx rfl (pc0 := 157) (pc' := 167) rfl (hb hby at_157) rfl (tlt (by decide : (0 : Int32) < (3 : Int32))).1 (by decide) (by decide) ?_
  show Steps p.tables e below (T.setTop (mkF m 167 #[.val (.long i0), .second, .val (.long i1), .second, .val (.long i2), .second, .val (.int i3), .val (.int (0 : Int32)), .val (.int c0), .val (.int d0), .val (.int c1), .val (.int d1), .val (.int c2), .val (.int d2), .val (.ref b1), .val (.ref b2), .val (.ref x1), .val (.ref x2), .unset, .unset] [])) _
  refine XS.iconst X.here hx rfl (hb hby at_167) ?_
  show Steps p.tables e below (T.setTop (mkF m 168 #[.val (.long i0), .second, .val (.long i1), .second, .val (.long i2), .second, .val (.int i3), .val (.int (0 : Int32)), .val (.int c0), .val (.int d0), .val (.int c1), .val (.int d1), .val (.int c2), .val (.int d2), .val (.ref b1), .val (.ref b2), .val (.ref x1), .val (.ref x2), .unset, .unset] [(.int (1 : Int32))])) _
  refine XS.goto X.here hx rfl (pc0 := 168) (pc' := 172) rfl (hb hby at_168) (by decide) (by decide) ?_
  show Steps p.tables e below (T.setTop (mkF m 172 #[.val (.long i0), .second, .val (.long i1), .second, .val (.long i2), .second, .val (.int i3), .val (.int (0 : Int32)), .val (.int c0), .val (.int d0), .val (.int c1), .val (.int d1), .val (.int c2), .val (.int d2), .val (.ref b1), .val (.ref b2), .val (.ref x1), .val (.ref x2), .unset, .unset] [(.int (1 : Int32))])) _
  refine XS.istore X.here hx rfl (hb hby at_172) rfl (l' := #[.val (.long i0), .second, .val (.long i1), .second, .val (.long i2), .second, .val (.int i3), .val (.int (0 : Int32)), .val (.int c0), .val (.int d0), .val (.int c1), .val (.int d1), .val (.int c2), .val (.int d2), .val (.ref b1), .val (.ref b2), .val (.ref x1), .val (.ref x2), .val (.int (1 : Int32)), .unset]) rfl ?_
  rw [show (own_z (own_ge (own_f c0 c1 c2) (own_f d0 d1 d2) 0 0)) = (1 : Int32) from by simp [own_z, own_ge, own_gt, own_f]] at kt
  exact kt
set_option maxRecDepth 65536 in
set_option maxHeartbeats 40000000 in
theorem own_some0 {p : Program} {l : Launch} {e : Env} {s : State} {m : MethodId} {args : Array Value} {below : List Frame} {meth : Method} {c : Code} {T : State} {Z : State} {a0 : Array Value} {locs : List Loc} {cells slots : Nat} (i0 i1 i2 : Int64) (i3 c0 d0 c1 d1 c2 d2 : Int32) (b1 b2 x1 x2 : Addr) (v18 : Int32) (X : Stand p l e room_1 s m args below meth c T locs cells slots) (hx : p.tables.exec = Jvm.exec) (hZ : Z.Warmed39 s.vm) (hw : ∀ d ∈ tables_1, d.before a0 Z = true) (hby : c.code = code) (hown : s.vm.findClass "com/example/tracewarden/tracewarden/net/MarkingStrictlyCoversPinLaw" = some m.cls) :
    ∀ target, Steps p.tables e below (T.setTop (mkF m 220 #[.val (.long i0), .second, .val (.long i1), .second, .val (.long i2), .second, .val (.int i3), .val (.int (0 : Int32)), .val (.int c0), .val (.int d0), .val (.int c1), .val (.int d1), .val (.int c2), .val (.int d2), .val (.ref b1), .val (.ref b2), .val (.ref x1), .val (.ref x2), .val (.int v18), .val (.int (own_z (own_gt (own_f c0 c1 c2) (own_f d0 d1 d2) 0 0)))] [])) target → Steps p.tables e below (T.setTop (mkF m 174 #[.val (.long i0), .second, .val (.long i1), .second, .val (.long i2), .second, .val (.int i3), .val (.int (0 : Int32)), .val (.int c0), .val (.int d0), .val (.int c1), .val (.int d1), .val (.int c2), .val (.int d2), .val (.ref b1), .val (.ref b2), .val (.ref x1), .val (.ref x2), .val (.int v18), .unset] [])) target := by
  intro target kt
  show Steps p.tables e below (T.setTop (mkF m 174 #[.val (.long i0), .second, .val (.long i1), .second, .val (.long i2), .second, .val (.int i3), .val (.int (0 : Int32)), .val (.int c0), .val (.int d0), .val (.int c1), .val (.int d1), .val (.int c2), .val (.int d2), .val (.ref b1), .val (.ref b2), .val (.ref x1), .val (.ref x2), .val (.int v18), .unset] [])) _
  refine XS.iload X.here hx rfl (hb hby at_174) rfl ?_
  show Steps p.tables e below (T.setTop (mkF m 176 #[.val (.long i0), .second, .val (.long i1), .second, .val (.long i2), .second, .val (.int i3), .val (.int (0 : Int32)), .val (.int c0), .val (.int d0), .val (.int c1), .val (.int d1), .val (.int c2), .val (.int d2), .val (.ref b1), .val (.ref b2), .val (.ref x1), .val (.ref x2), .val (.int v18), .unset] [(.int (0 : Int32))])) _
  refine XS.iconst X.here hx rfl (hb hby at_176) ?_
  show Steps p.tables e below (T.setTop (mkF m 177 #[.val (.long i0), .second, .val (.long i1), .second, .val (.long i2), .second, .val (.int i3), .val (.int (0 : Int32)), .val (.int c0), .val (.int d0), .val (.int c1), .val (.int d1), .val (.int c2), .val (.int d2), .val (.ref b1), .val (.ref b2), .val (.ref x1), .val (.ref x2), .val (.int v18), .unset] [(.int (1 : Int32)), (.int (0 : Int32))])) _
  refine XS.icmpYes X.here hx rfl (pc0 := 177) (pc' := 187) rfl (hb hby at_177) rfl (tlt (by decide : (0 : Int32) < (1 : Int32))).1 (by decide) (by decide) ?_
  show Steps p.tables e below (T.setTop (mkF m 187 #[.val (.long i0), .second, .val (.long i1), .second, .val (.long i2), .second, .val (.int i3), .val (.int (0 : Int32)), .val (.int c0), .val (.int d0), .val (.int c1), .val (.int d1), .val (.int c2), .val (.int d2), .val (.ref b1), .val (.ref b2), .val (.ref x1), .val (.ref x2), .val (.int v18), .unset] [])) _
  refine XS.iload X.here hx rfl (hb hby at_187) rfl ?_
  show Steps p.tables e below (T.setTop (mkF m 189 #[.val (.long i0), .second, .val (.long i1), .second, .val (.long i2), .second, .val (.int i3), .val (.int (0 : Int32)), .val (.int c0), .val (.int d0), .val (.int c1), .val (.int d1), .val (.int c2), .val (.int d2), .val (.ref b1), .val (.ref b2), .val (.ref x1), .val (.ref x2), .val (.int v18), .unset] [(.int (0 : Int32))])) _
  refine XS.iconst X.here hx rfl (hb hby at_189) ?_
  show Steps p.tables e below (T.setTop (mkF m 190 #[.val (.long i0), .second, .val (.long i1), .second, .val (.long i2), .second, .val (.int i3), .val (.int (0 : Int32)), .val (.int c0), .val (.int d0), .val (.int c1), .val (.int d1), .val (.int c2), .val (.int d2), .val (.ref b1), .val (.ref b2), .val (.ref x1), .val (.ref x2), .val (.int v18), .unset] [(.int (2 : Int32)), (.int (0 : Int32))])) _
  refine XS.icmpYes X.here hx rfl (pc0 := 190) (pc' := 200) rfl (hb hby at_190) rfl (tlt (by decide : (0 : Int32) < (2 : Int32))).1 (by decide) (by decide) ?_
  show Steps p.tables e below (T.setTop (mkF m 200 #[.val (.long i0), .second, .val (.long i1), .second, .val (.long i2), .second, .val (.int i3), .val (.int (0 : Int32)), .val (.int c0), .val (.int d0), .val (.int c1), .val (.int d1), .val (.int c2), .val (.int d2), .val (.ref b1), .val (.ref b2), .val (.ref x1), .val (.ref x2), .val (.int v18), .unset] [])) _
  refine XS.iload X.here hx rfl (hb hby at_200) rfl ?_
  show Steps p.tables e below (T.setTop (mkF m 202 #[.val (.long i0), .second, .val (.long i1), .second, .val (.long i2), .second, .val (.int i3), .val (.int (0 : Int32)), .val (.int c0), .val (.int d0), .val (.int c1), .val (.int d1), .val (.int c2), .val (.int d2), .val (.ref b1), .val (.ref b2), .val (.ref x1), .val (.ref x2), .val (.int v18), .unset] [(.int (0 : Int32))])) _
  refine XS.iconst X.here hx rfl (hb hby at_202) ?_
  show Steps p.tables e below (T.setTop (mkF m 203 #[.val (.long i0), .second, .val (.long i1), .second, .val (.long i2), .second, .val (.int i3), .val (.int (0 : Int32)), .val (.int c0), .val (.int d0), .val (.int c1), .val (.int d1), .val (.int c2), .val (.int d2), .val (.ref b1), .val (.ref b2), .val (.ref x1), .val (.ref x2), .val (.int v18), .unset] [(.int (3 : Int32)), (.int (0 : Int32))])) _
  refine XS.icmpYes X.here hx rfl (pc0 := 203) (pc' := 217) rfl (hb hby at_203) rfl (tlt (by decide : (0 : Int32) < (3 : Int32))).1 (by decide) (by decide) ?_
  show Steps p.tables e below (T.setTop (mkF m 217 #[.val (.long i0), .second, .val (.long i1), .second, .val (.long i2), .second, .val (.int i3), .val (.int (0 : Int32)), .val (.int c0), .val (.int d0), .val (.int c1), .val (.int d1), .val (.int c2), .val (.int d2), .val (.ref b1), .val (.ref b2), .val (.ref x1), .val (.ref x2), .val (.int v18), .unset] [])) _
  refine XS.iconst X.here hx rfl (hb hby at_217) ?_
  show Steps p.tables e below (T.setTop (mkF m 218 #[.val (.long i0), .second, .val (.long i1), .second, .val (.long i2), .second, .val (.int i3), .val (.int (0 : Int32)), .val (.int c0), .val (.int d0), .val (.int c1), .val (.int d1), .val (.int c2), .val (.int d2), .val (.ref b1), .val (.ref b2), .val (.ref x1), .val (.ref x2), .val (.int v18), .unset] [(.int (0 : Int32))])) _
  refine XS.istore X.here hx rfl (hb hby at_218) rfl (l' := #[.val (.long i0), .second, .val (.long i1), .second, .val (.long i2), .second, .val (.int i3), .val (.int (0 : Int32)), .val (.int c0), .val (.int d0), .val (.int c1), .val (.int d1), .val (.int c2), .val (.int d2), .val (.ref b1), .val (.ref b2), .val (.ref x1), .val (.ref x2), .val (.int v18), .val (.int (0 : Int32))]) rfl ?_
  rw [show (own_z (own_gt (own_f c0 c1 c2) (own_f d0 d1 d2) 0 0)) = (0 : Int32) from by simp [own_z, own_ge, own_gt, own_f]] at kt
  exact kt
set_option maxRecDepth 65536 in
set_option maxHeartbeats 40000000 in
theorem own_fill1 {p : Program} {l : Launch} {e : Env} {s : State} {m : MethodId} {args : Array Value} {below : List Frame} {meth : Method} {c : Code} {T : State} {Z : State} {a0 : Array Value} {h0 : Heap} {locs : List Loc} (i0 i1 i2 : Int64) (i3 c0 d0 c1 d1 c2 d2 : Int32) (b1 b2 : Addr) (X1 : Stand p l e room_1 s m args below meth c T locs 2 6) (hx : p.tables.exec = Jvm.exec) (hZ : Z.Warmed39 s.vm) (hw : ∀ d ∈ tables_1, d.before a0 Z = true) (hby : c.code = code) (hown : s.vm.findClass "com/example/tracewarden/tracewarden/net/MarkingStrictlyCoversPinLaw" = some m.cls) (e1 : T.heap = h0) {n0 : Nat} (Z1 : n0 ≤ h0.size) (N1 : Fr n0 locs) (g_b1 : n0 ≤ b1) (g_b2 : n0 ≤ b2) (hne : b1 ≠ b2) (A1 : own_IA Z h0 b1 1 (fun _ => 0)) (B1 : own_IA Z h0 b2 1 (fun _ => 0)) :
    ∃ (T' : State) (h' : Heap) (L' : List Loc), Stand p l e room_1 s m args below meth c T' L' 2 6 ∧ T'.heap = h' ∧ Fr n0 L' ∧ n0 ≤ h'.size ∧ own_IA Z h' b1 1 (own_f c0 c1 c2) ∧ own_IA Z h' b2 1 (own_f d0 d1 d2) ∧
      ∀ target, Steps p.tables e below (T'.setTop (mkF m 106 #[.val (.long i0), .second, .val (.long i1), .second, .val (.long i2), .second, .val (.int i3), .val (.int (1 : Int32)), .val (.int c0), .val (.int d0), .val (.int c1), .val (.int d1), .val (.int c2), .val (.int d2), .val (.ref b1), .val (.ref b2), .unset, .unset, .unset, .unset] [])) target → Steps p.tables e below (T.setTop (mkF m 53 #[.val (.long i0), .second, .val (.long i1), .second, .val (.long i2), .second, .val (.int i3), .val (.int (1 : Int32)), .val (.int c0), .val (.int d0), .val (.int c1), .val (.int d1), .val (.int c2), .val (.int d2), .val (.ref b1), .val (.ref b2), .unset, .unset, .unset, .unset] [])) target := by
  obtain ⟨T2, h2, X2, e2, K2, A2, st2⟩ := own_stI X1 hx hZ e1 (by decide) A1 (i := 0) (by decide) (g := (mkF m 63 #[.val (.long i0), .second, .val (.long i1), .second, .val (.long i2), .second, .val (.int i3), .val (.int (1 : Int32)), .val (.int c0), .val (.int d0), .val (.int c1), .val (.int d1), .val (.int c2), .val (.int d2), .val (.ref b1), .val (.ref b2), .unset, .unset, .unset, .unset] [(.int c0), (.int (0 : Int32)), (.ref b1)])) rfl rfl (hb hby at_63)
  have B2 := B1.keep K2 (ninS hne.symm nin0)
  have N2 := Fr.snoc X2 N1 g_b1
  have Z2 : n0 ≤ h2.size := Nat.le_trans Z1 K2.1
  obtain ⟨T3, h3, X3, e3, K3, B3, st3⟩ := own_stI X2 hx hZ e2 (by decide) B2 (i := 0) (by decide) (g := (mkF m 69 #[.val (.long i0), .second, .val (.long i1), .second, .val (.long i2), .second, .val (.int i3), .val (.int (1 : Int32)), .val (.int c0), .val (.int d0), .val (.int c1), .val (.int d1), .val (.int c2), .val (.int d2), .val (.ref b1), .val (.ref b2), .unset, .unset, .unset, .unset] [(.int d0), (.int (0 : Int32)), (.ref b2)])) rfl rfl (hb hby at_69)
  have A3 := A2.keep K3 (ninS hne nin0)
  have N3 := Fr.snoc X3 N2 g_b2
  have Z3 : n0 ≤ h3.size := Nat.le_trans Z2 K3.1
  have AF : own_IA Z h3 b1 1 (own_f c0 c1 c2) := A3.fn fun i hi => by
    have hi' : i = 0 := by omega
    rcases hi' with rfl <;> simp [own_f]
  have BF : own_IA Z h3 b2 1 (own_f d0 d1 d2) := B3.fn fun i hi => by
    have hi' : i = 0 := by omega
    rcases hi' with rfl <;> simp [own_f]
  refine ⟨T3, h3, _, X3, e3, N3, Z3, AF, BF, fun target kt => ?_⟩
  show Steps p.tables e below (T.setTop (mkF m 53 #[.val (.long i0), .second, .val (.long i1), .second, .val (.long i2), .second, .val (.int i3), .val (.int (1 : Int32)), .val (.int c0), .val (.int d0), .val (.int c1), .val (.int d1), .val (.int c2), .val (.int d2), .val (.ref b1), .val (.ref b2), .unset, .unset, .unset, .unset] [])) _
  refine XS.iload X1.here hx rfl (hb hby at_53) rfl ?_
  show Steps p.tables e below (T.setTop (mkF m 55 #[.val (.long i0), .second, .val (.long i1), .second, .val (.long i2), .second, .val (.int i3), .val (.int (1 : Int32)), .val (.int c0), .val (.int d0), .val (.int c1), .val (.int d1), .val (.int c2), .val (.int d2), .val (.ref b1), .val (.ref b2), .unset, .unset, .unset, .unset] [(.int (1 : Int32))])) _
  refine XS.ifNo X1.here hx rfl (hb hby at_55) rfl ((if0 _ _).trans (tlt (by decide : (0 : Int32) < (1 : Int32))).2.2.2) ?_
  show Steps p.tables e below (T.setTop (mkF m 58 #[.val (.long i0), .second, .val (.long i1), .second, .val (.long i2), .second, .val (.int i3), .val (.int (1 : Int32)), .val (.int c0), .val (.int d0), .val (.int c1), .val (.int d1), .val (.int c2), .val (.int d2), .val (.ref b1), .val (.ref b2), .unset, .unset, .unset, .unset] [])) _
  refine XS.aload X1.here hx rfl (hb hby at_58) rfl rfl ?_
  show Steps p.tables e below (T.setTop (mkF m 60 #[.val (.long i0), .second, .val (.long i1), .second, .val (.long i2), .second, .val (.int i3), .val (.int (1 : Int32)), .val (.int c0), .val (.int d0), .val (.int c1), .val (.int d1), .val (.int c2), .val (.int d2), .val (.ref b1), .val (.ref b2), .unset, .unset, .unset, .unset] [(.ref b1)])) _
  refine XS.iconst X1.here hx rfl (hb hby at_60) ?_
  show Steps p.tables e below (T.setTop (mkF m 61 #[.val (.long i0), .second, .val (.long i1), .second, .val (.long i2), .second, .val (.int i3), .val (.int (1 : Int32)), .val (.int c0), .val (.int d0), .val (.int c1), .val (.int d1), .val (.int c2), .val (.int d2), .val (.ref b1), .val (.ref b2), .unset, .unset, .unset, .unset] [(.int (0 : Int32)), (.ref b1)])) _
  refine XS.iload X1.here hx rfl (hb hby at_61) rfl ?_
  refine st2 _ ?_
  show Steps p.tables e below (T2.setTop (mkF m 64 #[.val (.long i0), .second, .val (.long i1), .second, .val (.long i2), .second, .val (.int i3), .val (.int (1 : Int32)), .val (.int c0), .val (.int d0), .val (.int c1), .val (.int d1), .val (.int c2), .val (.int d2), .val (.ref b1), .val (.ref b2), .unset, .unset, .unset, .unset] [])) _
  refine XS.aload X2.here hx rfl (hb hby at_64) rfl rfl ?_
  show Steps p.tables e below (T2.setTop (mkF m 66 #[.val (.long i0), .second, .val (.long i1), .second, .val (.long i2), .second, .val (.int i3), .val (.int (1 : Int32)), .val (.int c0), .val (.int d0), .val (.int c1), .val (.int d1), .val (.int c2), .val (.int d2), .val (.ref b1), .val (.ref b2), .unset, .unset, .unset, .unset] [(.ref b2)])) _
  refine XS.iconst X2.here hx rfl (hb hby at_66) ?_
  show Steps p.tables e below (T2.setTop (mkF m 67 #[.val (.long i0), .second, .val (.long i1), .second, .val (.long i2), .second, .val (.int i3), .val (.int (1 : Int32)), .val (.int c0), .val (.int d0), .val (.int c1), .val (.int d1), .val (.int c2), .val (.int d2), .val (.ref b1), .val (.ref b2), .unset, .unset, .unset, .unset] [(.int (0 : Int32)), (.ref b2)])) _
  refine XS.iload X2.here hx rfl (hb hby at_67) rfl ?_
  refine st3 _ ?_
  show Steps p.tables e below (T3.setTop (mkF m 70 #[.val (.long i0), .second, .val (.long i1), .second, .val (.long i2), .second, .val (.int i3), .val (.int (1 : Int32)), .val (.int c0), .val (.int d0), .val (.int c1), .val (.int d1), .val (.int c2), .val (.int d2), .val (.ref b1), .val (.ref b2), .unset, .unset, .unset, .unset] [])) _
  refine XS.iload X3.here hx rfl (hb hby at_70) rfl ?_
  show Steps p.tables e below (T3.setTop (mkF m 72 #[.val (.long i0), .second, .val (.long i1), .second, .val (.long i2), .second, .val (.int i3), .val (.int (1 : Int32)), .val (.int c0), .val (.int d0), .val (.int c1), .val (.int d1), .val (.int c2), .val (.int d2), .val (.ref b1), .val (.ref b2), .unset, .unset, .unset, .unset] [(.int (1 : Int32))])) _
  refine XS.iconst X3.here hx rfl (hb hby at_72) ?_
  show Steps p.tables e below (T3.setTop (mkF m 73 #[.val (.long i0), .second, .val (.long i1), .second, .val (.long i2), .second, .val (.int i3), .val (.int (1 : Int32)), .val (.int c0), .val (.int d0), .val (.int c1), .val (.int d1), .val (.int c2), .val (.int d2), .val (.ref b1), .val (.ref b2), .unset, .unset, .unset, .unset] [(.int (1 : Int32)), (.int (1 : Int32))])) _
  refine XS.icmpYes X3.here hx rfl (pc0 := 73) (pc' := 88) rfl (hb hby at_73) rfl (flt (by decide : ¬ ((1 : Int32) < (1 : Int32)))).2.2.2 (by decide) (by decide) ?_
  show Steps p.tables e below (T3.setTop (mkF m 88 #[.val (.long i0), .second, .val (.long i1), .second, .val (.long i2), .second, .val (.int i3), .val (.int (1 : Int32)), .val (.int c0), .val (.int d0), .val (.int c1), .val (.int d1), .val (.int c2), .val (.int d2), .val (.ref b1), .val (.ref b2), .unset, .unset, .unset, .unset] [])) _
  refine XS.iload X3.here hx rfl (hb hby at_88) rfl ?_
  show Steps p.tables e below (T3.setTop (mkF m 90 #[.val (.long i0), .second, .val (.long i1), .second, .val (.long i2), .second, .val (.int i3), .val (.int (1 : Int32)), .val (.int c0), .val (.int d0), .val (.int c1), .val (.int d1), .val (.int c2), .val (.int d2), .val (.ref b1), .val (.ref b2), .unset, .unset, .unset, .unset] [(.int (1 : Int32))])) _
  refine XS.iconst X3.here hx rfl (hb hby at_90) ?_
  show Steps p.tables e below (T3.setTop (mkF m 91 #[.val (.long i0), .second, .val (.long i1), .second, .val (.long i2), .second, .val (.int i3), .val (.int (1 : Int32)), .val (.int c0), .val (.int d0), .val (.int c1), .val (.int d1), .val (.int c2), .val (.int d2), .val (.ref b1), .val (.ref b2), .unset, .unset, .unset, .unset] [(.int (2 : Int32)), (.int (1 : Int32))])) _
  refine XS.icmpYes X3.here hx rfl (pc0 := 91) (pc' := 106) rfl (hb hby at_91) rfl (flt (by decide : ¬ ((2 : Int32) < (1 : Int32)))).2.2.2 (by decide) (by decide) ?_
  exact kt
set_option maxRecDepth 65536 in
set_option maxHeartbeats 40000000 in
theorem own_all1 {p : Program} {l : Launch} {e : Env} {s : State} {m : MethodId} {args : Array Value} {below : List Frame} {meth : Method} {c : Code} {T : State} {Z : State} {a0 : Array Value} {locs : List Loc} {cells slots : Nat} (i0 i1 i2 : Int64) (i3 c0 d0 c1 d1 c2 d2 : Int32) (b1 b2 x1 x2 : Addr) (v18 : Int32) (X : Stand p l e room_1 s m args below meth c T locs cells slots) (hx : p.tables.exec = Jvm.exec) (hZ : Z.Warmed39 s.vm) (hw : ∀ d ∈ tables_1, d.before a0 Z = true) (hby : c.code = code) (hown : s.vm.findClass "com/example/tracewarden/tracewarden/net/MarkingStrictlyCoversPinLaw" = some m.cls) :
    ∀ target, Steps p.tables e below (T.setTop (mkF m 174 #[.val (.long i0), .second, .val (.long i1), .second, .val (.long i2), .second, .val (.int i3), .val (.int (1 : Int32)), .val (.int c0), .val (.int d0), .val (.int c1), .val (.int d1), .val (.int c2), .val (.int d2), .val (.ref b1), .val (.ref b2), .val (.ref x1), .val (.ref x2), .val (.int (own_z (own_ge (own_f c0 c1 c2) (own_f d0 d1 d2) 1 0))), .unset] [])) target → Steps p.tables e below (T.setTop (mkF m 128 #[.val (.long i0), .second, .val (.long i1), .second, .val (.long i2), .second, .val (.int i3), .val (.int (1 : Int32)), .val (.int c0), .val (.int d0), .val (.int c1), .val (.int d1), .val (.int c2), .val (.int d2), .val (.ref b1), .val (.ref b2), .val (.ref x1), .val (.ref x2), .unset, .unset] [])) target := by
  intro target kt
  show Steps p.tables e below (T.setTop (mkF m 128 #[.val (.long i0), .second, .val (.long i1), .second, .val (.long i2), .second, .val (.int i3), .val (.int (1 : Int32)), .val (.int c0), .val (.int d0), .val (.int c1), .val (.int d1), .val (.int c2), .val (.int d2), .val (.ref b1), .val (.ref b2), .val (.ref x1), .val (.ref x2), .unset, .unset] [])) _
  refine XS.iload X.here hx rfl (hb hby at_128) rfl ?_
  show Steps p.tables e below (T.setTop (mkF m 130 #[.val (.long i0), .second, .val (.long i1), .second, .val (.long i2), .second, .val (.int i3), .val (.int (1 : Int32)), .val (.int c0), .val (.int d0), .val (.int c1), .val (.int d1), .val (.int c2), .val (.int d2), .val (.ref b1), .val (.ref b2), .val (.ref x1), .val (.ref x2), .unset, .unset] [(.int (1 : Int32))])) _
  refine XS.iconst X.here hx rfl (hb hby at_130) ?_
  show Steps p.tables e below (T.setTop (mkF m 131 #[.val (.long i0), .second, .val (.long i1), .second, .val (.long i2), .second, .val (.int i3), .val (.int (1 : Int32)), .val (.int c0), .val (.int d0), .val (.int c1), .val (.int d1), .val (.int c2), .val (.int d2), .val (.ref b1), .val (.ref b2), .val (.ref x1), .val (.ref x2), .unset, .unset] [(.int (1 : Int32)), (.int (1 : Int32))])) _
  refine XS.icmpNo X.here hx rfl (hb hby at_131) rfl (flt (by decide : ¬ ((1 : Int32) < (1 : Int32)))).1 ?_
  show Steps p.tables e below (T.setTop (mkF m 134 #[.val (.long i0), .second, .val (.long i1), .second, .val (.long i2), .second, .val (.int i3), .val (.int (1 : Int32)), .val (.int c0), .val (.int d0), .val (.int c1), .val (.int d1), .val (.int c2), .val (.int d2), .val (.ref b1), .val (.ref b2), .val (.ref x1), .val (.ref x2), .unset, .unset] [])) _
  refine XS.iload X.here hx rfl (hb hby at_134) rfl ?_
  show Steps p.tables e below (T.setTop (mkF m 136 #[.val (.long i0), .second, .val (.long i1), .second, .val (.long i2), .second, .val (.int i3), .val (.int (1 : Int32)), .val (.int c0), .val (.int d0), .val (.int c1), .val (.int d1), .val (.int c2), .val (.int d2), .val (.ref b1), .val (.ref b2), .val (.ref x1), .val (.ref x2), .unset, .unset] [(.int c0)])) _
  refine XS.iload X.here hx rfl (hb hby at_136) rfl ?_
  show Steps p.tables e below (T.setTop (mkF m 138 #[.val (.long i0), .second, .val (.long i1), .second, .val (.long i2), .second, .val (.int i3), .val (.int (1 : Int32)), .val (.int c0), .val (.int d0), .val (.int c1), .val (.int d1), .val (.int c2), .val (.int d2), .val (.ref b1), .val (.ref b2), .val (.ref x1), .val (.ref x2), .unset, .unset] [(.int d0), (.int c0)])) _
  by_cases hc138 : c0 < d0
  · refine XS.icmpYes X.here hx rfl (pc0 := 138) (pc' := 171) rfl (hb hby at_138) rfl (tlt hc138).1 (by decide) (by decide) ?_
    show Steps p.tables e below (T.setTop (mkF m 171 #[.val (.long i0), .second, .val (.long i1), .second, .val (.long i2), .second, .val (.int i3), .val (.int (1 : Int32)), .val (.int c0), .val (.int d0), .val (.int c1), .val (.int d1), .val (.int c2), .val (.int d2), .val (.ref b1), .val (.ref b2), .val (.ref x1), .val (.ref x2), .unset, .unset] [])) _
    refine XS.iconst X.here hx rfl (hb hby at_171) ?_
    show Steps p.tables e below (T.setTop (mkF m 172 #[.val (.long i0), .second, .val (.long i1), .second, .val (.long i2), .second, .val (.int i3), .val (.int (1 : Int32)), .val (.int c0), .val (.int d0), .val (.int c1), .val (.int d1), .val (.int c2), .val (.int d2), .val (.ref b1), .val (.ref b2), .val (.ref x1), .val (.ref x2), .unset, .unset] [(.int (0 : Int32))])) _
    refine XS.istore X.here hx rfl (hb hby at_172) rfl (l' := #[.val (.long i0), .second, .val (.long i1), .second, .val (.long i2), .second, .val (.int i3), .val (.int (1 : Int32)), .val (.int c0), .val (.int d0), .val (.int c1), .val (.int d1), .val (.int c2), .val (.int d2), .val (.ref b1), .val (.ref b2), .val (.ref x1), .val (.ref x2), .val (.int (0 : Int32)), .unset]) rfl ?_
    rw [show (own_z (own_ge (own_f c0 c1 c2) (own_f d0 d1 d2) 1 0)) = (0 : Int32) from by simp [own_z, own_ge, own_gt, own_f, hc138]] at kt
    exact kt
  · refine XS.icmpNo X.here hx rfl (hb hby at_138) rfl (flt hc138).1 ?_
    show Steps p.tables e below (T.setTop (mkF m 141 #[.val (.long i0), .second, .val (.long i1), .second, .val (.long i2), .second, .val (.int i3), .val (.int (1 : Int32)), .val (.int c0), .val (.int d0), .val (.int c1), .val (.int d1), .val (.int c2), .val (.int d2), .val (.ref b1), .val (.ref b2), .val (.ref x1), .val (.ref x2), .unset, .unset] [])) _
    refine XS.iload X.here hx rfl (hb hby at_141) rfl ?_
    show Steps p.tables e below (T.setTop (mkF m 143 #[.val (.long i0), .second, .val (.long i1), .second, .val (.long i2), .second, .val (.int i3), .val (.int (1 : Int32)), .val (.int c0), .val (.int d0), .val (.int c1), .val (.int d1), .val (.int c2), .val (.int d2), .val (.ref b1), .val (.ref b2), .val (.ref x1), .val (.ref x2), .unset, .unset] [(.int (1 : Int32))])) _
    refine XS.iconst X.here hx rfl (hb hby at_143) ?_
    show Steps p.tables e below (T.setTop (mkF m 144 #[.val (.long i0), .second, .val (.long i1), .second, .val (.long i2), .second, .val (.int i3), .val (.int (1 : Int32)), .val (.int c0), .val (.int d0), .val (.int c1), .val (.int d1), .val (.int c2), .val (.int d2), .val (.ref b1), .val (.ref b2), .val (.ref x1), .val (.ref x2), .unset, .unset] [(.int (2 : Int32)), (.int (1 : Int32))])) _
    refine XS.icmpYes X.here hx rfl (pc0 := 144) (pc' := 154) rfl (hb hby at_144) rfl (tlt (by decide : (1 : Int32) < (2 : Int32))).1 (by decide) (by decide) ?_
    show Steps p.tables e below (T.setTop (mkF m 154 #[.val (.long i0), .second, .val (.long i1), .second, .val (.long i2), .second, .val (.int i3), .val (.int (1 : Int32)), .val (.int c0), .val (.int d0), .val (.int c1), .val (.int d1), .val (.int c2), .val (.int d2), .val (.ref b1), .val (.ref b2), .val (.ref x1), .val (.ref x2), .unset, .unset] [])) _
    refine XS.iload X.here hx rfl (hb hby at_154) rfl ?_
    show Steps p.tables e below (T.setTop (mkF m 156 #[.val (.long i0), .second, .val (.long i1), .second, .val (.long i2), .second, .val (.int i3), .val (.int (1 : Int32)), .val (.int c0), .val (.int d0), .val (.int c1), .val (.int d1), .val (.int c2), .val (.int d2), .val (.ref b1), .val (.ref b2), .val (.ref x1), .val (.ref x2), .unset, .unset] [(.int (1 : Int32))])) _
    refine XS.iconst X.here hx rfl (hb hby at_156) ?_
    show Steps p.tables e below (T.setTop (mkF m 157 #[.val (.long i0), .second, .val (.long i1), .second, .val (.long i2), .second, .val (.int i3), .val (.int (1 : Int32)), .val (.int c0), .val (.int d0), .val (.int c1), .val (.int d1), .val (.int c2), .val (.int d2), .val (.ref b1), .val (.ref b2), .val (.ref x1), .val (.ref x2), .unset, .unset] [(.int (3 : Int32)), (.int (1 : Int32))])) _
    refine XS.icmpYes X.here hx rfl (pc0 := 157) (pc' := 167) rfl (hb hby at_157) rfl (tlt (by decide : (1 : Int32) < (3 : Int32))).1 (by decide) (by decide) ?_
    show Steps p.tables e below (T.setTop (mkF m 167 #[.val (.long i0), .second, .val (.long i1), .second, .val (.long i2), .second, .val (.int i3), .val (.int (1 : Int32)), .val (.int c0), .val (.int d0), .val (.int c1), .val (.int d1), .val (.int c2), .val (.int d2), .val (.ref b1), .val (.ref b2), .val (.ref x1), .val (.ref x2), .unset, .unset] [])) _
    refine XS.iconst X.here hx rfl (hb hby at_167) ?_
    show Steps p.tables e below (T.setTop (mkF m 168 #[.val (.long i0), .second, .val (.long i1), .second, .val (.long i2), .second, .val (.int i3), .val (.int (1 : Int32)), .val (.int c0), .val (.int d0), .val (.int c1), .val (.int d1), .val (.int c2), .val (.int d2), .val (.ref b1), .val (.ref b2), .val (.ref x1), .val (.ref x2), .unset, .unset] [(.int (1 : Int32))])) _
    refine XS.goto X.here hx rfl (pc0 := 168) (pc' := 172) rfl (hb hby at_168) (by decide) (by decide) ?_
    show Steps p.tables e below (T.setTop (mkF m 172 #[.val (.long i0), .second, .val (.long i1), .second, .val (.long i2), .second, .val (.int i3), .val (.int (1 : Int32)), .val (.int c0), .val (.int d0), .val (.int c1), .val (.int d1), .val (.int c2), .val (.int d2), .val (.ref b1), .val (.ref b2), .val (.ref x1), .val (.ref x2), .unset, .unset] [(.int (1 : Int32))])) _
    refine XS.istore X.here hx rfl (hb hby at_172) rfl (l' := #[.val (.long i0), .second, .val (.long i1), .second, .val (.long i2), .second, .val (.int i3), .val (.int (1 : Int32)), .val (.int c0), .val (.int d0), .val (.int c1), .val (.int d1), .val (.int c2), .val (.int d2), .val (.ref b1), .val (.ref b2), .val (.ref x1), .val (.ref x2), .val (.int (1 : Int32)), .unset]) rfl ?_
    rw [show (own_z (own_ge (own_f c0 c1 c2) (own_f d0 d1 d2) 1 0)) = (1 : Int32) from by simp [own_z, own_ge, own_gt, own_f, hc138]] at kt
    exact kt
set_option maxRecDepth 65536 in
set_option maxHeartbeats 40000000 in
theorem own_some1 {p : Program} {l : Launch} {e : Env} {s : State} {m : MethodId} {args : Array Value} {below : List Frame} {meth : Method} {c : Code} {T : State} {Z : State} {a0 : Array Value} {locs : List Loc} {cells slots : Nat} (i0 i1 i2 : Int64) (i3 c0 d0 c1 d1 c2 d2 : Int32) (b1 b2 x1 x2 : Addr) (v18 : Int32) (X : Stand p l e room_1 s m args below meth c T locs cells slots) (hx : p.tables.exec = Jvm.exec) (hZ : Z.Warmed39 s.vm) (hw : ∀ d ∈ tables_1, d.before a0 Z = true) (hby : c.code = code) (hown : s.vm.findClass "com/example/tracewarden/tracewarden/net/MarkingStrictlyCoversPinLaw" = some m.cls) :
    ∀ target, Steps p.tables e below (T.setTop (mkF m 220 #[.val (.long i0), .second, .val (.long i1), .second, .val (.long i2), .second, .val (.int i3), .val (.int (1 : Int32)), .val (.int c0), .val (.int d0), .val (.int c1), .val (.int d1), .val (.int c2), .val (.int d2), .val (.ref b1), .val (.ref b2), .val (.ref x1), .val (.ref x2), .val (.int v18), .val (.int (own_z (own_gt (own_f c0 c1 c2) (own_f d0 d1 d2) 1 0)))] [])) target → Steps p.tables e below (T.setTop (mkF m 174 #[.val (.long i0), .second, .val (.long i1), .second, .val (.long i2), .second, .val (.int i3), .val (.int (1 : Int32)), .val (.int c0), .val (.int d0), .val (.int c1), .val (.int d1), .val (.int c2), .val (.int d2), .val (.ref b1), .val (.ref b2), .val (.ref x1), .val (.ref x2), .val (.int v18), .unset] [])) target := by
  intro target kt
  show Steps p.tables e below (T.setTop (mkF m 174 #[.val (.long i0), .second, .val (.long i1), .second, .val (.long i2), .second, .val (.int i3), .val (.int (1 : Int32)), .val (.int c0), .val (.int d0), .val (.int c1), .val (.int d1), .val (.int c2), .val (.int d2), .val (.ref b1), .val (.ref b2), .val (.ref x1), .val (.ref x2), .val (.int v18), .unset] [])) _
  refine XS.iload X.here hx rfl (hb hby at_174) rfl ?_
  show Steps p.tables e below (T.setTop (mkF m 176 #[.val (.long i0), .second, .val (.long i1), .second, .val (.long i2), .second, .val (.int i3), .val (.int (1 : Int32)), .val (.int c0), .val (.int d0), .val (.int c1), .val (.int d1), .val (.int c2), .val (.int d2), .val (.ref b1), .val (.ref b2), .val (.ref x1), .val (.ref x2), .val (.int v18), .unset] [(.int (1 : Int32))])) _
  refine XS.iconst X.here hx rfl (hb hby at_176) ?_
  show Steps p.tables e below (T.setTop (mkF m 177 #[.val (.long i0), .second, .val (.long i1), .second, .val (.long i2), .second, .val (.int i3), .val (.int (1 : Int32)), .val (.int c0), .val (.int d0), .val (.int c1), .val (.int d1), .val (.int c2), .val (.int d2), .val (.ref b1), .val (.ref b2), .val (.ref x1), .val (.ref x2), .val (.int v18), .unset] [(.int (1 : Int32)), (.int (1 : Int32))])) _
  refine XS.icmpNo X.here hx rfl (hb hby at_177) rfl (flt (by decide : ¬ ((1 : Int32) < (1 : Int32)))).1 ?_
  show Steps p.tables e below (T.setTop (mkF m 180 #[.val (.long i0), .second, .val (.long i1), .second, .val (.long i2), .second, .val (.int i3), .val (.int (1 : Int32)), .val (.int c0), .val (.int d0), .val (.int c1), .val (.int d1), .val (.int c2), .val (.int d2), .val (.ref b1), .val (.ref b2), .val (.ref x1), .val (.ref x2), .val (.int v18), .unset] [])) _
  refine XS.iload X.here hx rfl (hb hby at_180) rfl ?_
  show Steps p.tables e below (T.setTop (mkF m 182 #[.val (.long i0), .second, .val (.long i1), .second, .val (.long i2), .second, .val (.int i3), .val (.int (1 : Int32)), .val (.int c0), .val (.int d0), .val (.int c1), .val (.int d1), .val (.int c2), .val (.int d2), .val (.ref b1), .val (.ref b2), .val (.ref x1), .val (.ref x2), .val (.int v18), .unset] [(.int c0)])) _
  refine XS.iload X.here hx rfl (hb hby at_182) rfl ?_
  show Steps p.tables e below (T.setTop (mkF m 184 #[.val (.long i0), .second, .val (.long i1), .second, .val (.long i2), .second, .val (.int i3), .val (.int (1 : Int32)), .val (.int c0), .val (.int d0), .val (.int c1), .val (.int d1), .val (.int c2), .val (.int d2), .val (.ref b1), .val (.ref b2), .val (.ref x1), .val (.ref x2), .val (.int v18), .unset] [(.int d0), (.int c0)])) _
  by_cases hc184 : d0 < c0
  · refine XS.icmpYes X.here hx rfl (pc0 := 184) (pc' := 213) rfl (hb hby at_184) rfl (tlt hc184).2.2.1 (by decide) (by decide) ?_
    show Steps p.tables e below (T.setTop (mkF m 213 #[.val (.long i0), .second, .val (.long i1), .second, .val (.long i2), .second, .val (.int i3), .val (.int (1 : Int32)), .val (.int c0), .val (.int d0), .val (.int c1), .val (.int d1), .val (.int c2), .val (.int d2), .val (.ref b1), .val (.ref b2), .val (.ref x1), .val (.ref x2), .val (.int v18), .unset] [])) _
    refine XS.iconst X.here hx rfl (hb hby at_213) ?_
    show Steps p.tables e below (T.setTop (mkF m 214 #[.val (.long i0), .second, .val (.long i1), .second, .val (.long i2), .second, .val (.int i3), .val (.int (1 : Int32)), .val (.int c0), .val (.int d0), .val (.int c1), .val (.int d1), .val (.int c2), .val (.int d2), .val (.ref b1), .val (.ref b2), .val (.ref x1), .val (.ref x2), .val (.int v18), .unset] [(.int (1 : Int32))])) _
    refine XS.goto X.here hx rfl (pc0 := 214) (pc' := 218) rfl (hb hby at_214) (by decide) (by decide) ?_
    show Steps p.tables e below (T.setTop (mkF m 218 #[.val (.long i0), .second, .val (.long i1), .second, .val (.long i2), .second, .val (.int i3), .val (.int (1 : Int32)), .val (.int c0), .val (.int d0), .val (.int c1), .val (.int d1), .val (.int c2), .val (.int d2), .val (.ref b1), .val (.ref b2), .val (.ref x1), .val (.ref x2), .val (.int v18), .unset] [(.int (1 : Int32))])) _
    refine XS.istore X.here hx rfl (hb hby at_218) rfl (l' := #[.val (.long i0), .second, .val (.long i1), .second, .val (.long i2), .second, .val (.int i3), .val (.int (1 : Int32)), .val (.int c0), .val (.int d0), .val (.int c1), .val (.int d1), .val (.int c2), .val (.int d2), .val (.ref b1), .val (.ref b2), .val (.ref x1), .val (.ref x2), .val (.int v18), .val (.int (1 : Int32))]) rfl ?_
    rw [show (own_z (own_gt (own_f c0 c1 c2) (own_f d0 d1 d2) 1 0)) = (1 : Int32) from by simp [own_z, own_ge, own_gt, own_f, hc184]] at kt
    exact kt
  · refine XS.icmpNo X.here hx rfl (hb hby at_184) rfl (flt hc184).2.2.1 ?_
    show Steps p.tables e below (T.setTop (mkF m 187 #[.val (.long i0), .second, .val (.long i1), .second, .val (.long i2), .second, .val (.int i3), .val (.int (1 : Int32)), .val (.int c0), .val (.int d0), .val (.int c1), .val (.int d1), .val (.int c2), .val (.int d2), .val (.ref b1), .val (.ref b2), .val (.ref x1), .val (.ref x2), .val (.int v18), .unset] [])) _
    refine XS.iload X.here hx rfl (hb hby at_187) rfl ?_
    show Steps p.tables e below (T.setTop (mkF m 189 #[.val (.long i0), .second, .val (.long i1), .second, .val (.long i2), .second, .val (.int i3), .val (.int (1 : Int32)), .val (.int c0), .val (.int d0), .val (.int c1), .val (.int d1), .val (.int c2), .val (.int d2), .val (.ref b1), .val (.ref b2), .val (.ref x1), .val (.ref x2), .val (.int v18), .unset] [(.int (1 : Int32))])) _
    refine XS.iconst X.here hx rfl (hb hby at_189) ?_
    show Steps p.tables e below (T.setTop (mkF m 190 #[.val (.long i0), .second, .val (.long i1), .second, .val (.long i2), .second, .val (.int i3), .val (.int (1 : Int32)), .val (.int c0), .val (.int d0), .val (.int c1), .val (.int d1), .val (.int c2), .val (.int d2), .val (.ref b1), .val (.ref b2), .val (.ref x1), .val (.ref x2), .val (.int v18), .unset] [(.int (2 : Int32)), (.int (1 : Int32))])) _
    refine XS.icmpYes X.here hx rfl (pc0 := 190) (pc' := 200) rfl (hb hby at_190) rfl (tlt (by decide : (1 : Int32) < (2 : Int32))).1 (by decide) (by decide) ?_
    show Steps p.tables e below (T.setTop (mkF m 200 #[.val (.long i0), .second, .val (.long i1), .second, .val (.long i2), .second, .val (.int i3), .val (.int (1 : Int32)), .val (.int c0), .val (.int d0), .val (.int c1), .val (.int d1), .val (.int c2), .val (.int d2), .val (.ref b1), .val (.ref b2), .val (.ref x1), .val (.ref x2), .val (.int v18), .unset] [])) _
    refine XS.iload X.here hx rfl (hb hby at_200) rfl ?_
    show Steps p.tables e below (T.setTop (mkF m 202 #[.val (.long i0), .second, .val (.long i1), .second, .val (.long i2), .second, .val (.int i3), .val (.int (1 : Int32)), .val (.int c0), .val (.int d0), .val (.int c1), .val (.int d1), .val (.int c2), .val (.int d2), .val (.ref b1), .val (.ref b2), .val (.ref x1), .val (.ref x2), .val (.int v18), .unset] [(.int (1 : Int32))])) _
    refine XS.iconst X.here hx rfl (hb hby at_202) ?_
    show Steps p.tables e below (T.setTop (mkF m 203 #[.val (.long i0), .second, .val (.long i1), .second, .val (.long i2), .second, .val (.int i3), .val (.int (1 : Int32)), .val (.int c0), .val (.int d0), .val (.int c1), .val (.int d1), .val (.int c2), .val (.int d2), .val (.ref b1), .val (.ref b2), .val (.ref x1), .val (.ref x2), .val (.int v18), .unset] [(.int (3 : Int32)), (.int (1 : Int32))])) _
    refine XS.icmpYes X.here hx rfl (pc0 := 203) (pc' := 217) rfl (hb hby at_203) rfl (tlt (by decide : (1 : Int32) < (3 : Int32))).1 (by decide) (by decide) ?_
    show Steps p.tables e below (T.setTop (mkF m 217 #[.val (.long i0), .second, .val (.long i1), .second, .val (.long i2), .second, .val (.int i3), .val (.int (1 : Int32)), .val (.int c0), .val (.int d0), .val (.int c1), .val (.int d1), .val (.int c2), .val (.int d2), .val (.ref b1), .val (.ref b2), .val (.ref x1), .val (.ref x2), .val (.int v18), .unset] [])) _
    refine XS.iconst X.here hx rfl (hb hby at_217) ?_
    show Steps p.tables e below (T.setTop (mkF m 218 #[.val (.long i0), .second, .val (.long i1), .second, .val (.long i2), .second, .val (.int i3), .val (.int (1 : Int32)), .val (.int c0), .val (.int d0), .val (.int c1), .val (.int d1), .val (.int c2), .val (.int d2), .val (.ref b1), .val (.ref b2), .val (.ref x1), .val (.ref x2), .val (.int v18), .unset] [(.int (0 : Int32))])) _
    refine XS.istore X.here hx rfl (hb hby at_218) rfl (l' := #[.val (.long i0), .second, .val (.long i1), .second, .val (.long i2), .second, .val (.int i3), .val (.int (1 : Int32)), .val (.int c0), .val (.int d0), .val (.int c1), .val (.int d1), .val (.int c2), .val (.int d2), .val (.ref b1), .val (.ref b2), .val (.ref x1), .val (.ref x2), .val (.int v18), .val (.int (0 : Int32))]) rfl ?_
    rw [show (own_z (own_gt (own_f c0 c1 c2) (own_f d0 d1 d2) 1 0)) = (0 : Int32) from by simp [own_z, own_ge, own_gt, own_f, hc184]] at kt
    exact kt
set_option maxRecDepth 65536 in
set_option maxHeartbeats 40000000 in
theorem own_fill2 {p : Program} {l : Launch} {e : Env} {s : State} {m : MethodId} {args : Array Value} {below : List Frame} {meth : Method} {c : Code} {T : State} {Z : State} {a0 : Array Value} {h0 : Heap} {locs : List Loc} (i0 i1 i2 : Int64) (i3 c0 d0 c1 d1 c2 d2 : Int32) (b1 b2 : Addr) (X1 : Stand p l e room_1 s m args below meth c T locs 2 6) (hx : p.tables.exec = Jvm.exec) (hZ : Z.Warmed39 s.vm) (hw : ∀ d ∈ tables_1, d.before a0 Z = true) (hby : c.code = code) (hown : s.vm.findClass "com/example/tracewarden/tracewarden/net/MarkingStrictlyCoversPinLaw" = some m.cls) (e1 : T.heap = h0) {n0 : Nat} (Z1 : n0 ≤ h0.size) (N1 : Fr n0 locs) (g_b1 : n0 ≤ b1) (g_b2 : n0 ≤ b2) (hne : b1 ≠ b2) (A1 : own_IA Z h0 b1 2 (fun _ => 0)) (B1 : own_IA Z h0 b2 2 (fun _ => 0)) :
    ∃ (T' : State) (h' : Heap) (L' : List Loc), Stand p l e room_1 s m args below meth c T' L' 2 6 ∧ T'.heap = h' ∧ Fr n0 L' ∧ n0 ≤ h'.size ∧ own_IA Z h' b1 2 (own_f c0 c1 c2) ∧ own_IA Z h' b2 2 (own_f d0 d1 d2) ∧
      ∀ target, Steps p.tables e below (T'.setTop (mkF m 106 #[.val (.long i0), .second, .val (.long i1), .second, .val (.long i2), .second, .val (.int i3), .val (.int (2 : Int32)), .val (.int c0), .val (.int d0), .val (.int c1), .val (.int d1), .val (.int c2), .val (.int d2), .val (.ref b1), .val (.ref b2), .unset, .unset, .unset, .unset] [])) target → Steps p.tables e below (T.setTop (mkF m 53 #[.val (.long i0), .second, .val (.long i1), .second, .val (.long i2), .second, .val (.int i3), .val (.int (2 : Int32)), .val (.int c0), .val (.int d0), .val (.int c1), .val (.int d1), .val (.int c2), .val (.int d2), .val (.ref b1), .val (.ref b2), .unset, .unset, .unset, .unset] [])) target := by
  obtain ⟨T2, h2, X2, e2, K2, A2, st2⟩ := own_stI X1 hx hZ e1 (by decide) A1 (i := 0) (by decide) (g := (mkF m 63 #[.val (.long i0), .second, .val (.long i1), .second, .val (.long i2), .second, .val (.int i3), .val (.int (2 : Int32)), .val (.int c0), .val (.int d0), .val (.int c1), .val (.int d1), .val (.int c2), .val (.int d2), .val (.ref b1), .val (.ref b2), .unset, .unset, .unset, .unset] [(.int c0), (.int (0 : Int32)), (.ref b1)])) rfl rfl (hb hby at_63)
  have B2 := B1.keep K2 (ninS hne.symm nin0)
  have N2 := Fr.snoc X2 N1 g_b1
  have Z2 : n0 ≤ h2.size := Nat.le_trans Z1 K2.1
  obtain ⟨T3, h3, X3, e3, K3, B3, st3⟩ := own_stI X2 hx hZ e2 (by decide) B2 (i := 0) (by decide) (g := (mkF m 69 #[.val (.long i0), .second, .val (.long i1), .second, .val (.long i2), .second, .val (.int i3), .val (.int (2 : Int32)), .val (.int c0), .val (.int d0), .val (.int c1), .val (.int d1), .val (.int c2), .val (.int d2), .val (.ref b1), .val (.ref b2), .unset, .unset, .unset, .unset] [(.int d0), (.int (0 : Int32)), (.ref b2)])) rfl rfl (hb hby at_69)
  have A3 := A2.keep K3 (ninS hne nin0)
  have N3 := Fr.snoc X3 N2 g_b2
  have Z3 : n0 ≤ h3.size := Nat.le_trans Z2 K3.1
  obtain ⟨T4, h4, X4, e4, K4, A4, st4⟩ := own_stI X3 hx hZ e3 (by decide) A3 (i := 1) (by decide) (g := (mkF m 81 #[.val (.long i0), .second, .val (.long i1), .second, .val (.long i2), .second, .val (.int i3), .val (.int (2 : Int32)), .val (.int c0), .val (.int d0), .val (.int c1), .val (.int d1), .val (.int c2), .val (.int d2), .val (.ref b1), .val (.ref b2), .unset, .unset, .unset, .unset] [(.int c1), (.int (1 : Int32)), (.ref b1)])) rfl rfl (hb hby at_81)
  have B4 := B3.keep K4 (ninS hne.symm nin0)
  have N4 := Fr.snoc X4 N3 g_b1
  have Z4 : n0 ≤ h4.size := Nat.le_trans Z3 K4.1
  obtain ⟨T5, h5, X5, e5, K5, B5, st5⟩ := own_stI X4 hx hZ e4 (by decide) B4 (i := 1) (by decide) (g := (mkF m 87 #[.val (.long i0), .second, .val (.long i1), .second, .val (.long i2), .second, .val (.int i3), .val (.int (2 : Int32)), .val (.int c0), .val (.int d0), .val (.int c1), .val (.int d1), .val (.int c2), .val (.int d2), .val (.ref b1), .val (.ref b2), .unset, .unset, .unset, .unset] [(.int d1), (.int (1 : Int32)), (.ref b2)])) rfl rfl (hb hby at_87)
  have A5 := A4.keep K5 (ninS hne nin0)
  have N5 := Fr.snoc X5 N4 g_b2
  have Z5 : n0 ≤ h5.size := Nat.le_trans Z4 K5.1
  have AF : own_IA Z h5 b1 2 (own_f c0 c1 c2) := A5.fn fun i hi => by
    have hi' : i = 0 ∨ i = 1 := by omega
    rcases hi' with rfl | rfl <;> simp [own_f]
  have BF : own_IA Z h5 b2 2 (own_f d0 d1 d2) := B5.fn fun i hi => by
    have hi' : i = 0 ∨ i = 1 := by omega
    rcases hi' with rfl | rfl <;> simp [own_f]
  refine ⟨T5, h5, _, X5, e5, N5, Z5, AF, BF, fun target kt => ?_⟩
  show Steps p.tables e below (T.setTop (mkF m 53 #[.val (.long i0), .second, .val (.long i1), .second, .val (.long i2), .second, .val (.int i3), .val (.int (2 : Int32)), .val (.int c0), .val (.int d0), .val (.int c1), .val (.int d1), .val (.int c2), .val (.int d2), .val (.ref b1), .val (.ref b2), .unset, .unset, .unset, .unset] [])) _
  refine XS.iload X1.here hx rfl (hb hby at_53) rfl ?_
  show Steps p.tables e below (T.setTop (mkF m 55 #[.val (.long i0), .second, .val (.long i1), .second, .val (.long i2), .second, .val (.int i3), .val (.int (2 : Int32)), .val (.int c0), .val (.int d0), .val (.int c1), .val (.int d1), .val (.int c2), .val (.int d2), .val (.ref b1), .val (.ref b2), .unset, .unset, .unset, .unset] [(.int (2 : Int32))])) _
  refine XS.ifNo X1.here hx rfl (hb hby at_55) rfl ((if0 _ _).trans (tlt (by decide : (0 : Int32) < (2 : Int32))).2.2.2) ?_
  show Steps p.tables e below (T.setTop (mkF m 58 #[.val (.long i0), .second, .val (.long i1), .second, .val (.long i2), .second, .val (.int i3), .val (.int (2 : Int32)), .val (.int c0), .val (.int d0), .val (.int c1), .val (.int d1), .val (.int c2), .val (.int d2), .val (.ref b1), .val (.ref b2), .unset, .unset, .unset, .unset] [])) _
  refine XS.aload X1.here hx rfl (hb hby at_58) rfl rfl ?_
  show Steps p.tables e below (T.setTop (mkF m 60 #[.val (.long i0), .second, .val (.long i1), .second, .val (.long i2), .second, .val (.int i3), .val (.int (2 : Int32)), .val (.int c0), .val (.int d0), .val (.int c1), .val (.int d1), .val (.int c2), .val (.int d2), .val (.ref b1), .val (.ref b2), .unset, .unset, .unset, .unset] [(.ref b1)])) _
  refine XS.iconst X1.here hx rfl (hb hby at_60) ?_
  show Steps p.tables e below (T.setTop (mkF m 61 #[.val (.long i0), .second, .val (.long i1), .second, .val (.long i2), .second, .val (.int i3), .val (.int (2 : Int32)), .val (.int c0), .val (.int d0), .val (.int c1), .val (.int d1), .val (.int c2), .val (.int d2), .val (.ref b1), .val (.ref b2), .unset, .unset, .unset, .unset] [(.int (0 : Int32)), (.ref b1)])) _
  refine XS.iload X1.here hx rfl (hb hby at_61) rfl ?_
  refine st2 _ ?_
  show Steps p.tables e below (T2.setTop (mkF m 64 #[.val (.long i0), .second, .val (.long i1), .second, .val (.long i2), .second, .val (.int i3), .val (.int (2 : Int32)), .val (.int c0), .val (.int d0), .val (.int c1), .val (.int d1), .val (.int c2), .val (.int d2), .val (.ref b1), .val (.ref b2), .unset, .unset, .unset, .unset] [])) _
  refine XS.aload X2.here hx rfl (hb hby at_64) rfl rfl ?_
  show Steps p.tables e below (T2.setTop (mkF m 66 #[.val (.long i0), .second, .val (.long i1), .second, .val (.long i2), .second, .val (.int i3), .val (.int (2 : Int32)), .val (.int c0), .val (.int d0), .val (.int c1), .val (.int d1), .val (.int c2), .val (.int d2), .val (.ref b1), .val (.ref b2), .unset, .unset, .unset, .unset] [(.ref b2)])) _
  refine XS.iconst X2.here hx rfl (hb hby at_66) ?_
  show Steps p.tables e below (T2.setTop (mkF m 67 #[.val (.long i0), .second, .val (.long i1), .second, .val (.long i2), .second, .val (.int i3), .val (.int (2 : Int32)), .val (.int c0), .val (.int d0), .val (.int c1), .val (.int d1), .val (.int c2), .val (.int d2), .val (.ref b1), .val (.ref b2), .unset, .unset, .unset, .unset] [(.int (0 : Int32)), (.ref b2)])) _
  refine XS.iload X2.here hx rfl (hb hby at_67) rfl ?_
  refine st3 _ ?_
  show Steps p.tables e below (T3.setTop (mkF m 70 #[.val (.long i0), .second, .val (.long i1), .second, .val (.long i2), .second, .val (.int i3), .val (.int (2 : Int32)), .val (.int c0), .val (.int d0), .val (.int c1), .val (.int d1), .val (.int c2), .val (.int d2), .val (.ref b1), .val (.ref b2), .unset, .unset, .unset, .unset] [])) _
  refine XS.iload X3.here hx rfl (hb hby at_70) rfl ?_
  show Steps p.tables e below (T3.setTop (mkF m 72 #[.val (.long i0), .second, .val (.long i1), .second, .val (.long i2), .second, .val (.int i3), .val (.int (2 : Int32)), .val (.int c0), .val (.int d0), .val (.int c1), .val (.int d1), .val (.int c2), .val (.int d2), .val (.ref b1), .val (.ref b2), .unset, .unset, .unset, .unset] [(.int (2 : Int32))])) _
  refine XS.iconst X3.here hx rfl (hb hby at_72) ?_
  show Steps p.tables e below (T3.setTop (mkF m 73 #[.val (.long i0), .second, .val (.long i1), .second, .val (.long i2), .second, .val (.int i3), .val (.int (2 : Int32)), .val (.int c0), .val (.int d0), .val (.int c1), .val (.int d1), .val (.int c2), .val (.int d2), .val (.ref b1), .val (.ref b2), .unset, .unset, .unset, .unset] [(.int (1 : Int32)), (.int (2 : Int32))])) _
  refine XS.icmpNo X3.here hx rfl (hb hby at_73) rfl (tlt (by decide : (1 : Int32) < (2 : Int32))).2.2.2 ?_
  show Steps p.tables e below (T3.setTop (mkF m 76 #[.val (.long i0), .second, .val (.long i1), .second, .val (.long i2), .second, .val (.int i3), .val (.int (2 : Int32)), .val (.int c0), .val (.int d0), .val (.int c1), .val (.int d1), .val (.int c2), .val (.int d2), .val (.ref b1), .val (.ref b2), .unset, .unset, .unset, .unset] [])) _
  refine XS.aload X3.here hx rfl (hb hby at_76) rfl rfl ?_
  show Steps p.tables e below (T3.setTop (mkF m 78 #[.val (.long i0), .second, .val (.long i1), .second, .val (.long i2), .second, .val (.int i3), .val (.int (2 : Int32)), .val (.int c0), .val (.int d0), .val (.int c1), .val (.int d1), .val (.int c2), .val (.int d2), .val (.ref b1), .val (.ref b2), .unset, .unset, .unset, .unset] [(.ref b1)])) _
  refine XS.iconst X3.here hx rfl (hb hby at_78) ?_
  show Steps p.tables e below (T3.setTop (mkF m 79 #[.val (.long i0), .second, .val (.long i1), .second, .val (.long i2), .second, .val (.int i3), .val (.int (2 : Int32)), .val (.int c0), .val (.int d0), .val (.int c1), .val (.int d1), .val (.int c2), .val (.int d2), .val (.ref b1), .val (.ref b2), .unset, .unset, .unset, .unset] [(.int (1 : Int32)), (.ref b1)])) _
  refine XS.iload X3.here hx rfl (hb hby at_79) rfl ?_
  refine st4 _ ?_
  show Steps p.tables e below (T4.setTop (mkF m 82 #[.val (.long i0), .second, .val (.long i1), .second, .val (.long i2), .second, .val (.int i3), .val (.int (2 : Int32)), .val (.int c0), .val (.int d0), .val (.int c1), .val (.int d1), .val (.int c2), .val (.int d2), .val (.ref b1), .val (.ref b2), .unset, .unset, .unset, .unset] [])) _
  refine XS.aload X4.here hx rfl (hb hby at_82) rfl rfl ?_
  show Steps p.tables e below (T4.setTop (mkF m 84 #[.val (.long i0), .second, .val (.long i1), .second, .val (.long i2), .second, .val (.int i3), .val (.int (2 : Int32)), .val (.int c0), .val (.int d0), .val (.int c1), .val (.int d1), .val (.int c2), .val (.int d2), .val (.ref b1), .val (.ref b2), .unset, .unset, .unset, .unset] [(.ref b2)])) _
  refine XS.iconst X4.here hx rfl (hb hby at_84) ?_
  show Steps p.tables e below (T4.setTop (mkF m 85 #[.val (.long i0), .second, .val (.long i1), .second, .val (.long i2), .second, .val (.int i3), .val (.int (2 : Int32)), .val (.int c0), .val (.int d0), .val (.int c1), .val (.int d1), .val (.int c2), .val (.int d2), .val (.ref b1), .val (.ref b2), .unset, .unset, .unset, .unset] [(.int (1 : Int32)), (.ref b2)])) _
  refine XS.iload X4.here hx rfl (hb hby at_85) rfl ?_
  refine st5 _ ?_
  show Steps p.tables e below (T5.setTop (mkF m 88 #[.val (.long i0), .second, .val (.long i1), .second, .val (.long i2), .second, .val (.int i3), .val (.int (2 : Int32)), .val (.int c0), .val (.int d0), .val (.int c1), .val (.int d1), .val (.int c2), .val (.int d2), .val (.ref b1), .val (.ref b2), .unset, .unset, .unset, .unset] [])) _
  refine XS.iload X5.here hx rfl (hb hby at_88) rfl ?_
  show Steps p.tables e below (T5.setTop (mkF m 90 #[.val (.long i0), .second, .val (.long i1), .second, .val (.long i2), .second, .val (.int i3), .val (.int (2 : Int32)), .val (.int c0), .val (.int d0), .val (.int c1), .val (.int d1), .val (.int c2), .val (.int d2), .val (.ref b1), .val (.ref b2), .unset, .unset, .unset, .unset] [(.int (2 : Int32))])) _
  refine XS.iconst X5.here hx rfl (hb hby at_90) ?_
  show Steps p.tables e below (T5.setTop (mkF m 91 #[.val (.long i0), .second, .val (.long i1), .second, .val (.long i2), .second, .val (.int i3), .val (.int (2 : Int32)), .val (.int c0), .val (.int d0), .val (.int c1), .val (.int d1), .val (.int c2), .val (.int d2), .val (.ref b1), .val (.ref b2), .unset, .unset, .unset, .unset] [(.int (2 : Int32)), (.int (2 : Int32))])) _
  refine XS.icmpYes X5.here hx rfl (pc0 := 91) (pc' := 106) rfl (hb hby at_91) rfl (flt (by decide : ¬ ((2 : Int32) < (2 : Int32)))).2.2.2 (by decide) (by decide) ?_
  exact kt
set_option maxRecDepth 65536 in
set_option maxHeartbeats 40000000 in
theorem own_all2 {p : Program} {l : Launch} {e : Env} {s : State} {m : MethodId} {args : Array Value} {below : List Frame} {meth : Method} {c : Code} {T : State} {Z : State} {a0 : Array Value} {locs : List Loc} {cells slots : Nat} (i0 i1 i2 : Int64) (i3 c0 d0 c1 d1 c2 d2 : Int32) (b1 b2 x1 x2 : Addr) (v18 : Int32) (X : Stand p l e room_1 s m args below meth c T locs cells slots) (hx : p.tables.exec = Jvm.exec) (hZ : Z.Warmed39 s.vm) (hw : ∀ d ∈ tables_1, d.before a0 Z = true) (hby : c.code = code) (hown : s.vm.findClass "com/example/tracewarden/tracewarden/net/MarkingStrictlyCoversPinLaw" = some m.cls) :
    ∀ target, Steps p.tables e below (T.setTop (mkF m 174 #[.val (.long i0), .second, .val (.long i1), .second, .val (.long i2), .second, .val (.int i3), .val (.int (2 : Int32)), .val (.int c0), .val (.int d0), .val (.int c1), .val (.int d1), .val (.int c2), .val (.int d2), .val (.ref b1), .val (.ref b2), .val (.ref x1), .val (.ref x2), .val (.int (own_z (own_ge (own_f c0 c1 c2) (own_f d0 d1 d2) 2 0))), .unset] [])) target → Steps p.tables e below (T.setTop (mkF m 128 #[.val (.long i0), .second, .val (.long i1), .second, .val (.long i2), .second, .val (.int i3), .val (.int (2 : Int32)), .val (.int c0), .val (.int d0), .val (.int c1), .val (.int d1), .val (.int c2), .val (.int d2), .val (.ref b1), .val (.ref b2), .val (.ref x1), .val (.ref x2), .unset, .unset] [])) target := by
  intro target kt
  show Steps p.tables e below (T.setTop (mkF m 128 #[.val (.long i0), .second, .val (.long i1), .second, .val (.long i2), .second, .val (.int i3), .val (.int (2 : Int32)), .val (.int c0), .val (.int d0), .val (.int c1), .val (.int d1), .val (.int c2), .val (.int d2), .val (.ref b1), .val (.ref b2), .val (.ref x1), .val (.ref x2), .unset, .unset] [])) _
  refine XS.iload X.here hx rfl (hb hby at_128) rfl ?_
  show Steps p.tables e below (T.setTop (mkF m 130 #[.val (.long i0), .second, .val (.long i1), .second, .val (.long i2), .second, .val (.int i3), .val (.int (2 : Int32)), .val (.int c0), .val (.int d0), .val (.int c1), .val (.int d1), .val (.int c2), .val (.int d2), .val (.ref b1), .val (.ref b2), .val (.ref x1), .val (.ref x2), .unset, .unset] [(.int (2 : Int32))])) _
  refine XS.iconst X.here hx rfl (hb hby at_130) ?_
  show Steps p.tables e below (T.setTop (mkF m 131 #[.val (.long i0), .second, .val (.long i1), .second, .val (.long i2), .second, .val (.int i3), .val (.int (2 : Int32)), .val (.int c0), .val (.int d0), .val (.int c1), .val (.int d1), .val (.int c2), .val (.int d2), .val (.ref b1), .val (.ref b2), .val (.ref x1), .val (.ref x2), .unset, .unset] [(.int (1 : Int32)), (.int (2 : Int32))])) _
  refine XS.icmpNo X.here hx rfl (hb hby at_131) rfl (flt (by decide : ¬ ((2 : Int32) < (1 : Int32)))).1 ?_
  show Steps p.tables e below (T.setTop (mkF m 134 #[.val (.long i0), .second, .val (.long i1), .second, .val (.long i2), .second, .val (.int i3), .val (.int (2 : Int32)), .val (.int c0), .val (.int d0), .val (.int c1), .val (.int d1), .val (.int c2), .val (.int d2), .val (.ref b1), .val (.ref b2), .val (.ref x1), .val (.ref x2), .unset, .unset] [])) _
  refine XS.iload X.here hx rfl (hb hby at_134) rfl ?_
  show Steps p.tables e below (T.setTop (mkF m 136 #[.val (.long i0), .second, .val (.long i1), .second, .val (.long i2), .second, .val (.int i3), .val (.int (2 : Int32)), .val (.int c0), .val (.int d0), .val (.int c1), .val (.int d1), .val (.int c2), .val (.int d2), .val (.ref b1), .val (.ref b2), .val (.ref x1), .val (.ref x2), .unset, .unset] [(.int c0)])) _
  refine XS.iload X.here hx rfl (hb hby at_136) rfl ?_
  show Steps p.tables e below (T.setTop (mkF m 138 #[.val (.long i0), .second, .val (.long i1), .second, .val (.long i2), .second, .val (.int i3), .val (.int (2 : Int32)), .val (.int c0), .val (.int d0), .val (.int c1), .val (.int d1), .val (.int c2), .val (.int d2), .val (.ref b1), .val (.ref b2), .val (.ref x1), .val (.ref x2), .unset, .unset] [(.int d0), (.int c0)])) _
  by_cases hc138 : c0 < d0
  · refine XS.icmpYes X.here hx rfl (pc0 := 138) (pc' := 171) rfl (hb hby at_138) rfl (tlt hc138).1 (by decide) (by decide) ?_
    show Steps p.tables e below (T.setTop (mkF m 171 #[.val (.long i0), .second, .val (.long i1), .second, .val (.long i2), .second, .val (.int i3), .val (.int (2 : Int32)), .val (.int c0), .val (.int d0), .val (.int c1), .val (.int d1), .val (.int c2), .val (.int d2), .val (.ref b1), .val (.ref b2), .val (.ref x1), .val (.ref x2), .unset, .unset] [])) _
    refine XS.iconst X.here hx rfl (hb hby at_171) ?_
    show Steps p.tables e below (T.setTop (mkF m 172 #[.val (.long i0), .second, .val (.long i1), .second, .val (.long i2), .second, .val (.int i3), .val (.int (2 : Int32)), .val (.int c0), .val (.int d0), .val (.int c1), .val (.int d1), .val (.int c2), .val (.int d2), .val (.ref b1), .val (.ref b2), .val (.ref x1), .val (.ref x2), .unset, .unset] [(.int (0 : Int32))])) _
    refine XS.istore X.here hx rfl (hb hby at_172) rfl (l' := #[.val (.long i0), .second, .val (.long i1), .second, .val (.long i2), .second, .val (.int i3), .val (.int (2 : Int32)), .val (.int c0), .val (.int d0), .val (.int c1), .val (.int d1), .val (.int c2), .val (.int d2), .val (.ref b1), .val (.ref b2), .val (.ref x1), .val (.ref x2), .val (.int (0 : Int32)), .unset]) rfl ?_
    rw [show (own_z (own_ge (own_f c0 c1 c2) (own_f d0 d1 d2) 2 0)) = (0 : Int32) from by simp [own_z, own_ge, own_gt, own_f, hc138]] at kt
    exact kt
  · refine XS.icmpNo X.here hx rfl (hb hby at_138) rfl (flt hc138).1 ?_
    show Steps p.tables e below (T.setTop (mkF m 141 #[.val (.long i0), .second, .val (.long i1), .second, .val (.long i2), .second, .val (.int i3), .val (.int (2 : Int32)), .val (.int c0), .val (.int d0), .val (.int c1), .val (.int d1), .val (.int c2), .val (.int d2), .val (.ref b1), .val (.ref b2), .val (.ref x1), .val (.ref x2), .unset, .unset] [])) _
    refine XS.iload X.here hx rfl (hb hby at_141) rfl ?_
    show Steps p.tables e below (T.setTop (mkF m 143 #[.val (.long i0), .second, .val (.long i1), .second, .val (.long i2), .second, .val (.int i3), .val (.int (2 : Int32)), .val (.int c0), .val (.int d0), .val (.int c1), .val (.int d1), .val (.int c2), .val (.int d2), .val (.ref b1), .val (.ref b2), .val (.ref x1), .val (.ref x2), .unset, .unset] [(.int (2 : Int32))])) _
    refine XS.iconst X.here hx rfl (hb hby at_143) ?_
    show Steps p.tables e below (T.setTop (mkF m 144 #[.val (.long i0), .second, .val (.long i1), .second, .val (.long i2), .second, .val (.int i3), .val (.int (2 : Int32)), .val (.int c0), .val (.int d0), .val (.int c1), .val (.int d1), .val (.int c2), .val (.int d2), .val (.ref b1), .val (.ref b2), .val (.ref x1), .val (.ref x2), .unset, .unset] [(.int (2 : Int32)), (.int (2 : Int32))])) _
    refine XS.icmpNo X.here hx rfl (hb hby at_144) rfl (flt (by decide : ¬ ((2 : Int32) < (2 : Int32)))).1 ?_
    show Steps p.tables e below (T.setTop (mkF m 147 #[.val (.long i0), .second, .val (.long i1), .second, .val (.long i2), .second, .val (.int i3), .val (.int (2 : Int32)), .val (.int c0), .val (.int d0), .val (.int c1), .val (.int d1), .val (.int c2), .val (.int d2), .val (.ref b1), .val (.ref b2), .val (.ref x1), .val (.ref x2), .unset, .unset] [])) _
    refine XS.iload X.here hx rfl (hb hby at_147) rfl ?_
    show Steps p.tables e below (T.setTop (mkF m 149 #[.val (.long i0), .second, .val (.long i1), .second, .val (.long i2), .second, .val (.int i3), .val (.int (2 : Int32)), .val (.int c0), .val (.int d0), .val (.int c1), .val (.int d1), .val (.int c2), .val (.int d2), .val (.ref b1), .val (.ref b2), .val (.ref x1), .val (.ref x2), .unset, .unset] [(.int c1)])) _
    refine XS.iload X.here hx rfl (hb hby at_149) rfl ?_
    show Steps p.tables e below (T.setTop (mkF m 151 #[.val (.long i0), .second, .val (.long i1), .second, .val (.long i2), .second, .val (.int i3), .val (.int (2 : Int32)), .val (.int c0), .val (.int d0), .val (.int c1), .val (.int d1), .val (.int c2), .val (.int d2), .val (.ref b1), .val (.ref b2), .val (.ref x1), .val (.ref x2), .unset, .unset] [(.int d1), (.int c1)])) _
    by_cases hc151 : c1 < d1
    · refine XS.icmpYes X.here hx rfl (pc0 := 151) (pc' := 171) rfl (hb hby at_151) rfl (tlt hc151).1 (by decide) (by decide) ?_
      show Steps p.tables e below (T.setTop (mkF m 171 #[.val (.long i0), .second, .val (.long i1), .second, .val (.long i2), .second, .val (.int i3), .val (.int (2 : Int32)), .val (.int c0), .val (.int d0), .val (.int c1), .val (.int d1), .val (.int c2), .val (.int d2), .val (.ref b1), .val (.ref b2), .val (.ref x1), .val (.ref x2), .unset, .unset] [])) _
      refine XS.iconst X.here hx rfl (hb hby at_171) ?_
      show Steps p.tables e below (T.setTop (mkF m 172 #[.val (.long i0), .second, .val (.long i1), .second, .val (.long i2), .second, .val (.int i3), .val (.int (2 : Int32)), .val (.int c0), .val (.int d0), .val (.int c1), .val (.int d1), .val (.int c2), .val (.int d2), .val (.ref b1), .val (.ref b2), .val (.ref x1), .val (.ref x2), .unset, .unset] [(.int (0 : Int32))])) _
      refine XS.istore X.here hx rfl (hb hby at_172) rfl (l' := #[.val (.long i0), .second, .val (.long i1), .second, .val (.long i2), .second, .val (.int i3), .val (.int (2 : Int32)), .val (.int c0), .val (.int d0), .val (.int c1), .val (.int d1), .val (.int c2), .val (.int d2), .val (.ref b1), .val (.ref b2), .val (.ref x1), .val (.ref x2), .val (.int (0 : Int32)), .unset]) rfl ?_
      rw [show (own_z (own_ge (own_f c0 c1 c2) (own_f d0 d1 d2) 2 0)) = (0 : Int32) from by simp [own_z, own_ge, own_gt, own_f, hc138, hc151]] at kt
      exact kt
    · refine XS.icmpNo X.here hx rfl (hb hby at_151) rfl (flt hc151).1 ?_
      show Steps p.tables e below (T.setTop (mkF m 154 #[.val (.long i0), .second, .val (.long i1), .second, .val (.long i2), .second, .val (.int i3), .val (.int (2 : Int32)), .val (.int c0), .val (.int d0), .val (.int c1), .val (.int d1), .val (.int c2), .val (.int d2), .val (.ref b1), .val (.ref b2), .val (.ref x1), .val (.ref x2), .unset, .unset] [])) _
      refine XS.iload X.here hx rfl (hb hby at_154) rfl ?_
      show Steps p.tables e below (T.setTop (mkF m 156 #[.val (.long i0), .second, .val (.long i1), .second, .val (.long i2), .second, .val (.int i3), .val (.int (2 : Int32)), .val (.int c0), .val (.int d0), .val (.int c1), .val (.int d1), .val (.int c2), .val (.int d2), .val (.ref b1), .val (.ref b2), .val (.ref x1), .val (.ref x2), .unset, .unset] [(.int (2 : Int32))])) _
      refine XS.iconst X.here hx rfl (hb hby at_156) ?_
      show Steps p.tables e below (T.setTop (mkF m 157 #[.val (.long i0), .second, .val (.long i1), .second, .val (.long i2), .second, .val (.int i3), .val (.int (2 : Int32)), .val (.int c0), .val (.int d0), .val (.int c1), .val (.int d1), .val (.int c2), .val (.int d2), .val (.ref b1), .val (.ref b2), .val (.ref x1), .val (.ref x2), .unset, .unset] [(.int (3 : Int32)), (.int (2 : Int32))])) _
      refine XS.icmpYes X.here hx rfl (pc0 := 157) (pc' := 167) rfl (hb hby at_157) rfl (tlt (by decide : (2 : Int32) < (3 : Int32))).1 (by decide) (by decide) ?_
      show Steps p.tables e below (T.setTop (mkF m 167 #[.val (.long i0), .second, .val (.long i1), .second, .val (.long i2), .second, .val (.int i3), .val (.int (2 : Int32)), .val (.int c0), .val (.int d0), .val (.int c1), .val (.int d1), .val (.int c2), .val (.int d2), .val (.ref b1), .val (.ref b2), .val (.ref x1), .val (.ref x2), .unset, .unset] [])) _
      refine XS.iconst X.here hx rfl (hb hby at_167) ?_
      show Steps p.tables e below (T.setTop (mkF m 168 #[.val (.long i0), .second, .val (.long i1), .second, .val (.long i2), .second, .val (.int i3), .val (.int (2 : Int32)), .val (.int c0), .val (.int d0), .val (.int c1), .val (.int d1), .val (.int c2), .val (.int d2), .val (.ref b1), .val (.ref b2), .val (.ref x1), .val (.ref x2), .unset, .unset] [(.int (1 : Int32))])) _
      refine XS.goto X.here hx rfl (pc0 := 168) (pc' := 172) rfl (hb hby at_168) (by decide) (by decide) ?_
      show Steps p.tables e below (T.setTop (mkF m 172 #[.val (.long i0), .second, .val (.long i1), .second, .val (.long i2), .second, .val (.int i3), .val (.int (2 : Int32)), .val (.int c0), .val (.int d0), .val (.int c1), .val (.int d1), .val (.int c2), .val (.int d2), .val (.ref b1), .val (.ref b2), .val (.ref x1), .val (.ref x2), .unset, .unset] [(.int (1 : Int32))])) _
      refine XS.istore X.here hx rfl (hb hby at_172) rfl (l' := #[.val (.long i0), .second, .val (.long i1), .second, .val (.long i2), .second, .val (.int i3), .val (.int (2 : Int32)), .val (.int c0), .val (.int d0), .val (.int c1), .val (.int d1), .val (.int c2), .val (.int d2), .val (.ref b1), .val (.ref b2), .val (.ref x1), .val (.ref x2), .val (.int (1 : Int32)), .unset]) rfl ?_
      rw [show (own_z (own_ge (own_f c0 c1 c2) (own_f d0 d1 d2) 2 0)) = (1 : Int32) from by simp [own_z, own_ge, own_gt, own_f, hc138, hc151]] at kt
      exact kt
set_option maxRecDepth 65536 in
set_option maxHeartbeats 40000000 in
theorem own_some2 {p : Program} {l : Launch} {e : Env} {s : State} {m : MethodId} {args : Array Value} {below : List Frame} {meth : Method} {c : Code} {T : State} {Z : State} {a0 : Array Value} {locs : List Loc} {cells slots : Nat} (i0 i1 i2 : Int64) (i3 c0 d0 c1 d1 c2 d2 : Int32) (b1 b2 x1 x2 : Addr) (v18 : Int32) (X : Stand p l e room_1 s m args below meth c T locs cells slots) (hx : p.tables.exec = Jvm.exec) (hZ : Z.Warmed39 s.vm) (hw : ∀ d ∈ tables_1, d.before a0 Z = true) (hby : c.code = code) (hown : s.vm.findClass "com/example/tracewarden/tracewarden/net/MarkingStrictlyCoversPinLaw" = some m.cls) :
    ∀ target, Steps p.tables e below (T.setTop (mkF m 220 #[.val (.long i0), .second, .val (.long i1), .second, .val (.long i2), .second, .val (.int i3), .val (.int (2 : Int32)), .val (.int c0), .val (.int d0), .val (.int c1), .val (.int d1), .val (.int c2), .val (.int d2), .val (.ref b1), .val (.ref b2), .val (.ref x1), .val (.ref x2), .val (.int v18), .val (.int (own_z (own_gt (own_f c0 c1 c2) (own_f d0 d1 d2) 2 0)))] [])) target → Steps p.tables e below (T.setTop (mkF m 174 #[.val (.long i0), .second, .val (.long i1), .second, .val (.long i2), .second, .val (.int i3), .val (.int (2 : Int32)), .val (.int c0), .val (.int d0), .val (.int c1), .val (.int d1), .val (.int c2), .val (.int d2), .val (.ref b1), .val (.ref b2), .val (.ref x1), .val (.ref x2), .val (.int v18), .unset] [])) target := by
  intro target kt
  show Steps p.tables e below (T.setTop (mkF m 174 #[.val (.long i0), .second, .val (.long i1), .second, .val (.long i2), .second, .val (.int i3), .val (.int (2 : Int32)), .val (.int c0), .val (.int d0), .val (.int c1), .val (.int d1), .val (.int c2), .val (.int d2), .val (.ref b1), .val (.ref b2), .val (.ref x1), .val (.ref x2), .val (.int v18), .unset] [])) _
  refine XS.iload X.here hx rfl (hb hby at_174) rfl ?_
  show Steps p.tables e below (T.setTop (mkF m 176 #[.val (.long i0), .second, .val (.long i1), .second, .val (.long i2), .second, .val (.int i3), .val (.int (2 : Int32)), .val (.int c0), .val (.int d0), .val (.int c1), .val (.int d1), .val (.int c2), .val (.int d2), .val (.ref b1), .val (.ref b2), .val (.ref x1), .val (.ref x2), .val (.int v18), .unset] [(.int (2 : Int32))])) _
  refine XS.iconst X.here hx rfl (hb hby at_176) ?_
  show Steps p.tables e below (T.setTop (mkF m 177 #[.val (.long i0), .second, .val (.long i1), .second, .val (.long i2), .second, .val (.int i3), .val (.int (2 : Int32)), .val (.int c0), .val (.int d0), .val (.int c1), .val (.int d1), .val (.int c2), .val (.int d2), .val (.ref b1), .val (.ref b2), .val (.ref x1), .val (.ref x2), .val (.int v18), .unset] [(.int (1 : Int32)), (.int (2 : Int32))])) _
  refine XS.icmpNo X.here hx rfl (hb hby at_177) rfl (flt (by decide : ¬ ((2 : Int32) < (1 : Int32)))).1 ?_
  show Steps p.tables e below (T.setTop (mkF m 180 #[.val (.long i0), .second, .val (.long i1), .second, .val (.long i2), .second, .val (.int i3), .val (.int (2 : Int32)), .val (.int c0), .val (.int d0), .val (.int c1), .val (.int d1), .val (.int c2), .val (.int d2), .val (.ref b1), .val (.ref b2), .val (.ref x1), .val (.ref x2), .val (.int v18), .unset] [])) _
  refine XS.iload X.here hx rfl (hb hby at_180) rfl ?_
  show Steps p.tables e below (T.setTop (mkF m 182 #[.val (.long i0), .second, .val (.long i1), .second, .val (.long i2), .second, .val (.int i3), .val (.int (2 : Int32)), .val (.int c0), .val (.int d0), .val (.int c1), .val (.int d1), .val (.int c2), .val (.int d2), .val (.ref b1), .val (.ref b2), .val (.ref x1), .val (.ref x2), .val (.int v18), .unset] [(.int c0)])) _
  refine XS.iload X.here hx rfl (hb hby at_182) rfl ?_
  show Steps p.tables e below (T.setTop (mkF m 184 #[.val (.long i0), .second, .val (.long i1), .second, .val (.long i2), .second, .val (.int i3), .val (.int (2 : Int32)), .val (.int c0), .val (.int d0), .val (.int c1), .val (.int d1), .val (.int c2), .val (.int d2), .val (.ref b1), .val (.ref b2), .val (.ref x1), .val (.ref x2), .val (.int v18), .unset] [(.int d0), (.int c0)])) _
  by_cases hc184 : d0 < c0
  · refine XS.icmpYes X.here hx rfl (pc0 := 184) (pc' := 213) rfl (hb hby at_184) rfl (tlt hc184).2.2.1 (by decide) (by decide) ?_
    show Steps p.tables e below (T.setTop (mkF m 213 #[.val (.long i0), .second, .val (.long i1), .second, .val (.long i2), .second, .val (.int i3), .val (.int (2 : Int32)), .val (.int c0), .val (.int d0), .val (.int c1), .val (.int d1), .val (.int c2), .val (.int d2), .val (.ref b1), .val (.ref b2), .val (.ref x1), .val (.ref x2), .val (.int v18), .unset] [])) _
    refine XS.iconst X.here hx rfl (hb hby at_213) ?_
    show Steps p.tables e below (T.setTop (mkF m 214 #[.val (.long i0), .second, .val (.long i1), .second, .val (.long i2), .second, .val (.int i3), .val (.int (2 : Int32)), .val (.int c0), .val (.int d0), .val (.int c1), .val (.int d1), .val (.int c2), .val (.int d2), .val (.ref b1), .val (.ref b2), .val (.ref x1), .val (.ref x2), .val (.int v18), .unset] [(.int (1 : Int32))])) _
    refine XS.goto X.here hx rfl (pc0 := 214) (pc' := 218) rfl (hb hby at_214) (by decide) (by decide) ?_
    show Steps p.tables e below (T.setTop (mkF m 218 #[.val (.long i0), .second, .val (.long i1), .second, .val (.long i2), .second, .val (.int i3), .val (.int (2 : Int32)), .val (.int c0), .val (.int d0), .val (.int c1), .val (.int d1), .val (.int c2), .val (.int d2), .val (.ref b1), .val (.ref b2), .val (.ref x1), .val (.ref x2), .val (.int v18), .unset] [(.int (1 : Int32))])) _
    refine XS.istore X.here hx rfl (hb hby at_218) rfl (l' := #[.val (.long i0), .second, .val (.long i1), .second, .val (.long i2), .second, .val (.int i3), .val (.int (2 : Int32)), .val (.int c0), .val (.int d0), .val (.int c1), .val (.int d1), .val (.int c2), .val (.int d2), .val (.ref b1), .val (.ref b2), .val (.ref x1), .val (.ref x2), .val (.int v18), .val (.int (1 : Int32))]) rfl ?_
    rw [show (own_z (own_gt (own_f c0 c1 c2) (own_f d0 d1 d2) 2 0)) = (1 : Int32) from by simp [own_z, own_ge, own_gt, own_f, hc184]] at kt
    exact kt
  · refine XS.icmpNo X.here hx rfl (hb hby at_184) rfl (flt hc184).2.2.1 ?_
    show Steps p.tables e below (T.setTop (mkF m 187 #[.val (.long i0), .second, .val (.long i1), .second, .val (.long i2), .second, .val (.int i3), .val (.int (2 : Int32)), .val (.int c0), .val (.int d0), .val (.int c1), .val (.int d1), .val (.int c2), .val (.int d2), .val (.ref b1), .val (.ref b2), .val (.ref x1), .val (.ref x2), .val (.int v18), .unset] [])) _
    refine XS.iload X.here hx rfl (hb hby at_187) rfl ?_
    show Steps p.tables e below (T.setTop (mkF m 189 #[.val (.long i0), .second, .val (.long i1), .second, .val (.long i2), .second, .val (.int i3), .val (.int (2 : Int32)), .val (.int c0), .val (.int d0), .val (.int c1), .val (.int d1), .val (.int c2), .val (.int d2), .val (.ref b1), .val (.ref b2), .val (.ref x1), .val (.ref x2), .val (.int v18), .unset] [(.int (2 : Int32))])) _
    refine XS.iconst X.here hx rfl (hb hby at_189) ?_
    show Steps p.tables e below (T.setTop (mkF m 190 #[.val (.long i0), .second, .val (.long i1), .second, .val (.long i2), .second, .val (.int i3), .val (.int (2 : Int32)), .val (.int c0), .val (.int d0), .val (.int c1), .val (.int d1), .val (.int c2), .val (.int d2), .val (.ref b1), .val (.ref b2), .val (.ref x1), .val (.ref x2), .val (.int v18), .unset] [(.int (2 : Int32)), (.int (2 : Int32))])) _
    refine XS.icmpNo X.here hx rfl (hb hby at_190) rfl (flt (by decide : ¬ ((2 : Int32) < (2 : Int32)))).1 ?_
    show Steps p.tables e below (T.setTop (mkF m 193 #[.val (.long i0), .second, .val (.long i1), .second, .val (.long i2), .second, .val (.int i3), .val (.int (2 : Int32)), .val (.int c0), .val (.int d0), .val (.int c1), .val (.int d1), .val (.int c2), .val (.int d2), .val (.ref b1), .val (.ref b2), .val (.ref x1), .val (.ref x2), .val (.int v18), .unset] [])) _
    refine XS.iload X.here hx rfl (hb hby at_193) rfl ?_
    show Steps p.tables e below (T.setTop (mkF m 195 #[.val (.long i0), .second, .val (.long i1), .second, .val (.long i2), .second, .val (.int i3), .val (.int (2 : Int32)), .val (.int c0), .val (.int d0), .val (.int c1), .val (.int d1), .val (.int c2), .val (.int d2), .val (.ref b1), .val (.ref b2), .val (.ref x1), .val (.ref x2), .val (.int v18), .unset] [(.int c1)])) _
    refine XS.iload X.here hx rfl (hb hby at_195) rfl ?_
    show Steps p.tables e below (T.setTop (mkF m 197 #[.val (.long i0), .second, .val (.long i1), .second, .val (.long i2), .second, .val (.int i3), .val (.int (2 : Int32)), .val (.int c0), .val (.int d0), .val (.int c1), .val (.int d1), .val (.int c2), .val (.int d2), .val (.ref b1), .val (.ref b2), .val (.ref x1), .val (.ref x2), .val (.int v18), .unset] [(.int d1), (.int c1)])) _
    by_cases hc197 : d1 < c1
    · refine XS.icmpYes X.here hx rfl (pc0 := 197) (pc' := 213) rfl (hb hby at_197) rfl (tlt hc197).2.2.1 (by decide) (by decide) ?_
      show Steps p.tables e below (T.setTop (mkF m 213 #[.val (.long i0), .second, .val (.long i1), .second, .val (.long i2), .second, .val (.int i3), .val (.int (2 : Int32)), .val (.int c0), .val (.int d0), .val (.int c1), .val (.int d1), .val (.int c2), .val (.int d2), .val (.ref b1), .val (.ref b2), .val (.ref x1), .val (.ref x2), .val (.int v18), .unset] [])) _
      refine XS.iconst X.here hx rfl (hb hby at_213) ?_
      show Steps p.tables e below (T.setTop (mkF m 214 #[.val (.long i0), .second, .val (.long i1), .second, .val (.long i2), .second, .val (.int i3), .val (.int (2 : Int32)), .val (.int c0), .val (.int d0), .val (.int c1), .val (.int d1), .val (.int c2), .val (.int d2), .val (.ref b1), .val (.ref b2), .val (.ref x1), .val (.ref x2), .val (.int v18), .unset] [(.int (1 : Int32))])) _
      refine XS.goto X.here hx rfl (pc0 := 214) (pc' := 218) rfl (hb hby at_214) (by decide) (by decide) ?_
      show Steps p.tables e below (T.setTop (mkF m 218 #[.val (.long i0), .second, .val (.long i1), .second, .val (.long i2), .second, .val (.int i3), .val (.int (2 : Int32)), .val (.int c0), .val (.int d0), .val (.int c1), .val (.int d1), .val (.int c2), .val (.int d2), .val (.ref b1), .val (.ref b2), .val (.ref x1), .val (.ref x2), .val (.int v18), .unset] [(.int (1 : Int32))])) _
      refine XS.istore X.here hx rfl (hb hby at_218) rfl (l' := #[.val (.long i0), .second, .val (.long i1), .second, .val (.long i2), .second, .val (.int i3), .val (.int (2 : Int32)), .val (.int c0), .val (.int d0), .val (.int c1), .val (.int d1), .val (.int c2), .val (.int d2), .val (.ref b1), .val (.ref b2), .val (.ref x1), .val (.ref x2), .val (.int v18), .val (.int (1 : Int32))]) rfl ?_
      rw [show (own_z (own_gt (own_f c0 c1 c2) (own_f d0 d1 d2) 2 0)) = (1 : Int32) from by simp [own_z, own_ge, own_gt, own_f, hc184, hc197]] at kt
      exact kt
    · refine XS.icmpNo X.here hx rfl (hb hby at_197) rfl (flt hc197).2.2.1 ?_
      show Steps p.tables e below (T.setTop (mkF m 200 #[.val (.long i0), .second, .val (.long i1), .second, .val (.long i2), .second, .val (.int i3), .val (.int (2 : Int32)), .val (.int c0), .val (.int d0), .val (.int c1), .val (.int d1), .val (.int c2), .val (.int d2), .val (.ref b1), .val (.ref b2), .val (.ref x1), .val (.ref x2), .val (.int v18), .unset] [])) _
      refine XS.iload X.here hx rfl (hb hby at_200) rfl ?_
      show Steps p.tables e below (T.setTop (mkF m 202 #[.val (.long i0), .second, .val (.long i1), .second, .val (.long i2), .second, .val (.int i3), .val (.int (2 : Int32)), .val (.int c0), .val (.int d0), .val (.int c1), .val (.int d1), .val (.int c2), .val (.int d2), .val (.ref b1), .val (.ref b2), .val (.ref x1), .val (.ref x2), .val (.int v18), .unset] [(.int (2 : Int32))])) _
      refine XS.iconst X.here hx rfl (hb hby at_202) ?_
      show Steps p.tables e below (T.setTop (mkF m 203 #[.val (.long i0), .second, .val (.long i1), .second, .val (.long i2), .second, .val (.int i3), .val (.int (2 : Int32)), .val (.int c0), .val (.int d0), .val (.int c1), .val (.int d1), .val (.int c2), .val (.int d2), .val (.ref b1), .val (.ref b2), .val (.ref x1), .val (.ref x2), .val (.int v18), .unset] [(.int (3 : Int32)), (.int (2 : Int32))])) _
      refine XS.icmpYes X.here hx rfl (pc0 := 203) (pc' := 217) rfl (hb hby at_203) rfl (tlt (by decide : (2 : Int32) < (3 : Int32))).1 (by decide) (by decide) ?_
      show Steps p.tables e below (T.setTop (mkF m 217 #[.val (.long i0), .second, .val (.long i1), .second, .val (.long i2), .second, .val (.int i3), .val (.int (2 : Int32)), .val (.int c0), .val (.int d0), .val (.int c1), .val (.int d1), .val (.int c2), .val (.int d2), .val (.ref b1), .val (.ref b2), .val (.ref x1), .val (.ref x2), .val (.int v18), .unset] [])) _
      refine XS.iconst X.here hx rfl (hb hby at_217) ?_
      show Steps p.tables e below (T.setTop (mkF m 218 #[.val (.long i0), .second, .val (.long i1), .second, .val (.long i2), .second, .val (.int i3), .val (.int (2 : Int32)), .val (.int c0), .val (.int d0), .val (.int c1), .val (.int d1), .val (.int c2), .val (.int d2), .val (.ref b1), .val (.ref b2), .val (.ref x1), .val (.ref x2), .val (.int v18), .unset] [(.int (0 : Int32))])) _
      refine XS.istore X.here hx rfl (hb hby at_218) rfl (l' := #[.val (.long i0), .second, .val (.long i1), .second, .val (.long i2), .second, .val (.int i3), .val (.int (2 : Int32)), .val (.int c0), .val (.int d0), .val (.int c1), .val (.int d1), .val (.int c2), .val (.int d2), .val (.ref b1), .val (.ref b2), .val (.ref x1), .val (.ref x2), .val (.int v18), .val (.int (0 : Int32))]) rfl ?_
      rw [show (own_z (own_gt (own_f c0 c1 c2) (own_f d0 d1 d2) 2 0)) = (0 : Int32) from by simp [own_z, own_ge, own_gt, own_f, hc184, hc197]] at kt
      exact kt
set_option maxRecDepth 65536 in
set_option maxHeartbeats 40000000 in
theorem own_fill3 {p : Program} {l : Launch} {e : Env} {s : State} {m : MethodId} {args : Array Value} {below : List Frame} {meth : Method} {c : Code} {T : State} {Z : State} {a0 : Array Value} {h0 : Heap} {locs : List Loc} (i0 i1 i2 : Int64) (i3 c0 d0 c1 d1 c2 d2 : Int32) (b1 b2 : Addr) (X1 : Stand p l e room_1 s m args below meth c T locs 2 6) (hx : p.tables.exec = Jvm.exec) (hZ : Z.Warmed39 s.vm) (hw : ∀ d ∈ tables_1, d.before a0 Z = true) (hby : c.code = code) (hown : s.vm.findClass "com/example/tracewarden/tracewarden/net/MarkingStrictlyCoversPinLaw" = some m.cls) (e1 : T.heap = h0) {n0 : Nat} (Z1 : n0 ≤ h0.size) (N1 : Fr n0 locs) (g_b1 : n0 ≤ b1) (g_b2 : n0 ≤ b2) (hne : b1 ≠ b2) (A1 : own_IA Z h0 b1 3 (fun _ => 0)) (B1 : own_IA Z h0 b2 3 (fun _ => 0)) :
    ∃ (T' : State) (h' : Heap) (L' : List Loc), Stand p l e room_1 s m args below meth c T' L' 2 6 ∧ T'.heap = h' ∧ Fr n0 L' ∧ n0 ≤ h'.size ∧ own_IA Z h' b1 3 (own_f c0 c1 c2) ∧ own_IA Z h' b2 3 (own_f d0 d1 d2) ∧
      ∀ target, Steps p.tables e below (T'.setTop (mkF m 106 #[.val (.long i0), .second, .val (.long i1), .second, .val (.long i2), .second, .val (.int i3), .val (.int (3 : Int32)), .val (.int c0), .val (.int d0), .val (.int c1), .val (.int d1), .val (.int c2), .val (.int d2), .val (.ref b1), .val (.ref b2), .unset, .unset, .unset, .unset] [])) target → Steps p.tables e below (T.setTop (mkF m 53 #[.val (.long i0), .second, .val (.long i1), .second, .val (.long i2), .second, .val (.int i3), .val (.int (3 : Int32)), .val (.int c0), .val (.int d0), .val (.int c1), .val (.int d1), .val (.int c2), .val (.int d2), .val (.ref b1), .val (.ref b2), .unset, .unset, .unset, .unset] [])) target := by
  obtain ⟨T2, h2, X2, e2, K2, A2, st2⟩ := own_stI X1 hx hZ e1 (by decide) A1 (i := 0) (by decide) (g := (mkF m 63 #[.val (.long i0), .second, .val (.long i1), .second, .val (.long i2), .second, .val (.int i3), .val (.int (3 : Int32)), .val (.int c0), .val (.int d0), .val (.int c1), .val (.int d1), .val (.int c2), .val (.int d2), .val (.ref b1), .val (.ref b2), .unset, .unset, .unset, .unset] [(.int c0), (.int (0 : Int32)), (.ref b1)])) rfl rfl (hb hby at_63)
  have B2 := B1.keep K2 (ninS hne.symm nin0)
  have N2 := Fr.snoc X2 N1 g_b1
  have Z2 : n0 ≤ h2.size := Nat.le_trans Z1 K2.1
  obtain ⟨T3, h3, X3, e3, K3, B3, st3⟩ := own_stI X2 hx hZ e2 (by decide) B2 (i := 0) (by decide) (g := (mkF m 69 #[.val (.long i0), .second, .val (.long i1), .second, .val (.long i2), .second, .val (.int i3), .val (.int (3 : Int32)), .val (.int c0), .val (.int d0), .val (.int c1), .val (.int d1), .val (.int c2), .val (.int d2), .val (.ref b1), .val (.ref b2), .unset, .unset, .unset, .unset] [(.int d0), (.int (0 : Int32)), (.ref b2)])) rfl rfl (hb hby at_69)
  have A3 := A2.keep K3 (ninS hne nin0)
  have N3 := Fr.snoc X3 N2 g_b2
  have Z3 : n0 ≤ h3.size := Nat.le_trans Z2 K3.1
  obtain ⟨T4, h4, X4, e4, K4, A4, st4⟩ := own_stI X3 hx hZ e3 (by decide) A3 (i := 1) (by decide) (g := (mkF m 81 #[.val (.long i0), .second, .val (.long i1), .second, .val (.long i2), .second, .val (.int i3), .val (.int (3 : Int32)), .val (.int c0), .val (.int d0), .val (.int c1), .val (.int d1), .val (.int c2), .val (.int d2), .val (.ref b1), .val (.ref b2), .unset, .unset, .unset, .unset] [(.int c1), (.int (1 : Int32)), (.ref b1)])) rfl rfl (hb hby at_81)
  have B4 := B3.keep K4 (ninS hne.symm nin0)
  have N4 := Fr.snoc X4 N3 g_b1
  have Z4 : n0 ≤ h4.size := Nat.le_trans Z3 K4.1
  obtain ⟨T5, h5, X5, e5, K5, B5, st5⟩ := own_stI X4 hx hZ e4 (by decide) B4 (i := 1) (by decide) (g := (mkF m 87 #[.val (.long i0), .second, .val (.long i1), .second, .val (.long i2), .second, .val (.int i3), .val (.int (3 : Int32)), .val (.int c0), .val (.int d0), .val (.int c1), .val (.int d1), .val (.int c2), .val (.int d2), .val (.ref b1), .val (.ref b2), .unset, .unset, .unset, .unset] [(.int d1), (.int (1 : Int32)), (.ref b2)])) rfl rfl (hb hby at_87)
  have A5 := A4.keep K5 (ninS hne nin0)
  have N5 := Fr.snoc X5 N4 g_b2
  have Z5 : n0 ≤ h5.size := Nat.le_trans Z4 K5.1
  obtain ⟨T6, h6, X6, e6, K6, A6, st6⟩ := own_stI X5 hx hZ e5 (by decide) A5 (i := 2) (by decide) (g := (mkF m 99 #[.val (.long i0), .second, .val (.long i1), .second, .val (.long i2), .second, .val (.int i3), .val (.int (3 : Int32)), .val (.int c0), .val (.int d0), .val (.int c1), .val (.int d1), .val (.int c2), .val (.int d2), .val (.ref b1), .val (.ref b2), .unset, .unset, .unset, .unset] [(.int c2), (.int (2 : Int32)), (.ref b1)])) rfl rfl (hb hby at_99)
  have B6 := B5.keep K6 (ninS hne.symm nin0)
  have N6 := Fr.snoc X6 N5 g_b1
  have Z6 : n0 ≤ h6.size := Nat.le_trans Z5 K6.1
  obtain ⟨T7, h7, X7, e7, K7, B7, st7⟩ := own_stI X6 hx hZ e6 (by decide) B6 (i := 2) (by decide) (g := (mkF m 105 #[.val (.long i0), .second, .val (.long i1), .second, .val (.long i2), .second, .val (.int i3), .val (.int (3 : Int32)), .val (.int c0), .val (.int d0), .val (.int c1), .val (.int d1), .val (.int c2), .val (.int d2), .val (.ref b1), .val (.ref b2), .unset, .unset, .unset, .unset] [(.int d2), (.int (2 : Int32)), (.ref b2)])) rfl rfl (hb hby at_105)
  have A7 := A6.keep K7 (ninS hne nin0)
  have N7 := Fr.snoc X7 N6 g_b2
  have Z7 : n0 ≤ h7.size := Nat.le_trans Z6 K7.1
  have AF : own_IA Z h7 b1 3 (own_f c0 c1 c2) := A7.fn fun i hi => by
    have hi' : i = 0 ∨ i = 1 ∨ i = 2 := by omega
    rcases hi' with rfl | rfl | rfl <;> simp [own_f]
  have BF : own_IA Z h7 b2 3 (own_f d0 d1 d2) := B7.fn fun i hi => by
    have hi' : i = 0 ∨ i = 1 ∨ i = 2 := by omega
    rcases hi' with rfl | rfl | rfl <;> simp [own_f]
  refine ⟨T7, h7, _, X7, e7, N7, Z7, AF, BF, fun target kt => ?_⟩
  show Steps p.tables e below (T.setTop (mkF m 53 #[.val (.long i0), .second, .val (.long i1), .second, .val (.long i2), .second, .val (.int i3), .val (.int (3 : Int32)), .val (.int c0), .val (.int d0), .val (.int c1), .val (.int d1), .val (.int c2), .val (.int d2), .val (.ref b1), .val (.ref b2), .unset, .unset, .unset, .unset] [])) _
  refine XS.iload X1.here hx rfl (hb hby at_53) rfl ?_
  show Steps p.tables e below (T.setTop (mkF m 55 #[.val (.long i0), .second, .val (.long i1), .second, .val (.long i2), .second, .val (.int i3), .val (.int (3 : Int32)), .val (.int c0), .val (.int d0), .val (.int c1), .val (.int d1), .val (.int c2), .val (.int d2), .val (.ref b1), .val (.ref b2), .unset, .unset, .unset, .unset] [(.int (3 : Int32))])) _
  refine XS.ifNo X1.here hx rfl (hb hby at_55) rfl ((if0 _ _).trans (tlt (by decide : (0 : Int32) < (3 : Int32))).2.2.2) ?_
  show Steps p.tables e below (T.setTop (mkF m 58 #[.val (.long i0), .second, .val (.long i1), .second, .val (.long i2), .second, .val (.int i3), .val (.int (3 : Int32)), .val (.int c0), .val (.int d0), .val (.int c1), .val (.int d1), .val (.int c2), .val (.int d2), .val (.ref b1), .val (.ref b2), .unset, .unset, .unset, .unset] [])) _
  refine XS.aload X1.here hx rfl (hb hby at_58) rfl rfl ?_
  show Steps p.tables e below (T.setTop (mkF m 60 #[.val (.long i0), .second, .val (.long i1), .second, .val (.long i2), .second, .val (.int i3), .val (.int (3 : Int32)), .val (.int c0), .val (.int d0), .val (.int c1), .val (.int d1), .val (.int c2), .val (.int d2), .val (.ref b1), .val (.ref b2), .unset, .unset, .unset, .unset] [(.ref b1)])) _
  refine XS.iconst X1.here hx rfl (hb hby at_60) ?_
  show Steps p.tables e below (T.setTop (mkF m 61 #[.val (.long i0), .second, .val (.long i1), .second, .val (.long i2), .second, .val (.int i3), .val (.int (3 : Int32)), .val (.int c0), .val (.int d0), .val (.int c1), .val (.int d1), .val (.int c2), .val (.int d2), .val (.ref b1), .val (.ref b2), .unset, .unset, .unset, .unset] [(.int (0 : Int32)), (.ref b1)])) _
  refine XS.iload X1.here hx rfl (hb hby at_61) rfl ?_
  refine st2 _ ?_
  show Steps p.tables e below (T2.setTop (mkF m 64 #[.val (.long i0), .second, .val (.long i1), .second, .val (.long i2), .second, .val (.int i3), .val (.int (3 : Int32)), .val (.int c0), .val (.int d0), .val (.int c1), .val (.int d1), .val (.int c2), .val (.int d2), .val (.ref b1), .val (.ref b2), .unset, .unset, .unset, .unset] [])) _
  refine XS.aload X2.here hx rfl (hb hby at_64) rfl rfl ?_
  show Steps p.tables e below (T2.setTop (mkF m 66 #[.val (.long i0), .second, .val (.long i1), .second, .val (.long i2), .second, .val (.int i3), .val (.int (3 : Int32)), .val (.int c0), .val (.int d0), .val (.int c1), .val (.int d1), .val (.int c2), .val (.int d2), .val (.ref b1), .val (.ref b2), .unset, .unset, .unset, .unset] [(.ref b2)])) _
  refine XS.iconst X2.here hx rfl (hb hby at_66) ?_
  show Steps p.tables e below (T2.setTop (mkF m 67 #[.val (.long i0), .second, .val (.long i1), .second, .val (.long i2), .second, .val (.int i3), .val (.int (3 : Int32)), .val (.int c0), .val (.int d0), .val (.int c1), .val (.int d1), .val (.int c2), .val (.int d2), .val (.ref b1), .val (.ref b2), .unset, .unset, .unset, .unset] [(.int (0 : Int32)), (.ref b2)])) _
  refine XS.iload X2.here hx rfl (hb hby at_67) rfl ?_
  refine st3 _ ?_
  show Steps p.tables e below (T3.setTop (mkF m 70 #[.val (.long i0), .second, .val (.long i1), .second, .val (.long i2), .second, .val (.int i3), .val (.int (3 : Int32)), .val (.int c0), .val (.int d0), .val (.int c1), .val (.int d1), .val (.int c2), .val (.int d2), .val (.ref b1), .val (.ref b2), .unset, .unset, .unset, .unset] [])) _
  refine XS.iload X3.here hx rfl (hb hby at_70) rfl ?_
  show Steps p.tables e below (T3.setTop (mkF m 72 #[.val (.long i0), .second, .val (.long i1), .second, .val (.long i2), .second, .val (.int i3), .val (.int (3 : Int32)), .val (.int c0), .val (.int d0), .val (.int c1), .val (.int d1), .val (.int c2), .val (.int d2), .val (.ref b1), .val (.ref b2), .unset, .unset, .unset, .unset] [(.int (3 : Int32))])) _
  refine XS.iconst X3.here hx rfl (hb hby at_72) ?_
  show Steps p.tables e below (T3.setTop (mkF m 73 #[.val (.long i0), .second, .val (.long i1), .second, .val (.long i2), .second, .val (.int i3), .val (.int (3 : Int32)), .val (.int c0), .val (.int d0), .val (.int c1), .val (.int d1), .val (.int c2), .val (.int d2), .val (.ref b1), .val (.ref b2), .unset, .unset, .unset, .unset] [(.int (1 : Int32)), (.int (3 : Int32))])) _
  refine XS.icmpNo X3.here hx rfl (hb hby at_73) rfl (tlt (by decide : (1 : Int32) < (3 : Int32))).2.2.2 ?_
  show Steps p.tables e below (T3.setTop (mkF m 76 #[.val (.long i0), .second, .val (.long i1), .second, .val (.long i2), .second, .val (.int i3), .val (.int (3 : Int32)), .val (.int c0), .val (.int d0), .val (.int c1), .val (.int d1), .val (.int c2), .val (.int d2), .val (.ref b1), .val (.ref b2), .unset, .unset, .unset, .unset] [])) _
  refine XS.aload X3.here hx rfl (hb hby at_76) rfl rfl ?_
  show Steps p.tables e below (T3.setTop (mkF m 78 #[.val (.long i0), .second, .val (.long i1), .second, .val (.long i2), .second, .val (.int i3), .val (.int (3 : Int32)), .val (.int c0), .val (.int d0), .val (.int c1), .val (.int d1), .val (.int c2), .val (.int d2), .val (.ref b1), .val (.ref b2), .unset, .unset, .unset, .unset] [(.ref b1)])) _
  refine XS.iconst X3.here hx rfl (hb hby at_78) ?_
  show Steps p.tables e below (T3.setTop (mkF m 79 #[.val (.long i0), .second, .val (.long i1), .second, .val (.long i2), .second, .val (.int i3), .val (.int (3 : Int32)), .val (.int c0), .val (.int d0), .val (.int c1), .val (.int d1), .val (.int c2), .val (.int d2), .val (.ref b1), .val (.ref b2), .unset, .unset, .unset, .unset] [(.int (1 : Int32)), (.ref b1)])) _
  refine XS.iload X3.here hx rfl (hb hby at_79) rfl ?_
  refine st4 _ ?_
  show Steps p.tables e below (T4.setTop (mkF m 82 #[.val (.long i0), .second, .val (.long i1), .second, .val (.long i2), .second, .val (.int i3), .val (.int (3 : Int32)), .val (.int c0), .val (.int d0), .val (.int c1), .val (.int d1), .val (.int c2), .val (.int d2), .val (.ref b1), .val (.ref b2), .unset, .unset, .unset, .unset] [])) _
  refine XS.aload X4.here hx rfl (hb hby at_82) rfl rfl ?_
  show Steps p.tables e below (T4.setTop (mkF m 84 #[.val (.long i0), .second, .val (.long i1), .second, .val (.long i2), .second, .val (.int i3), .val (.int (3 : Int32)), .val (.int c0), .val (.int d0), .val (.int c1), .val (.int d1), .val (.int c2), .val (.int d2), .val (.ref b1), .val (.ref b2), .unset, .unset, .unset, .unset] [(.ref b2)])) _
  refine XS.iconst X4.here hx rfl (hb hby at_84) ?_
  show Steps p.tables e below (T4.setTop (mkF m 85 #[.val (.long i0), .second, .val (.long i1), .second, .val (.long i2), .second, .val (.int i3), .val (.int (3 : Int32)), .val (.int c0), .val (.int d0), .val (.int c1), .val (.int d1), .val (.int c2), .val (.int d2), .val (.ref b1), .val (.ref b2), .unset, .unset, .unset, .unset] [(.int (1 : Int32)), (.ref b2)])) _
  refine XS.iload X4.here hx rfl (hb hby at_85) rfl ?_
  refine st5 _ ?_
  show Steps p.tables e below (T5.setTop (mkF m 88 #[.val (.long i0), .second, .val (.long i1), .second, .val (.long i2), .second, .val (.int i3), .val (.int (3 : Int32)), .val (.int c0), .val (.int d0), .val (.int c1), .val (.int d1), .val (.int c2), .val (.int d2), .val (.ref b1), .val (.ref b2), .unset, .unset, .unset, .unset] [])) _
  refine XS.iload X5.here hx rfl (hb hby at_88) rfl ?_
  show Steps p.tables e below (T5.setTop (mkF m 90 #[.val (.long i0), .second, .val (.long i1), .second, .val (.long i2), .second, .val (.int i3), .val (.int (3 : Int32)), .val (.int c0), .val (.int d0), .val (.int c1), .val (.int d1), .val (.int c2), .val (.int d2), .val (.ref b1), .val (.ref b2), .unset, .unset, .unset, .unset] [(.int (3 : Int32))])) _
  refine XS.iconst X5.here hx rfl (hb hby at_90) ?_
  show Steps p.tables e below (T5.setTop (mkF m 91 #[.val (.long i0), .second, .val (.long i1), .second, .val (.long i2), .second, .val (.int i3), .val (.int (3 : Int32)), .val (.int c0), .val (.int d0), .val (.int c1), .val (.int d1), .val (.int c2), .val (.int d2), .val (.ref b1), .val (.ref b2), .unset, .unset, .unset, .unset] [(.int (2 : Int32)), (.int (3 : Int32))])) _
  refine XS.icmpNo X5.here hx rfl (hb hby at_91) rfl (tlt (by decide : (2 : Int32) < (3 : Int32))).2.2.2 ?_
  show Steps p.tables e below (T5.setTop (mkF m 94 #[.val (.long i0), .second, .val (.long i1), .second, .val (.long i2), .second, .val (.int i3), .val (.int (3 : Int32)), .val (.int c0), .val (.int d0), .val (.int c1), .val (.int d1), .val (.int c2), .val (.int d2), .val (.ref b1), .val (.ref b2), .unset, .unset, .unset, .unset] [])) _
  refine XS.aload X5.here hx rfl (hb hby at_94) rfl rfl ?_
  show Steps p.tables e below (T5.setTop (mkF m 96 #[.val (.long i0), .second, .val (.long i1), .second, .val (.long i2), .second, .val (.int i3), .val (.int (3 : Int32)), .val (.int c0), .val (.int d0), .val (.int c1), .val (.int d1), .val (.int c2), .val (.int d2), .val (.ref b1), .val (.ref b2), .unset, .unset, .unset, .unset] [(.ref b1)])) _
  refine XS.iconst X5.here hx rfl (hb hby at_96) ?_
  show Steps p.tables e below (T5.setTop (mkF m 97 #[.val (.long i0), .second, .val (.long i1), .second, .val (.long i2), .second, .val (.int i3), .val (.int (3 : Int32)), .val (.int c0), .val (.int d0), .val (.int c1), .val (.int d1), .val (.int c2), .val (.int d2), .val (.ref b1), .val (.ref b2), .unset, .unset, .unset, .unset] [(.int (2 : Int32)), (.ref b1)])) _
  refine XS.iload X5.here hx rfl (hb hby at_97) rfl ?_
  refine st6 _ ?_
  show Steps p.tables e below (T6.setTop (mkF m 100 #[.val (.long i0), .second, .val (.long i1), .second, .val (.long i2), .second, .val (.int i3), .val (.int (3 : Int32)), .val (.int c0), .val (.int d0), .val (.int c1), .val (.int d1), .val (.int c2), .val (.int d2), .val (.ref b1), .val (.ref b2), .unset, .unset, .unset, .unset] [])) _
  refine XS.aload X6.here hx rfl (hb hby at_100) rfl rfl ?_
  show Steps p.tables e below (T6.setTop (mkF m 102 #[.val (.long i0), .second, .val (.long i1), .second, .val (.long i2), .second, .val (.int i3), .val (.int (3 : Int32)), .val (.int c0), .val (.int d0), .val (.int c1), .val (.int d1), .val (.int c2), .val (.int d2), .val (.ref b1), .val (.ref b2), .unset, .unset, .unset, .unset] [(.ref b2)])) _
  refine XS.iconst X6.here hx rfl (hb hby at_102) ?_
  show Steps p.tables e below (T6.setTop (mkF m 103 #[.val (.long i0), .second, .val (.long i1), .second, .val (.long i2), .second, .val (.int i3), .val (.int (3 : Int32)), .val (.int c0), .val (.int d0), .val (.int c1), .val (.int d1), .val (.int c2), .val (.int d2), .val (.ref b1), .val (.ref b2), .unset, .unset, .unset, .unset] [(.int (2 : Int32)), (.ref b2)])) _
  refine XS.iload X6.here hx rfl (hb hby at_103) rfl ?_
  refine st7 _ ?_
  exact kt
set_option maxRecDepth 65536 in
set_option maxHeartbeats 40000000 in
theorem own_all3 {p : Program} {l : Launch} {e : Env} {s : State} {m : MethodId} {args : Array Value} {below : List Frame} {meth : Method} {c : Code} {T : State} {Z : State} {a0 : Array Value} {locs : List Loc} {cells slots : Nat} (i0 i1 i2 : Int64) (i3 c0 d0 c1 d1 c2 d2 : Int32) (b1 b2 x1 x2 : Addr) (v18 : Int32) (X : Stand p l e room_1 s m args below meth c T locs cells slots) (hx : p.tables.exec = Jvm.exec) (hZ : Z.Warmed39 s.vm) (hw : ∀ d ∈ tables_1, d.before a0 Z = true) (hby : c.code = code) (hown : s.vm.findClass "com/example/tracewarden/tracewarden/net/MarkingStrictlyCoversPinLaw" = some m.cls) :
    ∀ target, Steps p.tables e below (T.setTop (mkF m 174 #[.val (.long i0), .second, .val (.long i1), .second, .val (.long i2), .second, .val (.int i3), .val (.int (3 : Int32)), .val (.int c0), .val (.int d0), .val (.int c1), .val (.int d1), .val (.int c2), .val (.int d2), .val (.ref b1), .val (.ref b2), .val (.ref x1), .val (.ref x2), .val (.int (own_z (own_ge (own_f c0 c1 c2) (own_f d0 d1 d2) 3 0))), .unset] [])) target → Steps p.tables e below (T.setTop (mkF m 128 #[.val (.long i0), .second, .val (.long i1), .second, .val (.long i2), .second, .val (.int i3), .val (.int (3 : Int32)), .val (.int c0), .val (.int d0), .val (.int c1), .val (.int d1), .val (.int c2), .val (.int d2), .val (.ref b1), .val (.ref b2), .val (.ref x1), .val (.ref x2), .unset, .unset] [])) target := by
  intro target kt
  show Steps p.tables e below (T.setTop (mkF m 128 #[.val (.long i0), .second, .val (.long i1), .second, .val (.long i2), .second, .val (.int i3), .val (.int (3 : Int32)), .val (.int c0), .val (.int d0), .val (.int c1), .val (.int d1), .val (.int c2), .val (.int d2), .val (.ref b1), .val (.ref b2), .val (.ref x1), .val (.ref x2), .unset, .unset] [])) _
  refine XS.iload X.here hx rfl (hb hby at_128) rfl ?_
  show Steps p.tables e below (T.setTop (mkF m 130 #[.val (.long i0), .second, .val (.long i1), .second, .val (.long i2), .second, .val (.int i3), .val (.int (3 : Int32)), .val (.int c0), .val (.int d0), .val (.int c1), .val (.int d1), .val (.int c2), .val (.int d2), .val (.ref b1), .val (.ref b2), .val (.ref x1), .val (.ref x2), .unset, .unset] [(.int (3 : Int32))])) _
  refine XS.iconst X.here hx rfl (hb hby at_130) ?_
  show Steps p.tables e below (T.setTop (mkF m 131 #[.val (.long i0), .second, .val (.long i1), .second, .val (.long i2), .second, .val (.int i3), .val (.int (3 : Int32)), .val (.int c0), .val (.int d0), .val (.int c1), .val (.int d1), .val (.int c2), .val (.int d2), .val (.ref b1), .val (.ref b2), .val (.ref x1), .val (.ref x2), .unset, .unset] [(.int (1 : Int32)), (.int (3 : Int32))])) _
  refine XS.icmpNo X.here hx rfl (hb hby at_131) rfl (flt (by decide : ¬ ((3 : Int32) < (1 : Int32)))).1 ?_
  show Steps p.tables e below (T.setTop (mkF m 134 #[.val (.long i0), .second, .val (.long i1), .second, .val (.long i2), .second, .val (.int i3), .val (.int (3 : Int32)), .val (.int c0), .val (.int d0), .val (.int c1), .val (.int d1), .val (.int c2), .val (.int d2), .val (.ref b1), .val (.ref b2), .val (.ref x1), .val (.ref x2), .unset, .unset] [])) _
  refine XS.iload X.here hx rfl (hb hby at_134) rfl ?_
  show Steps p.tables e below (T.setTop (mkF m 136 #[.val (.long i0), .second, .val (.long i1), .second, .val (.long i2), .second, .val (.int i3), .val (.int (3 : Int32)), .val (.int c0), .val (.int d0), .val (.int c1), .val (.int d1), .val (.int c2), .val (.int d2), .val (.ref b1), .val (.ref b2), .val (.ref x1), .val (.ref x2), .unset, .unset] [(.int c0)])) _
  refine XS.iload X.here hx rfl (hb hby at_136) rfl ?_
  show Steps p.tables e below (T.setTop (mkF m 138 #[.val (.long i0), .second, .val (.long i1), .second, .val (.long i2), .second, .val (.int i3), .val (.int (3 : Int32)), .val (.int c0), .val (.int d0), .val (.int c1), .val (.int d1), .val (.int c2), .val (.int d2), .val (.ref b1), .val (.ref b2), .val (.ref x1), .val (.ref x2), .unset, .unset] [(.int d0), (.int c0)])) _
  by_cases hc138 : c0 < d0
  · refine XS.icmpYes X.here hx rfl (pc0 := 138) (pc' := 171) rfl (hb hby at_138) rfl (tlt hc138).1 (by decide) (by decide) ?_
    show Steps p.tables e below (T.setTop (mkF m 171 #[.val (.long i0), .second, .val (.long i1), .second, .val (.long i2), .second, .val (.int i3), .val (.int (3 : Int32)), .val (.int c0), .val (.int d0), .val (.int c1), .val (.int d1), .val (.int c2), .val (.int d2), .val (.ref b1), .val (.ref b2), .val (.ref x1), .val (.ref x2), .unset, .unset] [])) _
    refine XS.iconst X.here hx rfl (hb hby at_171) ?_
    show Steps p.tables e below (T.setTop (mkF m 172 #[.val (.long i0), .second, .val (.long i1), .second, .val (.long i2), .second, .val (.int i3), .val (.int (3 : Int32)), .val (.int c0), .val (.int d0), .val (.int c1), .val (.int d1), .val (.int c2), .val (.int d2), .val (.ref b1), .val (.ref b2), .val (.ref x1), .val (.ref x2), .unset, .unset] [(.int (0 : Int32))])) _
    refine XS.istore X.here hx rfl (hb hby at_172) rfl (l' := #[.val (.long i0), .second, .val (.long i1), .second, .val (.long i2), .second, .val (.int i3), .val (.int (3 : Int32)), .val (.int c0), .val (.int d0), .val (.int c1), .val (.int d1), .val (.int c2), .val (.int d2), .val (.ref b1), .val (.ref b2), .val (.ref x1), .val (.ref x2), .val (.int (0 : Int32)), .unset]) rfl ?_
    rw [show (own_z (own_ge (own_f c0 c1 c2) (own_f d0 d1 d2) 3 0)) = (0 : Int32) from by simp [own_z, own_ge, own_gt, own_f, hc138]] at kt
    exact kt
  · refine XS.icmpNo X.here hx rfl (hb hby at_138) rfl (flt hc138).1 ?_
    show Steps p.tables e below (T.setTop (mkF m 141 #[.val (.long i0), .second, .val (.long i1), .second, .val (.long i2), .second, .val (.int i3), .val (.int (3 : Int32)), .val (.int c0), .val (.int d0), .val (.int c1), .val (.int d1), .val (.int c2), .val (.int d2), .val (.ref b1), .val (.ref b2), .val (.ref x1), .val (.ref x2), .unset, .unset] [])) _
    refine XS.iload X.here hx rfl (hb hby at_141) rfl ?_
    show Steps p.tables e below (T.setTop (mkF m 143 #[.val (.long i0), .second, .val (.long i1), .second, .val (.long i2), .second, .val (.int i3), .val (.int (3 : Int32)), .val (.int c0), .val (.int d0), .val (.int c1), .val (.int d1), .val (.int c2), .val (.int d2), .val (.ref b1), .val (.ref b2), .val (.ref x1), .val (.ref x2), .unset, .unset] [(.int (3 : Int32))])) _
    refine XS.iconst X.here hx rfl (hb hby at_143) ?_
    show Steps p.tables e below (T.setTop (mkF m 144 #[.val (.long i0), .second, .val (.long i1), .second, .val (.long i2), .second, .val (.int i3), .val (.int (3 : Int32)), .val (.int c0), .val (.int d0), .val (.int c1), .val (.int d1), .val (.int c2), .val (.int d2), .val (.ref b1), .val (.ref b2), .val (.ref x1), .val (.ref x2), .unset, .unset] [(.int (2 : Int32)), (.int (3 : Int32))])) _
    refine XS.icmpNo X.here hx rfl (hb hby at_144) rfl (flt (by decide : ¬ ((3 : Int32) < (2 : Int32)))).1 ?_
    show Steps p.tables e below (T.setTop (mkF m 147 #[.val (.long i0), .second, .val (.long i1), .second, .val (.long i2), .second, .val (.int i3), .val (.int (3 : Int32)), .val (.int c0), .val (.int d0), .val (.int c1), .val (.int d1), .val (.int c2), .val (.int d2), .val (.ref b1), .val (.ref b2), .val (.ref x1), .val (.ref x2), .unset, .unset] [])) _
    refine XS.iload X.here hx rfl (hb hby at_147) rfl ?_
    show Steps p.tables e below (T.setTop (mkF m 149 #[.val (.long i0), .second, .val (.long i1), .second, .val (.long i2), .second, .val (.int i3), .val (.int (3 : Int32)), .val (.int c0), .val (.int d0), .val (.int c1), .val (.int d1), .val (.int c2), .val (.int d2), .val (.ref b1), .val (.ref b2), .val (.ref x1), .val (.ref x2), .unset, .unset] [(.int c1)])) _
    refine XS.iload X.here hx rfl (hb hby at_149) rfl ?_
    show Steps p.tables e below (T.setTop (mkF m 151 #[.val (.long i0), .second, .val (.long i1), .second, .val (.long i2), .second, .val (.int i3), .val (.int (3 : Int32)), .val (.int c0), .val (.int d0), .val (.int c1), .val (.int d1), .val (.int c2), .val (.int d2), .val (.ref b1), .val (.ref b2), .val (.ref x1), .val (.ref x2), .unset, .unset] [(.int d1), (.int c1)])) _
    by_cases hc151 : c1 < d1
    · refine XS.icmpYes X.here hx rfl (pc0 := 151) (pc' := 171) rfl (hb hby at_151) rfl (tlt hc151).1 (by decide) (by decide) ?_
      show Steps p.tables e below (T.setTop (mkF m 171 #[.val (.long i0), .second, .val (.long i1), .second, .val (.long i2), .second, .val (.int i3), .val (.int (3 : Int32)), .val (.int c0), .val (.int d0), .val (.int c1), .val (.int d1), .val (.int c2), .val (.int d2), .val (.ref b1), .val (.ref b2), .val (.ref x1), .val (.ref x2), .unset, .unset] [])) _
      refine XS.iconst X.here hx rfl (hb hby at_171) ?_
      show Steps p.tables e below (T.setTop (mkF m 172 #[.val (.long i0), .second, .val (.long i1), .second, .val (.long i2), .second, .val (.int i3), .val (.int (3 : Int32)), .val (.int c0), .val (.int d0), .val (.int c1), .val (.int d1), .val (.int c2), .val (.int d2), .val (.ref b1), .val (.ref b2), .val (.ref x1), .val (.ref x2), .unset, .unset] [(.int (0 : Int32))])) _
      refine XS.istore X.here hx rfl (hb hby at_172) rfl (l' := #[.val (.long i0), .second, .val (.long i1), .second, .val (.long i2), .second, .val (.int i3), .val (.int (3 : Int32)), .val (.int c0), .val (.int d0), .val (.int c1), .val (.int d1), .val (.int c2), .val (.int d2), .val (.ref b1), .val (.ref b2), .val (.ref x1), .val (.ref x2), .val (.int (0 : Int32)), .unset]) rfl ?_
      rw [show (own_z (own_ge (own_f c0 c1 c2) (own_f d0 d1 d2) 3 0)) = (0 : Int32) from by simp [own_z, own_ge, own_gt, own_f, hc138, hc151]] at kt
      exact kt
    · refine XS.icmpNo X.here hx rfl (hb hby at_151) rfl (flt hc151).1 ?_
      show Steps p.tables e below (T.setTop (mkF m 154 #[.val (.long i0), .second, .val (.long i1), .second, .val (.long i2), .second, .val (.int i3), .val (.int (3 : Int32)), .val (.int c0), .val (.int d0), .val (.int c1), .val (.int d1), .val (.int c2), .val (.int d2), .val (.ref b1), .val (.ref b2), .val (.ref x1), .val (.ref x2), .unset, .unset] [])) _
      refine XS.iload X.here hx rfl (hb hby at_154) rfl ?_
      show Steps p.tables e below (T.setTop (mkF m 156 #[.val (.long i0), .second, .val (.long i1), .second, .val (.long i2), .second, .val (.int i3), .val (.int (3 : Int32)), .val (.int c0), .val (.int d0), .val (.int c1), .val (.int d1), .val (.int c2), .val (.int d2), .val (.ref b1), .val (.ref b2), .val (.ref x1), .val (.ref x2), .unset, .unset] [(.int (3 : Int32))])) _
      refine XS.iconst X.here hx rfl (hb hby at_156) ?_
      show Steps p.tables e below (T.setTop (mkF m 157 #[.val (.long i0), .second, .val (.long i1), .second, .val (.long i2), .second, .val (.int i3), .val (.int (3 : Int32)), .val (.int c0), .val (.int d0), .val (.int c1), .val (.int d1), .val (.int c2), .val (.int d2), .val (.ref b1), .val (.ref b2), .val (.ref x1), .val (.ref x2), .unset, .unset] [(.int (3 : Int32)), (.int (3 : Int32))])) _
      refine XS.icmpNo X.here hx rfl (hb hby at_157) rfl (flt (by decide : ¬ ((3 : Int32) < (3 : Int32)))).1 ?_
      show Steps p.tables e below (T.setTop (mkF m 160 #[.val (.long i0), .second, .val (.long i1), .second, .val (.long i2), .second, .val (.int i3), .val (.int (3 : Int32)), .val (.int c0), .val (.int d0), .val (.int c1), .val (.int d1), .val (.int c2), .val (.int d2), .val (.ref b1), .val (.ref b2), .val (.ref x1), .val (.ref x2), .unset, .unset] [])) _
      refine XS.iload X.here hx rfl (hb hby at_160) rfl ?_
      show Steps p.tables e below (T.setTop (mkF m 162 #[.val (.long i0), .second, .val (.long i1), .second, .val (.long i2), .second, .val (.int i3), .val (.int (3 : Int32)), .val (.int c0), .val (.int d0), .val (.int c1), .val (.int d1), .val (.int c2), .val (.int d2), .val (.ref b1), .val (.ref b2), .val (.ref x1), .val (.ref x2), .unset, .unset] [(.int c2)])) _
      refine XS.iload X.here hx rfl (hb hby at_162) rfl ?_
      show Steps p.tables e below (T.setTop (mkF m 164 #[.val (.long i0), .second, .val (.long i1), .second, .val (.long i2), .second, .val (.int i3), .val (.int (3 : Int32)), .val (.int c0), .val (.int d0), .val (.int c1), .val (.int d1), .val (.int c2), .val (.int d2), .val (.ref b1), .val (.ref b2), .val (.ref x1), .val (.ref x2), .unset, .unset] [(.int d2), (.int c2)])) _
      by_cases hc164 : c2 < d2
      · refine XS.icmpYes X.here hx rfl (pc0 := 164) (pc' := 171) rfl (hb hby at_164) rfl (tlt hc164).1 (by decide) (by decide) ?_
        show Steps p.tables e below (T.setTop (mkF m 171 #[.val (.long i0), .second, .val (.long i1), .second, .val (.long i2), .second, .val (.int i3), .val (.int (3 : Int32)), .val (.int c0), .val (.int d0), .val (.int c1), .val (.int d1), .val (.int c2), .val (.int d2), .val (.ref b1), .val (.ref b2), .val (.ref x1), .val (.ref x2), .unset, .unset] [])) _
        refine XS.iconst X.here hx rfl (hb hby at_171) ?_
        show Steps p.tables e below (T.setTop (mkF m 172 #[.val (.long i0), .second, .val (.long i1), .second, .val (.long i2), .second, .val (.int i3), .val (.int (3 : Int32)), .val (.int c0), .val (.int d0), .val (.int c1), .val (.int d1), .val (.int c2), .val (.int d2), .val (.ref b1), .val (.ref b2), .val (.ref x1), .val (.ref x2), .unset, .unset] [(.int (0 : Int32))])) _
        refine XS.istore X.here hx rfl (hb hby at_172) rfl (l' := #[.val (.long i0), .second, .val (.long i1), .second, .val (.long i2), .second, .val (.int i3), .val (.int (3 : Int32)), .val (.int c0), .val (.int d0), .val (.int c1), .val (.int d1), .val (.int c2), .val (.int d2), .val (.ref b1), .val (.ref b2), .val (.ref x1), .val (.ref x2), .val (.int (0 : Int32)), .unset]) rfl ?_
        rw [show (own_z (own_ge (own_f c0 c1 c2) (own_f d0 d1 d2) 3 0)) = (0 : Int32) from by simp [own_z, own_ge, own_gt, own_f, hc138, hc151, hc164]] at kt
        exact kt
      · refine XS.icmpNo X.here hx rfl (hb hby at_164) rfl (flt hc164).1 ?_
        show Steps p.tables e below (T.setTop (mkF m 167 #[.val (.long i0), .second, .val (.long i1), .second, .val (.long i2), .second, .val (.int i3), .val (.int (3 : Int32)), .val (.int c0), .val (.int d0), .val (.int c1), .val (.int d1), .val (.int c2), .val (.int d2), .val (.ref b1), .val (.ref b2), .val (.ref x1), .val (.ref x2), .unset, .unset] [])) _
        refine XS.iconst X.here hx rfl (hb hby at_167) ?_
        show Steps p.tables e below (T.setTop (mkF m 168 #[.val (.long i0), .second, .val (.long i1), .second, .val (.long i2), .second, .val (.int i3), .val (.int (3 : Int32)), .val (.int c0), .val (.int d0), .val (.int c1), .val (.int d1), .val (.int c2), .val (.int d2), .val (.ref b1), .val (.ref b2), .val (.ref x1), .val (.ref x2), .unset, .unset] [(.int (1 : Int32))])) _
        refine XS.goto X.here hx rfl (pc0 := 168) (pc' := 172) rfl (hb hby at_168) (by decide) (by decide) ?_
        show Steps p.tables e below (T.setTop (mkF m 172 #[.val (.long i0), .second, .val (.long i1), .second, .val (.long i2), .second, .val (.int i3), .val (.int (3 : Int32)), .val (.int c0), .val (.int d0), .val (.int c1), .val (.int d1), .val (.int c2), .val (.int d2), .val (.ref b1), .val (.ref b2), .val (.ref x1), .val (.ref x2), .unset, .unset] [(.int (1 : Int32))])) _
        refine XS.istore X.here hx rfl (hb hby at_172) rfl (l' := #[.val (.long i0), .second, .val (.long i1), .second, .val (.long i2), .second, .val (.int i3), .val (.int (3 : Int32)), .val (.int c0), .val (.int d0), .val (.int c1), .val (.int d1), .val (.int c2), .val (.int d2), .val (.ref b1), .val (.ref b2), .val (.ref x1), .val (.ref x2), .val (.int (1 : Int32)), .unset]) rfl ?_
        rw [show (own_z (own_ge (own_f c0 c1 c2) (own_f d0 d1 d2) 3 0)) = (1 : Int32) from by simp [own_z, own_ge, own_gt, own_f, hc138, hc151, hc164]] at kt
        exact kt
set_option maxRecDepth 65536 in
set_option maxHeartbeats 40000000 in
theorem own_some3 {p : Program} {l : Launch} {e : Env} {s : State} {m : MethodId} {args : Array Value} {below : List Frame} {meth : Method} {c : Code} {T : State} {Z : State} {a0 : Array Value} {locs : List Loc} {cells slots : Nat} (i0 i1 i2 : Int64) (i3 c0 d0 c1 d1 c2 d2 : Int32) (b1 b2 x1 x2 : Addr) (v18 : Int32) (X : Stand p l e room_1 s m args below meth c T locs cells slots) (hx : p.tables.exec = Jvm.exec) (hZ : Z.Warmed39 s.vm) (hw : ∀ d ∈ tables_1, d.before a0 Z = true) (hby : c.code = code) (hown : s.vm.findClass "com/example/tracewarden/tracewarden/net/MarkingStrictlyCoversPinLaw" = some m.cls) :
    ∀ target, Steps p.tables e below (T.setTop (mkF m 220 #[.val (.long i0), .second, .val (.long i1), .second, .val (.long i2), .second, .val (.int i3), .val (.int (3 : Int32)), .val (.int c0), .val (.int d0), .val (.int c1), .val (.int d1), .val (.int c2), .val (.int d2), .val (.ref b1), .val (.ref b2), .val (.ref x1), .val (.ref x2), .val (.int v18), .val (.int (own_z (own_gt (own_f c0 c1 c2) (own_f d0 d1 d2) 3 0)))] [])) target → Steps p.tables e below (T.setTop (mkF m 174 #[.val (.long i0), .second, .val (.long i1), .second, .val (.long i2), .second, .val (.int i3), .val (.int (3 : Int32)), .val (.int c0), .val (.int d0), .val (.int c1), .val (.int d1), .val (.int c2), .val (.int d2), .val (.ref b1), .val (.ref b2), .val (.ref x1), .val (.ref x2), .val (.int v18), .unset] [])) target := by
  intro target kt
  show Steps p.tables e below (T.setTop (mkF m 174 #[.val (.long i0), .second, .val (.long i1), .second, .val (.long i2), .second, .val (.int i3), .val (.int (3 : Int32)), .val (.int c0), .val (.int d0), .val (.int c1), .val (.int d1), .val (.int c2), .val (.int d2), .val (.ref b1), .val (.ref b2), .val (.ref x1), .val (.ref x2), .val (.int v18), .unset] [])) _
  refine XS.iload X.here hx rfl (hb hby at_174) rfl ?_
  show Steps p.tables e below (T.setTop (mkF m 176 #[.val (.long i0), .second, .val (.long i1), .second, .val (.long i2), .second, .val (.int i3), .val (.int (3 : Int32)), .val (.int c0), .val (.int d0), .val (.int c1), .val (.int d1), .val (.int c2), .val (.int d2), .val (.ref b1), .val (.ref b2), .val (.ref x1), .val (.ref x2), .val (.int v18), .unset] [(.int (3 : Int32))])) _
  refine XS.iconst X.here hx rfl (hb hby at_176) ?_
  show Steps p.tables e below (T.setTop (mkF m 177 #[.val (.long i0), .second, .val (.long i1), .second, .val (.long i2), .second, .val (.int i3), .val (.int (3 : Int32)), .val (.int c0), .val (.int d0), .val (.int c1), .val (.int d1), .val (.int c2), .val (.int d2), .val (.ref b1), .val (.ref b2), .val (.ref x1), .val (.ref x2), .val (.int v18), .unset] [(.int (1 : Int32)), (.int (3 : Int32))])) _
  refine XS.icmpNo X.here hx rfl (hb hby at_177) rfl (flt (by decide : ¬ ((3 : Int32) < (1 : Int32)))).1 ?_
  show Steps p.tables e below (T.setTop (mkF m 180 #[.val (.long i0), .second, .val (.long i1), .second, .val (.long i2), .second, .val (.int i3), .val (.int (3 : Int32)), .val (.int c0), .val (.int d0), .val (.int c1), .val (.int d1), .val (.int c2), .val (.int d2), .val (.ref b1), .val (.ref b2), .val (.ref x1), .val (.ref x2), .val (.int v18), .unset] [])) _
  refine XS.iload X.here hx rfl (hb hby at_180) rfl ?_
  show Steps p.tables e below (T.setTop (mkF m 182 #[.val (.long i0), .second, .val (.long i1), .second, .val (.long i2), .second, .val (.int i3), .val (.int (3 : Int32)), .val (.int c0), .val (.int d0), .val (.int c1), .val (.int d1), .val (.int c2), .val (.int d2), .val (.ref b1), .val (.ref b2), .val (.ref x1), .val (.ref x2), .val (.int v18), .unset] [(.int c0)])) _
  refine XS.iload X.here hx rfl (hb hby at_182) rfl ?_
  show Steps p.tables e below (T.setTop (mkF m 184 #[.val (.long i0), .second, .val (.long i1), .second, .val (.long i2), .second, .val (.int i3), .val (.int (3 : Int32)), .val (.int c0), .val (.int d0), .val (.int c1), .val (.int d1), .val (.int c2), .val (.int d2), .val (.ref b1), .val (.ref b2), .val (.ref x1), .val (.ref x2), .val (.int v18), .unset] [(.int d0), (.int c0)])) _
  by_cases hc184 : d0 < c0
  · refine XS.icmpYes X.here hx rfl (pc0 := 184) (pc' := 213) rfl (hb hby at_184) rfl (tlt hc184).2.2.1 (by decide) (by decide) ?_
    show Steps p.tables e below (T.setTop (mkF m 213 #[.val (.long i0), .second, .val (.long i1), .second, .val (.long i2), .second, .val (.int i3), .val (.int (3 : Int32)), .val (.int c0), .val (.int d0), .val (.int c1), .val (.int d1), .val (.int c2), .val (.int d2), .val (.ref b1), .val (.ref b2), .val (.ref x1), .val (.ref x2), .val (.int v18), .unset] [])) _
    refine XS.iconst X.here hx rfl (hb hby at_213) ?_
    show Steps p.tables e below (T.setTop (mkF m 214 #[.val (.long i0), .second, .val (.long i1), .second, .val (.long i2), .second, .val (.int i3), .val (.int (3 : Int32)), .val (.int c0), .val (.int d0), .val (.int c1), .val (.int d1), .val (.int c2), .val (.int d2), .val (.ref b1), .val (.ref b2), .val (.ref x1), .val (.ref x2), .val (.int v18), .unset] [(.int (1 : Int32))])) _
    refine XS.goto X.here hx rfl (pc0 := 214) (pc' := 218) rfl (hb hby at_214) (by decide) (by decide) ?_
    show Steps p.tables e below (T.setTop (mkF m 218 #[.val (.long i0), .second, .val (.long i1), .second, .val (.long i2), .second, .val (.int i3), .val (.int (3 : Int32)), .val (.int c0), .val (.int d0), .val (.int c1), .val (.int d1), .val (.int c2), .val (.int d2), .val (.ref b1), .val (.ref b2), .val (.ref x1), .val (.ref x2), .val (.int v18), .unset] [(.int (1 : Int32))])) _
    refine XS.istore X.here hx rfl (hb hby at_218) rfl (l' := #[.val (.long i0), .second, .val (.long i1), .second, .val (.long i2), .second, .val (.int i3), .val (.int (3 : Int32)), .val (.int c0), .val (.int d0), .val (.int c1), .val (.int d1), .val (.int c2), .val (.int d2), .val (.ref b1), .val (.ref b2), .val (.ref x1), .val (.ref x2), .val (.int v18), .val (.int (1 : Int32))]) rfl ?_
    rw [show (own_z (own_gt (own_f c0 c1 c2) (own_f d0 d1 d2) 3 0)) = (1 : Int32) from by simp [own_z, own_ge, own_gt, own_f, hc184]] at kt
    exact kt
  · refine XS.icmpNo X.here hx rfl (hb hby at_184) rfl (flt hc184).2.2.1 ?_
    show Steps p.tables e below (T.setTop (mkF m 187 #[.val (.long i0), .second, .val (.long i1), .second, .val (.long i2), .second, .val (.int i3), .val (.int (3 : Int32)), .val (.int c0), .val (.int d0), .val (.int c1), .val (.int d1), .val (.int c2), .val (.int d2), .val (.ref b1), .val (.ref b2), .val (.ref x1), .val (.ref x2), .val (.int v18), .unset] [])) _
    refine XS.iload X.here hx rfl (hb hby at_187) rfl ?_
    show Steps p.tables e below (T.setTop (mkF m 189 #[.val (.long i0), .second, .val (.long i1), .second, .val (.long i2), .second, .val (.int i3), .val (.int (3 : Int32)), .val (.int c0), .val (.int d0), .val (.int c1), .val (.int d1), .val (.int c2), .val (.int d2), .val (.ref b1), .val (.ref b2), .val (.ref x1), .val (.ref x2), .val (.int v18), .unset] [(.int (3 : Int32))])) _
    refine XS.iconst X.here hx rfl (hb hby at_189) ?_
    show Steps p.tables e below (T.setTop (mkF m 190 #[.val (.long i0), .second, .val (.long i1), .second, .val (.long i2), .second, .val (.int i3), .val (.int (3 : Int32)), .val (.int c0), .val (.int d0), .val (.int c1), .val (.int d1), .val (.int c2), .val (.int d2), .val (.ref b1), .val (.ref b2), .val (.ref x1), .val (.ref x2), .val (.int v18), .unset] [(.int (2 : Int32)), (.int (3 : Int32))])) _
    refine XS.icmpNo X.here hx rfl (hb hby at_190) rfl (flt (by decide : ¬ ((3 : Int32) < (2 : Int32)))).1 ?_
    show Steps p.tables e below (T.setTop (mkF m 193 #[.val (.long i0), .second, .val (.long i1), .second, .val (.long i2), .second, .val (.int i3), .val (.int (3 : Int32)), .val (.int c0), .val (.int d0), .val (.int c1), .val (.int d1), .val (.int c2), .val (.int d2), .val (.ref b1), .val (.ref b2), .val (.ref x1), .val (.ref x2), .val (.int v18), .unset] [])) _
    refine XS.iload X.here hx rfl (hb hby at_193) rfl ?_
    show Steps p.tables e below (T.setTop (mkF m 195 #[.val (.long i0), .second, .val (.long i1), .second, .val (.long i2), .second, .val (.int i3), .val (.int (3 : Int32)), .val (.int c0), .val (.int d0), .val (.int c1), .val (.int d1), .val (.int c2), .val (.int d2), .val (.ref b1), .val (.ref b2), .val (.ref x1), .val (.ref x2), .val (.int v18), .unset] [(.int c1)])) _
    refine XS.iload X.here hx rfl (hb hby at_195) rfl ?_
    show Steps p.tables e below (T.setTop (mkF m 197 #[.val (.long i0), .second, .val (.long i1), .second, .val (.long i2), .second, .val (.int i3), .val (.int (3 : Int32)), .val (.int c0), .val (.int d0), .val (.int c1), .val (.int d1), .val (.int c2), .val (.int d2), .val (.ref b1), .val (.ref b2), .val (.ref x1), .val (.ref x2), .val (.int v18), .unset] [(.int d1), (.int c1)])) _
    by_cases hc197 : d1 < c1
    · refine XS.icmpYes X.here hx rfl (pc0 := 197) (pc' := 213) rfl (hb hby at_197) rfl (tlt hc197).2.2.1 (by decide) (by decide) ?_
      show Steps p.tables e below (T.setTop (mkF m 213 #[.val (.long i0), .second, .val (.long i1), .second, .val (.long i2), .second, .val (.int i3), .val (.int (3 : Int32)), .val (.int c0), .val (.int d0), .val (.int c1), .val (.int d1), .val (.int c2), .val (.int d2), .val (.ref b1), .val (.ref b2), .val (.ref x1), .val (.ref x2), .val (.int v18), .unset] [])) _
      refine XS.iconst X.here hx rfl (hb hby at_213) ?_
      show Steps p.tables e below (T.setTop (mkF m 214 #[.val (.long i0), .second, .val (.long i1), .second, .val (.long i2), .second, .val (.int i3), .val (.int (3 : Int32)), .val (.int c0), .val (.int d0), .val (.int c1), .val (.int d1), .val (.int c2), .val (.int d2), .val (.ref b1), .val (.ref b2), .val (.ref x1), .val (.ref x2), .val (.int v18), .unset] [(.int (1 : Int32))])) _
      refine XS.goto X.here hx rfl (pc0 := 214) (pc' := 218) rfl (hb hby at_214) (by decide) (by decide) ?_
      show Steps p.tables e below (T.setTop (mkF m 218 #[.val (.long i0), .second, .val (.long i1), .second, .val (.long i2), .second, .val (.int i3), .val (.int (3 : Int32)), .val (.int c0), .val (.int d0), .val (.int c1), .val (.int d1), .val (.int c2), .val (.int d2), .val (.ref b1), .val (.ref b2), .val (.ref x1), .val (.ref x2), .val (.int v18), .unset] [(.int (1 : Int32))])) _
      refine XS.istore X.here hx rfl (hb hby at_218) rfl (l' := #[.val (.long i0), .second, .val (.long i1), .second, .val (.long i2), .second, .val (.int i3), .val (.int (3 : Int32)), .val (.int c0), .val (.int d0), .val (.int c1), .val (.int d1), .val (.int c2), .val (.int d2), .val (.ref b1), .val (.ref b2), .val (.ref x1), .val (.ref x2), .val (.int v18), .val (.int (1 : Int32))]) rfl ?_
      rw [show (own_z (own_gt (own_f c0 c1 c2) (own_f d0 d1 d2) 3 0)) = (1 : Int32) from by simp [own_z, own_ge, own_gt, own_f, hc184, hc197]] at kt
      exact kt
    · refine XS.icmpNo X.here hx rfl (hb hby at_197) rfl (flt hc197).2.2.1 ?_
      show Steps p.tables e below (T.setTop (mkF m 200 #[.val (.long i0), .second, .val (.long i1), .second, .val (.long i2), .second, .val (.int i3), .val (.int (3 : Int32)), .val (.int c0), .val (.int d0), .val (.int c1), .val (.int d1), .val (.int c2), .val (.int d2), .val (.ref b1), .val (.ref b2), .val (.ref x1), .val (.ref x2), .val (.int v18), .unset] [])) _
      refine XS.iload X.here hx rfl (hb hby at_200) rfl ?_
      show Steps p.tables e below (T.setTop (mkF m 202 #[.val (.long i0), .second, .val (.long i1), .second, .val (.long i2), .second, .val (.int i3), .val (.int (3 : Int32)), .val (.int c0), .val (.int d0), .val (.int c1), .val (.int d1), .val (.int c2), .val (.int d2), .val (.ref b1), .val (.ref b2), .val (.ref x1), .val (.ref x2), .val (.int v18), .unset] [(.int (3 : Int32))])) _
      refine XS.iconst X.here hx rfl (hb hby at_202) ?_
      show Steps p.tables e below (T.setTop (mkF m 203 #[.val (.long i0), .second, .val (.long i1), .second, .val (.long i2), .second, .val (.int i3), .val (.int (3 : Int32)), .val (.int c0), .val (.int d0), .val (.int c1), .val (.int d1), .val (.int c2), .val (.int d2), .val (.ref b1), .val (.ref b2), .val (.ref x1), .val (.ref x2), .val (.int v18), .unset] [(.int (3 : Int32)), (.int (3 : Int32))])) _
      refine XS.icmpNo X.here hx rfl (hb hby at_203) rfl (flt (by decide : ¬ ((3 : Int32) < (3 : Int32)))).1 ?_
      show Steps p.tables e below (T.setTop (mkF m 206 #[.val (.long i0), .second, .val (.long i1), .second, .val (.long i2), .second, .val (.int i3), .val (.int (3 : Int32)), .val (.int c0), .val (.int d0), .val (.int c1), .val (.int d1), .val (.int c2), .val (.int d2), .val (.ref b1), .val (.ref b2), .val (.ref x1), .val (.ref x2), .val (.int v18), .unset] [])) _
      refine XS.iload X.here hx rfl (hb hby at_206) rfl ?_
      show Steps p.tables e below (T.setTop (mkF m 208 #[.val (.long i0), .second, .val (.long i1), .second, .val (.long i2), .second, .val (.int i3), .val (.int (3 : Int32)), .val (.int c0), .val (.int d0), .val (.int c1), .val (.int d1), .val (.int c2), .val (.int d2), .val (.ref b1), .val (.ref b2), .val (.ref x1), .val (.ref x2), .val (.int v18), .unset] [(.int c2)])) _
      refine XS.iload X.here hx rfl (hb hby at_208) rfl ?_
      show Steps p.tables e below (T.setTop (mkF m 210 #[.val (.long i0), .second, .val (.long i1), .second, .val (.long i2), .second, .val (.int i3), .val (.int (3 : Int32)), .val (.int c0), .val (.int d0), .val (.int c1), .val (.int d1), .val (.int c2), .val (.int d2), .val (.ref b1), .val (.ref b2), .val (.ref x1), .val (.ref x2), .val (.int v18), .unset] [(.int d2), (.int c2)])) _
      by_cases hc210 : d2 < c2
      · refine XS.icmpNo X.here hx rfl (hb hby at_210) rfl (tlt hc210).2.2.2 ?_
        show Steps p.tables e below (T.setTop (mkF m 213 #[.val (.long i0), .second, .val (.long i1), .second, .val (.long i2), .second, .val (.int i3), .val (.int (3 : Int32)), .val (.int c0), .val (.int d0), .val (.int c1), .val (.int d1), .val (.int c2), .val (.int d2), .val (.ref b1), .val (.ref b2), .val (.ref x1), .val (.ref x2), .val (.int v18), .unset] [])) _
        refine XS.iconst X.here hx rfl (hb hby at_213) ?_
        show Steps p.tables e below (T.setTop (mkF m 214 #[.val (.long i0), .second, .val (.long i1), .second, .val (.long i2), .second, .val (.int i3), .val (.int (3 : Int32)), .val (.int c0), .val (.int d0), .val (.int c1), .val (.int d1), .val (.int c2), .val (.int d2), .val (.ref b1), .val (.ref b2), .val (.ref x1), .val (.ref x2), .val (.int v18), .unset] [(.int (1 : Int32))])) _
        refine XS.goto X.here hx rfl (pc0 := 214) (pc' := 218) rfl (hb hby at_214) (by decide) (by decide) ?_
        show Steps p.tables e below (T.setTop (mkF m 218 #[.val (.long i0), .second, .val (.long i1), .second, .val (.long i2), .second, .val (.int i3), .val (.int (3 : Int32)), .val (.int c0), .val (.int d0), .val (.int c1), .val (.int d1), .val (.int c2), .val (.int d2), .val (.ref b1), .val (.ref b2), .val (.ref x1), .val (.ref x2), .val (.int v18), .unset] [(.int (1 : Int32))])) _
        refine XS.istore X.here hx rfl (hb hby at_218) rfl (l' := #[.val (.long i0), .second, .val (.long i1), .second, .val (.long i2), .second, .val (.int i3), .val (.int (3 : Int32)), .val (.int c0), .val (.int d0), .val (.int c1), .val (.int d1), .val (.int c2), .val (.int d2), .val (.ref b1), .val (.ref b2), .val (.ref x1), .val (.ref x2), .val (.int v18), .val (.int (1 : Int32))]) rfl ?_
        rw [show (own_z (own_gt (own_f c0 c1 c2) (own_f d0 d1 d2) 3 0)) = (1 : Int32) from by simp [own_z, own_ge, own_gt, own_f, hc184, hc197, hc210]] at kt
        exact kt
      · refine XS.icmpYes X.here hx rfl (pc0 := 210) (pc' := 217) rfl (hb hby at_210) rfl (flt hc210).2.2.2 (by decide) (by decide) ?_
        show Steps p.tables e below (T.setTop (mkF m 217 #[.val (.long i0), .second, .val (.long i1), .second, .val (.long i2), .second, .val (.int i3), .val (.int (3 : Int32)), .val (.int c0), .val (.int d0), .val (.int c1), .val (.int d1), .val (.int c2), .val (.int d2), .val (.ref b1), .val (.ref b2), .val (.ref x1), .val (.ref x2), .val (.int v18), .unset] [])) _
        refine XS.iconst X.here hx rfl (hb hby at_217) ?_
        show Steps p.tables e below (T.setTop (mkF m 218 #[.val (.long i0), .second, .val (.long i1), .second, .val (.long i2), .second, .val (.int i3), .val (.int (3 : Int32)), .val (.int c0), .val (.int d0), .val (.int c1), .val (.int d1), .val (.int c2), .val (.int d2), .val (.ref b1), .val (.ref b2), .val (.ref x1), .val (.ref x2), .val (.int v18), .unset] [(.int (0 : Int32))])) _
        refine XS.istore X.here hx rfl (hb hby at_218) rfl (l' := #[.val (.long i0), .second, .val (.long i1), .second, .val (.long i2), .second, .val (.int i3), .val (.int (3 : Int32)), .val (.int c0), .val (.int d0), .val (.int c1), .val (.int d1), .val (.int c2), .val (.int d2), .val (.ref b1), .val (.ref b2), .val (.ref x1), .val (.ref x2), .val (.int v18), .val (.int (0 : Int32))]) rfl ?_
        rw [show (own_z (own_gt (own_f c0 c1 c2) (own_f d0 d1 d2) 3 0)) = (0 : Int32) from by simp [own_z, own_ge, own_gt, own_f, hc184, hc197, hc210]] at kt
        exact kt
set_option maxRecDepth 65536 in
set_option maxHeartbeats 40000000 in
theorem own_end {p : Program} {l : Launch} {e : Env} {s : State} {m : MethodId} {args : Array Value} {below : List Frame} {meth : Method} {c : Code} {T : State} {Z : State} {a0 : Array Value} {locs : List Loc} {cells slots : Nat} (i0 i1 i2 : Int64) (i3 c0 d0 c1 d1 c2 d2 : Int32) (n : Nat) (b1 b2 x1 x2 : Addr) (v18 v19 : Bool) (X : Stand p l e room_1 s m args below meth c T locs cells slots) (hx : p.tables.exec = Jvm.exec) (hZ : Z.Warmed39 s.vm) (hw : ∀ d ∈ tables_1, d.before a0 Z = true) (hby : c.code = code) (hown : s.vm.findClass "com/example/tracewarden/tracewarden/net/MarkingStrictlyCoversPinLaw" = some m.cls) :
    ∀ target, Steps p.tables e below (T.setTop (mkF m 250 #[.val (.long i0), .second, .val (.long i1), .second, .val (.long i2), .second, .val (.int i3), .val (.int (Int32.ofNat n)), .val (.int c0), .val (.int d0), .val (.int c1), .val (.int d1), .val (.int c2), .val (.int d2), .val (.ref b1), .val (.ref b2), .val (.ref x1), .val (.ref x2), .val (.int (own_z v18)), .val (.int (own_z v19))] [(.int (1 : Int32))])) target → Steps p.tables e below (T.setTop (mkF m 227 #[.val (.long i0), .second, .val (.long i1), .second, .val (.long i2), .second, .val (.int i3), .val (.int (Int32.ofNat n)), .val (.int c0), .val (.int d0), .val (.int c1), .val (.int d1), .val (.int c2), .val (.int d2), .val (.ref b1), .val (.ref b2), .val (.ref x1), .val (.ref x2), .val (.int (own_z v18)), .val (.int (own_z v19))] [(.int (own_z (v18 && v19)))])) target := by
  intro target kt
  cases v18 <;> cases v19
  · skip
    show Steps p.tables e below (T.setTop (mkF m 227 #[.val (.long i0), .second, .val (.long i1), .second, .val (.long i2), .second, .val (.int i3), .val (.int (Int32.ofNat n)), .val (.int c0), .val (.int d0), .val (.int c1), .val (.int d1), .val (.int c2), .val (.int d2), .val (.ref b1), .val (.ref b2), .val (.ref x1), .val (.ref x2), .val (.int (0 : Int32)), .val (.int (0 : Int32))] [(.int (0 : Int32))])) _
    refine XS.iload X.here hx rfl (hb hby at_227) rfl ?_
    show Steps p.tables e below (T.setTop (mkF m 229 #[.val (.long i0), .second, .val (.long i1), .second, .val (.long i2), .second, .val (.int i3), .val (.int (Int32.ofNat n)), .val (.int c0), .val (.int d0), .val (.int c1), .val (.int d1), .val (.int c2), .val (.int d2), .val (.ref b1), .val (.ref b2), .val (.ref x1), .val (.ref x2), .val (.int (0 : Int32)), .val (.int (0 : Int32))] [(.int (0 : Int32)), (.int (0 : Int32))])) _
    refine XS.ifYes X.here hx rfl (pc0 := 229) (pc' := 241) rfl (hb hby at_229) rfl ((if0 _ _).trans (teq (by decide : (0 : Int32) = (0 : Int32))).1) (by decide) (by decide) ?_
    show Steps p.tables e below (T.setTop (mkF m 241 #[.val (.long i0), .second, .val (.long i1), .second, .val (.long i2), .second, .val (.int i3), .val (.int (Int32.ofNat n)), .val (.int c0), .val (.int d0), .val (.int c1), .val (.int d1), .val (.int c2), .val (.int d2), .val (.ref b1), .val (.ref b2), .val (.ref x1), .val (.ref x2), .val (.int (0 : Int32)), .val (.int (0 : Int32))] [(.int (0 : Int32))])) _
    refine XS.iconst X.here hx rfl (hb hby at_241) ?_
    show Steps p.tables e below (T.setTop (mkF m 242 #[.val (.long i0), .second, .val (.long i1), .second, .val (.long i2), .second, .val (.int i3), .val (.int (Int32.ofNat n)), .val (.int c0), .val (.int d0), .val (.int c1), .val (.int d1), .val (.int c2), .val (.int d2), .val (.ref b1), .val (.ref b2), .val (.ref x1), .val (.ref x2), .val (.int (0 : Int32)), .val (.int (0 : Int32))] [(.int (0 : Int32)), (.int (0 : Int32))])) _
    refine XS.icmpNo X.here hx rfl (hb hby at_242) rfl (teq (by decide : (0 : Int32) = (0 : Int32))).2 ?_
    show Steps p.tables e below (T.setTop (mkF m 245 #[.val (.long i0), .second, .val (.long i1), .second, .val (.long i2), .second, .val (.int i3), .val (.int (Int32.ofNat n)), .val (.int c0), .val (.int d0), .val (.int c1), .val (.int d1), .val (.int c2), .val (.int d2), .val (.ref b1), .val (.ref b2), .val (.ref x1), .val (.ref x2), .val (.int (0 : Int32)), .val (.int (0 : Int32))] [])) _
    refine XS.iconst X.here hx rfl (hb hby at_245) ?_
    show Steps p.tables e below (T.setTop (mkF m 246 #[.val (.long i0), .second, .val (.long i1), .second, .val (.long i2), .second, .val (.int i3), .val (.int (Int32.ofNat n)), .val (.int c0), .val (.int d0), .val (.int c1), .val (.int d1), .val (.int c2), .val (.int d2), .val (.ref b1), .val (.ref b2), .val (.ref x1), .val (.ref x2), .val (.int (0 : Int32)), .val (.int (0 : Int32))] [(.int (1 : Int32))])) _
    refine XS.goto X.here hx rfl (pc0 := 246) (pc' := 250) rfl (hb hby at_246) (by decide) (by decide) ?_
    exact kt
  · skip
    show Steps p.tables e below (T.setTop (mkF m 227 #[.val (.long i0), .second, .val (.long i1), .second, .val (.long i2), .second, .val (.int i3), .val (.int (Int32.ofNat n)), .val (.int c0), .val (.int d0), .val (.int c1), .val (.int d1), .val (.int c2), .val (.int d2), .val (.ref b1), .val (.ref b2), .val (.ref x1), .val (.ref x2), .val (.int (0 : Int32)), .val (.int (1 : Int32))] [(.int (0 : Int32))])) _
    refine XS.iload X.here hx rfl (hb hby at_227) rfl ?_
    show Steps p.tables e below (T.setTop (mkF m 229 #[.val (.long i0), .second, .val (.long i1), .second, .val (.long i2), .second, .val (.int i3), .val (.int (Int32.ofNat n)), .val (.int c0), .val (.int d0), .val (.int c1), .val (.int d1), .val (.int c2), .val (.int d2), .val (.ref b1), .val (.ref b2), .val (.ref x1), .val (.ref x2), .val (.int (0 : Int32)), .val (.int (1 : Int32))] [(.int (0 : Int32)), (.int (0 : Int32))])) _
    refine XS.ifYes X.here hx rfl (pc0 := 229) (pc' := 241) rfl (hb hby at_229) rfl ((if0 _ _).trans (teq (by decide : (0 : Int32) = (0 : Int32))).1) (by decide) (by decide) ?_
    show Steps p.tables e below (T.setTop (mkF m 241 #[.val (.long i0), .second, .val (.long i1), .second, .val (.long i2), .second, .val (.int i3), .val (.int (Int32.ofNat n)), .val (.int c0), .val (.int d0), .val (.int c1), .val (.int d1), .val (.int c2), .val (.int d2), .val (.ref b1), .val (.ref b2), .val (.ref x1), .val (.ref x2), .val (.int (0 : Int32)), .val (.int (1 : Int32))] [(.int (0 : Int32))])) _
    refine XS.iconst X.here hx rfl (hb hby at_241) ?_
    show Steps p.tables e below (T.setTop (mkF m 242 #[.val (.long i0), .second, .val (.long i1), .second, .val (.long i2), .second, .val (.int i3), .val (.int (Int32.ofNat n)), .val (.int c0), .val (.int d0), .val (.int c1), .val (.int d1), .val (.int c2), .val (.int d2), .val (.ref b1), .val (.ref b2), .val (.ref x1), .val (.ref x2), .val (.int (0 : Int32)), .val (.int (1 : Int32))] [(.int (0 : Int32)), (.int (0 : Int32))])) _
    refine XS.icmpNo X.here hx rfl (hb hby at_242) rfl (teq (by decide : (0 : Int32) = (0 : Int32))).2 ?_
    show Steps p.tables e below (T.setTop (mkF m 245 #[.val (.long i0), .second, .val (.long i1), .second, .val (.long i2), .second, .val (.int i3), .val (.int (Int32.ofNat n)), .val (.int c0), .val (.int d0), .val (.int c1), .val (.int d1), .val (.int c2), .val (.int d2), .val (.ref b1), .val (.ref b2), .val (.ref x1), .val (.ref x2), .val (.int (0 : Int32)), .val (.int (1 : Int32))] [])) _
    refine XS.iconst X.here hx rfl (hb hby at_245) ?_
    show Steps p.tables e below (T.setTop (mkF m 246 #[.val (.long i0), .second, .val (.long i1), .second, .val (.long i2), .second, .val (.int i3), .val (.int (Int32.ofNat n)), .val (.int c0), .val (.int d0), .val (.int c1), .val (.int d1), .val (.int c2), .val (.int d2), .val (.ref b1), .val (.ref b2), .val (.ref x1), .val (.ref x2), .val (.int (0 : Int32)), .val (.int (1 : Int32))] [(.int (1 : Int32))])) _
    refine XS.goto X.here hx rfl (pc0 := 246) (pc' := 250) rfl (hb hby at_246) (by decide) (by decide) ?_
    exact kt
  · skip
    show Steps p.tables e below (T.setTop (mkF m 227 #[.val (.long i0), .second, .val (.long i1), .second, .val (.long i2), .second, .val (.int i3), .val (.int (Int32.ofNat n)), .val (.int c0), .val (.int d0), .val (.int c1), .val (.int d1), .val (.int c2), .val (.int d2), .val (.ref b1), .val (.ref b2), .val (.ref x1), .val (.ref x2), .val (.int (1 : Int32)), .val (.int (0 : Int32))] [(.int (0 : Int32))])) _
    refine XS.iload X.here hx rfl (hb hby at_227) rfl ?_
    show Steps p.tables e below (T.setTop (mkF m 229 #[.val (.long i0), .second, .val (.long i1), .second, .val (.long i2), .second, .val (.int i3), .val (.int (Int32.ofNat n)), .val (.int c0), .val (.int d0), .val (.int c1), .val (.int d1), .val (.int c2), .val (.int d2), .val (.ref b1), .val (.ref b2), .val (.ref x1), .val (.ref x2), .val (.int (1 : Int32)), .val (.int (0 : Int32))] [(.int (1 : Int32)), (.int (0 : Int32))])) _
    refine XS.ifNo X.here hx rfl (hb hby at_229) rfl ((if0 _ _).trans (feq (by decide : ¬ ((1 : Int32) = (0 : Int32)))).1) ?_
    show Steps p.tables e below (T.setTop (mkF m 232 #[.val (.long i0), .second, .val (.long i1), .second, .val (.long i2), .second, .val (.int i3), .val (.int (Int32.ofNat n)), .val (.int c0), .val (.int d0), .val (.int c1), .val (.int d1), .val (.int c2), .val (.int d2), .val (.ref b1), .val (.ref b2), .val (.ref x1), .val (.ref x2), .val (.int (1 : Int32)), .val (.int (0 : Int32))] [(.int (0 : Int32))])) _
    refine XS.iload X.here hx rfl (hb hby at_232) rfl ?_
    show Steps p.tables e below (T.setTop (mkF m 234 #[.val (.long i0), .second, .val (.long i1), .second, .val (.long i2), .second, .val (.int i3), .val (.int (Int32.ofNat n)), .val (.int c0), .val (.int d0), .val (.int c1), .val (.int d1), .val (.int c2), .val (.int d2), .val (.ref b1), .val (.ref b2), .val (.ref x1), .val (.ref x2), .val (.int (1 : Int32)), .val (.int (0 : Int32))] [(.int (0 : Int32)), (.int (0 : Int32))])) _
    refine XS.ifYes X.here hx rfl (pc0 := 234) (pc' := 241) rfl (hb hby at_234) rfl ((if0 _ _).trans (teq (by decide : (0 : Int32) = (0 : Int32))).1) (by decide) (by decide) ?_
    show Steps p.tables e below (T.setTop (mkF m 241 #[.val (.long i0), .second, .val (.long i1), .second, .val (.long i2), .second, .val (.int i3), .val (.int (Int32.ofNat n)), .val (.int c0), .val (.int d0), .val (.int c1), .val (.int d1), .val (.int c2), .val (.int d2), .val (.ref b1), .val (.ref b2), .val (.ref x1), .val (.ref x2), .val (.int (1 : Int32)), .val (.int (0 : Int32))] [(.int (0 : Int32))])) _
    refine XS.iconst X.here hx rfl (hb hby at_241) ?_
    show Steps p.tables e below (T.setTop (mkF m 242 #[.val (.long i0), .second, .val (.long i1), .second, .val (.long i2), .second, .val (.int i3), .val (.int (Int32.ofNat n)), .val (.int c0), .val (.int d0), .val (.int c1), .val (.int d1), .val (.int c2), .val (.int d2), .val (.ref b1), .val (.ref b2), .val (.ref x1), .val (.ref x2), .val (.int (1 : Int32)), .val (.int (0 : Int32))] [(.int (0 : Int32)), (.int (0 : Int32))])) _
    refine XS.icmpNo X.here hx rfl (hb hby at_242) rfl (teq (by decide : (0 : Int32) = (0 : Int32))).2 ?_
    show Steps p.tables e below (T.setTop (mkF m 245 #[.val (.long i0), .second, .val (.long i1), .second, .val (.long i2), .second, .val (.int i3), .val (.int (Int32.ofNat n)), .val (.int c0), .val (.int d0), .val (.int c1), .val (.int d1), .val (.int c2), .val (.int d2), .val (.ref b1), .val (.ref b2), .val (.ref x1), .val (.ref x2), .val (.int (1 : Int32)), .val (.int (0 : Int32))] [])) _
    refine XS.iconst X.here hx rfl (hb hby at_245) ?_
    show Steps p.tables e below (T.setTop (mkF m 246 #[.val (.long i0), .second, .val (.long i1), .second, .val (.long i2), .second, .val (.int i3), .val (.int (Int32.ofNat n)), .val (.int c0), .val (.int d0), .val (.int c1), .val (.int d1), .val (.int c2), .val (.int d2), .val (.ref b1), .val (.ref b2), .val (.ref x1), .val (.ref x2), .val (.int (1 : Int32)), .val (.int (0 : Int32))] [(.int (1 : Int32))])) _
    refine XS.goto X.here hx rfl (pc0 := 246) (pc' := 250) rfl (hb hby at_246) (by decide) (by decide) ?_
    exact kt
  · skip
    show Steps p.tables e below (T.setTop (mkF m 227 #[.val (.long i0), .second, .val (.long i1), .second, .val (.long i2), .second, .val (.int i3), .val (.int (Int32.ofNat n)), .val (.int c0), .val (.int d0), .val (.int c1), .val (.int d1), .val (.int c2), .val (.int d2), .val (.ref b1), .val (.ref b2), .val (.ref x1), .val (.ref x2), .val (.int (1 : Int32)), .val (.int (1 : Int32))] [(.int (1 : Int32))])) _
    refine XS.iload X.here hx rfl (hb hby at_227) rfl ?_
    show Steps p.tables e below (T.setTop (mkF m 229 #[.val (.long i0), .second, .val (.long i1), .second, .val (.long i2), .second, .val (.int i3), .val (.int (Int32.ofNat n)), .val (.int c0), .val (.int d0), .val (.int c1), .val (.int d1), .val (.int c2), .val (.int d2), .val (.ref b1), .val (.ref b2), .val (.ref x1), .val (.ref x2), .val (.int (1 : Int32)), .val (.int (1 : Int32))] [(.int (1 : Int32)), (.int (1 : Int32))])) _
    refine XS.ifNo X.here hx rfl (hb hby at_229) rfl ((if0 _ _).trans (feq (by decide : ¬ ((1 : Int32) = (0 : Int32)))).1) ?_
    show Steps p.tables e below (T.setTop (mkF m 232 #[.val (.long i0), .second, .val (.long i1), .second, .val (.long i2), .second, .val (.int i3), .val (.int (Int32.ofNat n)), .val (.int c0), .val (.int d0), .val (.int c1), .val (.int d1), .val (.int c2), .val (.int d2), .val (.ref b1), .val (.ref b2), .val (.ref x1), .val (.ref x2), .val (.int (1 : Int32)), .val (.int (1 : Int32))] [(.int (1 : Int32))])) _
    refine XS.iload X.here hx rfl (hb hby at_232) rfl ?_
    show Steps p.tables e below (T.setTop (mkF m 234 #[.val (.long i0), .second, .val (.long i1), .second, .val (.long i2), .second, .val (.int i3), .val (.int (Int32.ofNat n)), .val (.int c0), .val (.int d0), .val (.int c1), .val (.int d1), .val (.int c2), .val (.int d2), .val (.ref b1), .val (.ref b2), .val (.ref x1), .val (.ref x2), .val (.int (1 : Int32)), .val (.int (1 : Int32))] [(.int (1 : Int32)), (.int (1 : Int32))])) _
    refine XS.ifNo X.here hx rfl (hb hby at_234) rfl ((if0 _ _).trans (feq (by decide : ¬ ((1 : Int32) = (0 : Int32)))).1) ?_
    show Steps p.tables e below (T.setTop (mkF m 237 #[.val (.long i0), .second, .val (.long i1), .second, .val (.long i2), .second, .val (.int i3), .val (.int (Int32.ofNat n)), .val (.int c0), .val (.int d0), .val (.int c1), .val (.int d1), .val (.int c2), .val (.int d2), .val (.ref b1), .val (.ref b2), .val (.ref x1), .val (.ref x2), .val (.int (1 : Int32)), .val (.int (1 : Int32))] [(.int (1 : Int32))])) _
    refine XS.iconst X.here hx rfl (hb hby at_237) ?_
    show Steps p.tables e below (T.setTop (mkF m 238 #[.val (.long i0), .second, .val (.long i1), .second, .val (.long i2), .second, .val (.int i3), .val (.int (Int32.ofNat n)), .val (.int c0), .val (.int d0), .val (.int c1), .val (.int d1), .val (.int c2), .val (.int d2), .val (.ref b1), .val (.ref b2), .val (.ref x1), .val (.ref x2), .val (.int (1 : Int32)), .val (.int (1 : Int32))] [(.int (1 : Int32)), (.int (1 : Int32))])) _
    refine XS.goto X.here hx rfl (pc0 := 238) (pc' := 242) rfl (hb hby at_238) (by decide) (by decide) ?_
    show Steps p.tables e below (T.setTop (mkF m 242 #[.val (.long i0), .second, .val (.long i1), .second, .val (.long i2), .second, .val (.int i3), .val (.int (Int32.ofNat n)), .val (.int c0), .val (.int d0), .val (.int c1), .val (.int d1), .val (.int c2), .val (.int d2), .val (.ref b1), .val (.ref b2), .val (.ref x1), .val (.ref x2), .val (.int (1 : Int32)), .val (.int (1 : Int32))] [(.int (1 : Int32)), (.int (1 : Int32))])) _
    refine XS.icmpNo X.here hx rfl (hb hby at_242) rfl (teq (by decide : (1 : Int32) = (1 : Int32))).2 ?_
    show Steps p.tables e below (T.setTop (mkF m 245 #[.val (.long i0), .second, .val (.long i1), .second, .val (.long i2), .second, .val (.int i3), .val (.int (Int32.ofNat n)), .val (.int c0), .val (.int d0), .val (.int c1), .val (.int d1), .val (.int c2), .val (.int d2), .val (.ref b1), .val (.ref b2), .val (.ref x1), .val (.ref x2), .val (.int (1 : Int32)), .val (.int (1 : Int32))] [])) _
    refine XS.iconst X.here hx rfl (hb hby at_245) ?_
    show Steps p.tables e below (T.setTop (mkF m 246 #[.val (.long i0), .second, .val (.long i1), .second, .val (.long i2), .second, .val (.int i3), .val (.int (Int32.ofNat n)), .val (.int c0), .val (.int d0), .val (.int c1), .val (.int d1), .val (.int c2), .val (.int d2), .val (.ref b1), .val (.ref b2), .val (.ref x1), .val (.ref x2), .val (.int (1 : Int32)), .val (.int (1 : Int32))] [(.int (1 : Int32))])) _
    refine XS.goto X.here hx rfl (pc0 := 246) (pc' := 250) rfl (hb hby at_246) (by decide) (by decide) ?_
    exact kt
theorem pn_0 : plainName "com/example/tracewarden/tracewarden/net/MarkingStrictlyCoversPinLaw" = true := by first | (simp [plainName, overriddenIn]; done) | decide +kernel
theorem ef_0 (m : MethodId) (i0 : Int64) (i1 : Int64) (i2 : Int64) (i3 : Int32) : entryFrame m #[(.long i0), (.long i1), (.long i2), (.int i3)] maxLocals = (mkF m 0 #[.val (.long i0), .second, .val (.long i1), .second, .val (.long i2), .second, .val (.int i3), .unset, .unset, .unset, .unset, .unset, .unset, .unset, .unset, .unset, .unset, .unset, .unset, .unset] []) := by first | (simp [entryFrame, mkF, argsToLocals, Value.category, maxLocals]; done) | rfl
def Q0 (n0 : Nat) (v : Option Value) (L : List Loc) : Prop := v = some (.int (1 : Int32)) ∧ Fr n0 L
set_option maxRecDepth 65536 in
set_option maxHeartbeats 40000000 in
theorem rm0 (l : Launch) (Z : State) (a0 : Array Value) (hw : ∀ d ∈ tables_1, d.before a0 Z = true) (ws : List Jvm.Cond) (i0 : Int64) (i1 : Int64) (i2 : Int64) (i3 : Int32) (h0 : Heap) (n0 : Nat) (Z0 : n0 ≤ h0.size) :
    MetFree l x (head1 (Jvm.Cond.code x code maxLocals ret :: ws) room_1) (fun a U => a = #[(.long i0), (.long i1), (.long i2), (.int i3)] ∧ Z.Warmed39 U.vm ∧ U.heap = h0) (fun _ _ _ _ _ => True) (fun _ U o U' => ∃ v L, o = .returned v ∧ Q0 n0 v L ∧ FrameEnd U o U' L room_1.cells room_1.slots) := by
  refine MetFree.of_bodySF (plainFor_of_name pn_0) hisR ?_
  intro p e s m args below meth c s₁ Bd hml0 hP hK
  obtain ⟨rfl, hZ, hh⟩ := hP
  have hx := Bd.exec
  have hby := Bd.bytes
  have hml : c.maxLocals = 20 := hml0
  have hown : s.vm.findClass "com/example/tracewarden/tracewarden/net/MarkingStrictlyCoversPinLaw" = some m.cls := findClass_of_methodNamed Bd.named
  have X0 : Stand p l e room_1 s m #[(.long i0), (.long i1), (.long i2), (.int i3)] below meth c s₁ [] 0 0 := Stand.of_body Bd
  have e0 : s₁.heap = h0 := by rw [← hh, Bd.state]; rfl
  have N0 := Fr.nil n0
  have pre0 : ∀ t, Steps p.tables e below (s₁.setTop (mkF m 0 #[.val (.long i0), .second, .val (.long i1), .second, .val (.long i2), .second, .val (.int i3), .unset, .unset, .unset, .unset, .unset, .unset, .unset, .unset, .unset, .unset, .unset, .unset, .unset] [])) t → Steps p.tables e below (s₁.setTop (entryFrame m #[(.long i0), (.long i1), (.long i2), (.int i3)] maxLocals)) t := fun t k => castTop (ef_0 m i0 i1 i2 i3) k
  have pdI : parseMethodDescriptor "([I)V" = some ⟨[(.array .int)], none⟩ := by decide +kernel
  have pdT : parseMethodDescriptor "(Lcom/example/tracewarden/tracewarden/net/Marking;)Z" = some ⟨[(.object "com/example/tracewarden/tracewarden/net/Marking")], some .boolean⟩ := by decide +kernel
  obtain ⟨n, hn, qn⟩ := own_mask i3
  obtain ⟨c0, qc0⟩ : ∃ z, z = (((i0.toUInt64 >>> ((32 : Int32) &&& 0x3f).toInt64.toUInt64).toInt64).toInt32) := ⟨_, rfl⟩
  obtain ⟨d0, qd0⟩ : ∃ z, z = (i0.toInt32) := ⟨_, rfl⟩
  obtain ⟨c1, qc1⟩ : ∃ z, z = (((i1.toUInt64 >>> ((32 : Int32) &&& 0x3f).toInt64.toUInt64).toInt64).toInt32) := ⟨_, rfl⟩
  obtain ⟨d1, qd1⟩ : ∃ z, z = (i1.toInt32) := ⟨_, rfl⟩
  obtain ⟨c2, qc2⟩ : ∃ z, z = (((i2.toUInt64 >>> ((32 : Int32) &&& 0x3f).toInt64.toUInt64).toInt64).toInt32) := ⟨_, rfl⟩
  obtain ⟨d2, qd2⟩ : ∃ z, z = (i2.toInt32) := ⟨_, rfl⟩
  have st0 : ∀ target, Steps p.tables e below (s₁.setTop (mkF m 41 #[.val (.long i0), .second, .val (.long i1), .second, .val (.long i2), .second, .val (.int i3), .val (.int (Int32.ofNat n)), .val (.int c0), .val (.int d0), .val (.int c1), .val (.int d1), .val (.int c2), .val (.int d2), .unset, .unset, .unset, .unset, .unset, .unset] [])) target → Steps p.tables e below (s₁.setTop (mkF m 0 #[.val (.long i0), .second, .val (.long i1), .second, .val (.long i2), .second, .val (.int i3), .unset, .unset, .unset, .unset, .unset, .unset, .unset, .unset, .unset, .unset, .unset, .unset, .unset] [])) target := by
    intro target kt
    rw [← qn, qc0, qd0, qc1, qd1, qc2, qd2] at kt
    show Steps p.tables e below (s₁.setTop (mkF m 0 #[.val (.long i0), .second, .val (.long i1), .second, .val (.long i2), .second, .val (.int i3), .unset, .unset, .unset, .unset, .unset, .unset, .unset, .unset, .unset, .unset, .unset, .unset, .unset] [])) _
    refine XS.iload X0.here hx rfl (hb hby at_0) rfl ?_
    show Steps p.tables e below (s₁.setTop (mkF m 2 #[.val (.long i0), .second, .val (.long i1), .second, .val (.long i2), .second, .val (.int i3), .unset, .unset, .unset, .unset, .unset, .unset, .unset, .unset, .unset, .unset, .unset, .unset, .unset] [(.int i3)])) _
    refine XS.iconst X0.here hx rfl (hb hby at_2) ?_
    show Steps p.tables e below (s₁.setTop (mkF m 3 #[.val (.long i0), .second, .val (.long i1), .second, .val (.long i2), .second, .val (.int i3), .unset, .unset, .unset, .unset, .unset, .unset, .unset, .unset, .unset, .unset, .unset, .unset, .unset] [(.int (3 : Int32)), (.int i3)])) _
    refine XS.iand X0.here hx rfl (hb hby at_3) rfl ?_
    show Steps p.tables e below (s₁.setTop (mkF m 4 #[.val (.long i0), .second, .val (.long i1), .second, .val (.long i2), .second, .val (.int i3), .unset, .unset, .unset, .unset, .unset, .unset, .unset, .unset, .unset, .unset, .unset, .unset, .unset] [(.int (i3 &&& (3 : Int32)))])) _
    refine XS.istore X0.here hx rfl (hb hby at_4) rfl (l' := #[.val (.long i0), .second, .val (.long i1), .second, .val (.long i2), .second, .val (.int i3), .val (.int (i3 &&& (3 : Int32))), .unset, .unset, .unset, .unset, .unset, .unset, .unset, .unset, .unset, .unset, .unset, .unset]) rfl ?_
    show Steps p.tables e below (s₁.setTop (mkF m 6 #[.val (.long i0), .second, .val (.long i1), .second, .val (.long i2), .second, .val (.int i3), .val (.int (i3 &&& (3 : Int32))), .unset, .unset, .unset, .unset, .unset, .unset, .unset, .unset, .unset, .unset, .unset, .unset] [])) _
    refine XS.lloadN X0.here hx rfl (hb hby at_6) rfl ?_
    show Steps p.tables e below (s₁.setTop (mkF m 7 #[.val (.long i0), .second, .val (.long i1), .second, .val (.long i2), .second, .val (.int i3), .val (.int (i3 &&& (3 : Int32))), .unset, .unset, .unset, .unset, .unset, .unset, .unset, .unset, .unset, .unset, .unset, .unset] [(.long i0)])) _
    refine XS.bipush X0.here hx rfl (hb hby at_7) ?_
    show Steps p.tables e below (s₁.setTop (mkF m 9 #[.val (.long i0), .second, .val (.long i1), .second, .val (.long i2), .second, .val (.int i3), .val (.int (i3 &&& (3 : Int32))), .unset, .unset, .unset, .unset, .unset, .unset, .unset, .unset, .unset, .unset, .unset, .unset] [(.int (32 : Int32)), (.long i0)])) _
    refine XS.lushr X0.here hx rfl (hb hby at_9) rfl ?_
    show Steps p.tables e below (s₁.setTop (mkF m 10 #[.val (.long i0), .second, .val (.long i1), .second, .val (.long i2), .second, .val (.int i3), .val (.int (i3 &&& (3 : Int32))), .unset, .unset, .unset, .unset, .unset, .unset, .unset, .unset, .unset, .unset, .unset, .unset] [(.long ((i0.toUInt64 >>> ((32 : Int32) &&& 0x3f).toInt64.toUInt64).toInt64))])) _
    refine XS.l2i X0.here hx rfl (hb hby at_10) rfl ?_
    show Steps p.tables e below (s₁.setTop (mkF m 11 #[.val (.long i0), .second, .val (.long i1), .second, .val (.long i2), .second, .val (.int i3), .val (.int (i3 &&& (3 : Int32))), .unset, .unset, .unset, .unset, .unset, .unset, .unset, .unset, .unset, .unset, .unset, .unset] [(.int (((i0.toUInt64 >>> ((32 : Int32) &&& 0x3f).toInt64.toUInt64).toInt64).toInt32))])) _
    refine XS.istore X0.here hx rfl (hb hby at_11) rfl (l' := #[.val (.long i0), .second, .val (.long i1), .second, .val (.long i2), .second, .val (.int i3), .val (.int (i3 &&& (3 : Int32))), .val (.int (((i0.toUInt64 >>> ((32 : Int32) &&& 0x3f).toInt64.toUInt64).toInt64).toInt32)), .unset, .unset, .unset, .unset, .unset, .unset, .unset, .unset, .unset, .unset, .unset]) rfl ?_
    show Steps p.tables e below (s₁.setTop (mkF m 13 #[.val (.long i0), .second, .val (.long i1), .second, .val (.long i2), .second, .val (.int i3), .val (.int (i3 &&& (3 : Int32))), .val (.int (((i0.toUInt64 >>> ((32 : Int32) &&& 0x3f).toInt64.toUInt64).toInt64).toInt32)), .unset, .unset, .unset, .unset, .unset, .unset, .unset, .unset, .unset, .unset, .unset] [])) _
    refine XS.lloadN X0.here hx rfl (hb hby at_13) rfl ?_
    show Steps p.tables e below (s₁.setTop (mkF m 14 #[.val (.long i0), .second, .val (.long i1), .second, .val (.long i2), .second, .val (.int i3), .val (.int (i3 &&& (3 : Int32))), .val (.int (((i0.toUInt64 >>> ((32 : Int32) &&& 0x3f).toInt64.toUInt64).toInt64).toInt32)), .unset, .unset, .unset, .unset, .unset, .unset, .unset, .unset, .unset, .unset, .unset] [(.long i0)])) _
    refine XS.l2i X0.here hx rfl (hb hby at_14) rfl ?_
    show Steps p.tables e below (s₁.setTop (mkF m 15 #[.val (.long i0), .second, .val (.long i1), .second, .val (.long i2), .second, .val (.int i3), .val (.int (i3 &&& (3 : Int32))), .val (.int (((i0.toUInt64 >>> ((32 : Int32) &&& 0x3f).toInt64.toUInt64).toInt64).toInt32)), .unset, .unset, .unset, .unset, .unset, .unset, .unset, .unset, .unset, .unset, .unset] [(.int (i0.toInt32))])) _
    refine XS.istore X0.here hx rfl (hb hby at_15) rfl (l' := #[.val (.long i0), .second, .val (.long i1), .second, .val (.long i2), .second, .val (.int i3), .val (.int (i3 &&& (3 : Int32))), .val (.int (((i0.toUInt64 >>> ((32 : Int32) &&& 0x3f).toInt64.toUInt64).toInt64).toInt32)), .val (.int (i0.toInt32)), .unset, .unset, .unset, .unset, .unset, .unset, .unset, .unset, .unset, .unset]) rfl ?_
    show Steps p.tables e below (s₁.setTop (mkF m 17 #[.val (.long i0), .second, .val (.long i1), .second, .val (.long i2), .second, .val (.int i3), .val (.int (i3 &&& (3 : Int32))), .val (.int (((i0.toUInt64 >>> ((32 : Int32) &&& 0x3f).toInt64.toUInt64).toInt64).toInt32)), .val (.int (i0.toInt32)), .unset, .unset, .unset, .unset, .unset, .unset, .unset, .unset, .unset, .unset] [])) _
    refine XS.lloadN X0.here hx rfl (hb hby at_17) rfl ?_
    show Steps p.tables e below (s₁.setTop (mkF m 18 #[.val (.long i0), .second, .val (.long i1), .second, .val (.long i2), .second, .val (.int i3), .val (.int (i3 &&& (3 : Int32))), .val (.int (((i0.toUInt64 >>> ((32 : Int32) &&& 0x3f).toInt64.toUInt64).toInt64).toInt32)), .val (.int (i0.toInt32)), .unset, .unset, .unset, .unset, .unset, .unset, .unset, .unset, .unset, .unset] [(.long i1)])) _
    refine XS.bipush X0.here hx rfl (hb hby at_18) ?_
    show Steps p.tables e below (s₁.setTop (mkF m 20 #[.val (.long i0), .second, .val (.long i1), .second, .val (.long i2), .second, .val (.int i3), .val (.int (i3 &&& (3 : Int32))), .val (.int (((i0.toUInt64 >>> ((32 : Int32) &&& 0x3f).toInt64.toUInt64).toInt64).toInt32)), .val (.int (i0.toInt32)), .unset, .unset, .unset, .unset, .unset, .unset, .unset, .unset, .unset, .unset] [(.int (32 : Int32)), (.long i1)])) _
    refine XS.lushr X0.here hx rfl (hb hby at_20) rfl ?_
    show Steps p.tables e below (s₁.setTop (mkF m 21 #[.val (.long i0), .second, .val (.long i1), .second, .val (.long i2), .second, .val (.int i3), .val (.int (i3 &&& (3 : Int32))), .val (.int (((i0.toUInt64 >>> ((32 : Int32) &&& 0x3f).toInt64.toUInt64).toInt64).toInt32)), .val (.int (i0.toInt32)), .unset, .unset, .unset, .unset, .unset, .unset, .unset, .unset, .unset, .unset] [(.long ((i1.toUInt64 >>> ((32 : Int32) &&& 0x3f).toInt64.toUInt64).toInt64))])) _
    refine XS.l2i X0.here hx rfl (hb hby at_21) rfl ?_
    show Steps p.tables e below (s₁.setTop (mkF m 22 #[.val (.long i0), .second, .val (.long i1), .second, .val (.long i2), .second, .val (.int i3), .val (.int (i3 &&& (3 : Int32))), .val (.int (((i0.toUInt64 >>> ((32 : Int32) &&& 0x3f).toInt64.toUInt64).toInt64).toInt32)), .val (.int (i0.toInt32)), .unset, .unset, .unset, .unset, .unset, .unset, .unset, .unset, .unset, .unset] [(.int (((i1.toUInt64 >>> ((32 : Int32) &&& 0x3f).toInt64.toUInt64).toInt64).toInt32))])) _
    refine XS.istore X0.here hx rfl (hb hby at_22) rfl (l' := #[.val (.long i0), .second, .val (.long i1), .second, .val (.long i2), .second, .val (.int i3), .val (.int (i3 &&& (3 : Int32))), .val (.int (((i0.toUInt64 >>> ((32 : Int32) &&& 0x3f).toInt64.toUInt64).toInt64).toInt32)), .val (.int (i0.toInt32)), .val (.int (((i1.toUInt64 >>> ((32 : Int32) &&& 0x3f).toInt64.toUInt64).toInt64).toInt32)), .unset, .unset, .unset, .unset, .unset, .unset, .unset, .unset, .unset]) rfl ?_
    show Steps p.tables e below (s₁.setTop (mkF m 24 #[.val (.long i0), .second, .val (.long i1), .second, .val (.long i2), .second, .val (.int i3), .val (.int (i3 &&& (3 : Int32))), .val (.int (((i0.toUInt64 >>> ((32 : Int32) &&& 0x3f).toInt64.toUInt64).toInt64).toInt32)), .val (.int (i0.toInt32)), .val (.int (((i1.toUInt64 >>> ((32 : Int32) &&& 0x3f).toInt64.toUInt64).toInt64).toInt32)), .unset, .unset, .unset, .unset, .unset, .unset, .unset, .unset, .unset] [])) _
    refine XS.lloadN X0.here hx rfl (hb hby at_24) rfl ?_
    show Steps p.tables e below (s₁.setTop (mkF m 25 #[.val (.long i0), .second, .val (.long i1), .second, .val (.long i2), .second, .val (.int i3), .val (.int (i3 &&& (3 : Int32))), .val (.int (((i0.toUInt64 >>> ((32 : Int32) &&& 0x3f).toInt64.toUInt64).toInt64).toInt32)), .val (.int (i0.toInt32)), .val (.int (((i1.toUInt64 >>> ((32 : Int32) &&& 0x3f).toInt64.toUInt64).toInt64).toInt32)), .unset, .unset, .unset, .unset, .unset, .unset, .unset, .unset, .unset] [(.long i1)])) _
    refine XS.l2i X0.here hx rfl (hb hby at_25) rfl ?_
    show Steps p.tables e below (s₁.setTop (mkF m 26 #[.val (.long i0), .second, .val (.long i1), .second, .val (.long i2), .second, .val (.int i3), .val (.int (i3 &&& (3 : Int32))), .val (.int (((i0.toUInt64 >>> ((32 : Int32) &&& 0x3f).toInt64.toUInt64).toInt64).toInt32)), .val (.int (i0.toInt32)), .val (.int (((i1.toUInt64 >>> ((32 : Int32) &&& 0x3f).toInt64.toUInt64).toInt64).toInt32)), .unset, .unset, .unset, .unset, .unset, .unset, .unset, .unset, .unset] [(.int (i1.toInt32))])) _
    refine XS.istore X0.here hx rfl (hb hby at_26) rfl (l' := #[.val (.long i0), .second, .val (.long i1), .second, .val (.long i2), .second, .val (.int i3), .val (.int (i3 &&& (3 : Int32))), .val (.int (((i0.toUInt64 >>> ((32 : Int32) &&& 0x3f).toInt64.toUInt64).toInt64).toInt32)), .val (.int (i0.toInt32)), .val (.int (((i1.toUInt64 >>> ((32 : Int32) &&& 0x3f).toInt64.toUInt64).toInt64).toInt32)), .val (.int (i1.toInt32)), .unset, .unset, .unset, .unset, .unset, .unset, .unset, .unset]) rfl ?_
    show Steps p.tables e below (s₁.setTop (mkF m 28 #[.val (.long i0), .second, .val (.long i1), .second, .val (.long i2), .second, .val (.int i3), .val (.int (i3 &&& (3 : Int32))), .val (.int (((i0.toUInt64 >>> ((32 : Int32) &&& 0x3f).toInt64.toUInt64).toInt64).toInt32)), .val (.int (i0.toInt32)), .val (.int (((i1.toUInt64 >>> ((32 : Int32) &&& 0x3f).toInt64.toUInt64).toInt64).toInt32)), .val (.int (i1.toInt32)), .unset, .unset, .unset, .unset, .unset, .unset, .unset, .unset] [])) _
    refine XS.lload X0.here hx rfl (hb hby at_28) rfl ?_
    show Steps p.tables e below (s₁.setTop (mkF m 30 #[.val (.long i0), .second, .val (.long i1), .second, .val (.long i2), .second, .val (.int i3), .val (.int (i3 &&& (3 : Int32))), .val (.int (((i0.toUInt64 >>> ((32 : Int32) &&& 0x3f).toInt64.toUInt64).toInt64).toInt32)), .val (.int (i0.toInt32)), .val (.int (((i1.toUInt64 >>> ((32 : Int32) &&& 0x3f).toInt64.toUInt64).toInt64).toInt32)), .val (.int (i1.toInt32)), .unset, .unset, .unset, .unset, .unset, .unset, .unset, .unset] [(.long i2)])) _
    refine XS.bipush X0.here hx rfl (hb hby at_30) ?_
    show Steps p.tables e below (s₁.setTop (mkF m 32 #[.val (.long i0), .second, .val (.long i1), .second, .val (.long i2), .second, .val (.int i3), .val (.int (i3 &&& (3 : Int32))), .val (.int (((i0.toUInt64 >>> ((32 : Int32) &&& 0x3f).toInt64.toUInt64).toInt64).toInt32)), .val (.int (i0.toInt32)), .val (.int (((i1.toUInt64 >>> ((32 : Int32) &&& 0x3f).toInt64.toUInt64).toInt64).toInt32)), .val (.int (i1.toInt32)), .unset, .unset, .unset, .unset, .unset, .unset, .unset, .unset] [(.int (32 : Int32)), (.long i2)])) _
    refine XS.lushr X0.here hx rfl (hb hby at_32) rfl ?_
    show Steps p.tables e below (s₁.setTop (mkF m 33 #[.val (.long i0), .second, .val (.long i1), .second, .val (.long i2), .second, .val (.int i3), .val (.int (i3 &&& (3 : Int32))), .val (.int (((i0.toUInt64 >>> ((32 : Int32) &&& 0x3f).toInt64.toUInt64).toInt64).toInt32)), .val (.int (i0.toInt32)), .val (.int (((i1.toUInt64 >>> ((32 : Int32) &&& 0x3f).toInt64.toUInt64).toInt64).toInt32)), .val (.int (i1.toInt32)), .unset, .unset, .unset, .unset, .unset, .unset, .unset, .unset] [(.long ((i2.toUInt64 >>> ((32 : Int32) &&& 0x3f).toInt64.toUInt64).toInt64))])) _
    refine XS.l2i X0.here hx rfl (hb hby at_33) rfl ?_
    show Steps p.tables e below (s₁.setTop (mkF m 34 #[.val (.long i0), .second, .val (.long i1), .second, .val (.long i2), .second, .val (.int i3), .val (.int (i3 &&& (3 : Int32))), .val (.int (((i0.toUInt64 >>> ((32 : Int32) &&& 0x3f).toInt64.toUInt64).toInt64).toInt32)), .val (.int (i0.toInt32)), .val (.int (((i1.toUInt64 >>> ((32 : Int32) &&& 0x3f).toInt64.toUInt64).toInt64).toInt32)), .val (.int (i1.toInt32)), .unset, .unset, .unset, .unset, .unset, .unset, .unset, .unset] [(.int (((i2.toUInt64 >>> ((32 : Int32) &&& 0x3f).toInt64.toUInt64).toInt64).toInt32))])) _
    refine XS.istore X0.here hx rfl (hb hby at_34) rfl (l' := #[.val (.long i0), .second, .val (.long i1), .second, .val (.long i2), .second, .val (.int i3), .val (.int (i3 &&& (3 : Int32))), .val (.int (((i0.toUInt64 >>> ((32 : Int32) &&& 0x3f).toInt64.toUInt64).toInt64).toInt32)), .val (.int (i0.toInt32)), .val (.int (((i1.toUInt64 >>> ((32 : Int32) &&& 0x3f).toInt64.toUInt64).toInt64).toInt32)), .val (.int (i1.toInt32)), .val (.int (((i2.toUInt64 >>> ((32 : Int32) &&& 0x3f).toInt64.toUInt64).toInt64).toInt32)), .unset, .unset, .unset, .unset, .unset, .unset, .unset]) rfl ?_
    show Steps p.tables e below (s₁.setTop (mkF m 36 #[.val (.long i0), .second, .val (.long i1), .second, .val (.long i2), .second, .val (.int i3), .val (.int (i3 &&& (3 : Int32))), .val (.int (((i0.toUInt64 >>> ((32 : Int32) &&& 0x3f).toInt64.toUInt64).toInt64).toInt32)), .val (.int (i0.toInt32)), .val (.int (((i1.toUInt64 >>> ((32 : Int32) &&& 0x3f).toInt64.toUInt64).toInt64).toInt32)), .val (.int (i1.toInt32)), .val (.int (((i2.toUInt64 >>> ((32 : Int32) &&& 0x3f).toInt64.toUInt64).toInt64).toInt32)), .unset, .unset, .unset, .unset, .unset, .unset, .unset] [])) _
    refine XS.lload X0.here hx rfl (hb hby at_36) rfl ?_
    show Steps p.tables e below (s₁.setTop (mkF m 38 #[.val (.long i0), .second, .val (.long i1), .second, .val (.long i2), .second, .val (.int i3), .val (.int (i3 &&& (3 : Int32))), .val (.int (((i0.toUInt64 >>> ((32 : Int32) &&& 0x3f).toInt64.toUInt64).toInt64).toInt32)), .val (.int (i0.toInt32)), .val (.int (((i1.toUInt64 >>> ((32 : Int32) &&& 0x3f).toInt64.toUInt64).toInt64).toInt32)), .val (.int (i1.toInt32)), .val (.int (((i2.toUInt64 >>> ((32 : Int32) &&& 0x3f).toInt64.toUInt64).toInt64).toInt32)), .unset, .unset, .unset, .unset, .unset, .unset, .unset] [(.long i2)])) _
    refine XS.l2i X0.here hx rfl (hb hby at_38) rfl ?_
    show Steps p.tables e below (s₁.setTop (mkF m 39 #[.val (.long i0), .second, .val (.long i1), .second, .val (.long i2), .second, .val (.int i3), .val (.int (i3 &&& (3 : Int32))), .val (.int (((i0.toUInt64 >>> ((32 : Int32) &&& 0x3f).toInt64.toUInt64).toInt64).toInt32)), .val (.int (i0.toInt32)), .val (.int (((i1.toUInt64 >>> ((32 : Int32) &&& 0x3f).toInt64.toUInt64).toInt64).toInt32)), .val (.int (i1.toInt32)), .val (.int (((i2.toUInt64 >>> ((32 : Int32) &&& 0x3f).toInt64.toUInt64).toInt64).toInt32)), .unset, .unset, .unset, .unset, .unset, .unset, .unset] [(.int (i2.toInt32))])) _
    refine XS.istore X0.here hx rfl (hb hby at_39) rfl (l' := #[.val (.long i0), .second, .val (.long i1), .second, .val (.long i2), .second, .val (.int i3), .val (.int (i3 &&& (3 : Int32))), .val (.int (((i0.toUInt64 >>> ((32 : Int32) &&& 0x3f).toInt64.toUInt64).toInt64).toInt32)), .val (.int (i0.toInt32)), .val (.int (((i1.toUInt64 >>> ((32 : Int32) &&& 0x3f).toInt64.toUInt64).toInt64).toInt32)), .val (.int (i1.toInt32)), .val (.int (((i2.toUInt64 >>> ((32 : Int32) &&& 0x3f).toInt64.toUInt64).toInt64).toInt32)), .val (.int (i2.toInt32)), .unset, .unset, .unset, .unset, .unset, .unset]) rfl ?_
    exact kt
  obtain ⟨T1, h1, X1, e1, E1, A1, st1⟩ := own_newI X0 hx hZ (hw _ (List.mem_of_getElem? (i := 0) rfl)) e0 (n := n) (by omega) (g := (mkF m 43 #[.val (.long i0), .second, .val (.long i1), .second, .val (.long i2), .second, .val (.int i3), .val (.int (Int32.ofNat n)), .val (.int c0), .val (.int d0), .val (.int c1), .val (.int d1), .val (.int c2), .val (.int d2), .unset, .unset, .unset, .unset, .unset, .unset] [(.int (Int32.ofNat n))])) rfl (hb hby at_43) rfl (cap := 3) hn (by decide) (by decide)
  obtain ⟨b1, gb1⟩ : ∃ z, z = h0.size := ⟨_, rfl⟩
  rw [← gb1] at A1 st1
  have g_b1 : n0 ≤ b1 := Nat.le_trans Z0 (Nat.le_of_eq gb1.symm)
  have Z1 : n0 ≤ h1.size := Nat.le_trans Z0 E1.1
  obtain ⟨T2, h2, X2, e2, E2, B2, st2⟩ := own_newI X1 hx hZ (hw _ (List.mem_of_getElem? (i := 0) rfl)) e1 (n := n) (by omega) (g := (mkF m 49 #[.val (.long i0), .second, .val (.long i1), .second, .val (.long i2), .second, .val (.int i3), .val (.int (Int32.ofNat n)), .val (.int c0), .val (.int d0), .val (.int c1), .val (.int d1), .val (.int c2), .val (.int d2), .val (.ref b1), .unset, .unset, .unset, .unset, .unset] [(.int (Int32.ofNat n))])) rfl (hb hby at_49) rfl (cap := 3) hn (by decide) (by decide)
  obtain ⟨b2, gb2⟩ : ∃ z, z = h1.size := ⟨_, rfl⟩
  rw [← gb2] at B2 st2
  have g_b2 : n0 ≤ b2 := Nat.le_trans Z1 (Nat.le_of_eq gb2.symm)
  have Z2 : n0 ≤ h2.size := Nat.le_trans Z1 E2.1
  have hne : b1 ≠ b2 := Nat.ne_of_lt (gb2 ▸ A1.lt)
  have A2 := A1.ext E2
  have hn' : n = 0 ∨ n = 1 ∨ n = 2 ∨ n = 3 := by omega
  obtain ⟨T3, h3, M3, X3, e3, N3, Z3, A3, B3, st3⟩ : ∃ (T' : State) (h' : Heap) (L' : List Loc), Stand p l e room_1 s m #[(.long i0), (.long i1), (.long i2), (.int i3)] below meth c T' L' 2 6 ∧ T'.heap = h' ∧ Fr n0 L' ∧ n0 ≤ h'.size ∧ own_IA Z h' b1 n (own_f c0 c1 c2) ∧ own_IA Z h' b2 n (own_f d0 d1 d2) ∧
      ∀ target, Steps p.tables e below (T'.setTop (mkF m 106 #[.val (.long i0), .second, .val (.long i1), .second, .val (.long i2), .second, .val (.int i3), .val (.int (Int32.ofNat n)), .val (.int c0), .val (.int d0), .val (.int c1), .val (.int d1), .val (.int c2), .val (.int d2), .val (.ref b1), .val (.ref b2), .unset, .unset, .unset, .unset] [])) target → Steps p.tables e below (T2.setTop (mkF m 53 #[.val (.long i0), .second, .val (.long i1), .second, .val (.long i2), .second, .val (.int i3), .val (.int (Int32.ofNat n)), .val (.int c0), .val (.int d0), .val (.int c1), .val (.int d1), .val (.int c2), .val (.int d2), .val (.ref b1), .val (.ref b2), .unset, .unset, .unset, .unset] [])) target := by
    rcases hn' with rfl | rfl | rfl | rfl
    · exact own_fill0 i0 i1 i2 i3 c0 d0 c1 d1 c2 d2 b1 b2 X2 hx hZ hw hby hown e2 Z2 N0 g_b1 g_b2 hne A2 B2
    · exact own_fill1 i0 i1 i2 i3 c0 d0 c1 d1 c2 d2 b1 b2 X2 hx hZ hw hby hown e2 Z2 N0 g_b1 g_b2 hne A2 B2
    · exact own_fill2 i0 i1 i2 i3 c0 d0 c1 d1 c2 d2 b1 b2 X2 hx hZ hw hby hown e2 Z2 N0 g_b1 g_b2 hne A2 B2
    · exact own_fill3 i0 i1 i2 i3 c0 d0 c1 d1 c2 d2 b1 b2 X2 hx hZ hw hby hown e2 Z2 N0 g_b1 g_b2 hne A2 B2
  obtain ⟨U5, u5, Y5, f5, E5, C5, D5, -, sn5⟩ := newO X3 hx hZ hown (hw _ (List.mem_of_getElem? (i := 1) rfl)) (hw _ (List.mem_of_getElem? (i := 2) rfl)) (hw _ (List.mem_of_getElem? (i := 3) rfl)) e3 (g := (mkF m 106 #[.val (.long i0), .second, .val (.long i1), .second, .val (.long i2), .second, .val (.int i3), .val (.int (Int32.ofNat n)), .val (.int c0), .val (.int d0), .val (.int c1), .val (.int d1), .val (.int c2), .val (.int d2), .val (.ref b1), .val (.ref b2), .unset, .unset, .unset, .unset] [])) rfl (hb hby at_106) (by decide) (by decide)
  obtain ⟨x1, gx5⟩ : ∃ z, z = h3.size := ⟨_, rfl⟩
  rw [← gx5] at C5 D5 sn5
  have Ft5 : Fld Z u5 x1 "com/example/tracewarden/tracewarden/net/Marking" "tokens" "[I" .null := D5 (Or.inr (hw _ (List.mem_of_getElem? (i := 11) rfl))) (ty := (.array .int)) (by decide)
  have Fh5 : Fld Z u5 x1 "com/example/tracewarden/tracewarden/net/Marking" "hash" "I" (.int (0 : Int32)) := D5 (Or.inr (hw _ (List.mem_of_getElem? (i := 26) rfl))) (ty := .int) (by decide)
  have g_x1 : n0 ≤ x1 := Nat.le_trans Z3 (Nat.le_of_eq gx5.symm)
  have Zu5 : n0 ≤ u5.size := Nat.le_trans Z3 E5.1
  have ne15 : b1 ≠ x1 := Nat.ne_of_lt (gx5 ▸ A3.lt)
  have ne25 : b2 ≠ x1 := Nat.ne_of_lt (gx5 ▸ B3.lt)
  obtain ⟨_, _, ⟨V5, L5v, k5v, n5v⟩, -, W5, ⟨Lc5, hQ5, l5v, y5v, z5v⟩, si5⟩ := Y5.specialBack hx (y := (⟨"com/example/tracewarden/tracewarden/net/Marking", "<init>", "([I)V"⟩ : MethodName)) rfl hown (mvT hZ (hw _ (List.mem_of_getElem? (i := 4) rfl))) (mvT hZ (hw _ (List.mem_of_getElem? (i := 5) rfl))) (mvT hZ (hw _ (List.mem_of_getElem? (i := 6) rfl))) (by decide) (backOf (W := 1) (rm1 l Z a0 hw [] x1 b1 .null (.int 0) n (own_f c0 c1 c2) (by omega) u5 n0 Zu5 C5 Ft5 g_x1 Fh5 (A3.ext E5) ne15) hZ (hw _ (List.mem_of_getElem? (i := 6) rfl)) (hw _ (List.mem_of_getElem? (i := 3) rfl)) (by decide) (by decide)) (g := (mkF m 112 #[.val (.long i0), .second, .val (.long i1), .second, .val (.long i2), .second, .val (.int i3), .val (.int (Int32.ofNat n)), .val (.int c0), .val (.int d0), .val (.int c1), .val (.int d1), .val (.int c2), .val (.int d2), .val (.ref b1), .val (.ref b2), .unset, .unset, .unset, .unset] [(.ref b1), (.ref x1), (.ref x1)])) rfl (by rw [hml]; rfl) (Steps.refl _) (a := x1) (argsL := [(.ref b1)]) (rest := [(.ref x1)]) (lenOf pdI rfl) rfl (by show 2 * 0 + _ ≤ _; exact Nat.le_of_eq rfl) (hb hby at_112) (fun _ _ => ⟨rfl, f5, (by decide : 3 + 0 ≤ _), (by decide : 8 + 0 ≤ _)⟩)
  dsimp only [Pt.U, Pt.locs, Pt.cells, Pt.slots] at W5 l5v y5v z5v si5 hQ5
  subst l5v y5v z5v
  obtain ⟨rfl, Nq5, K5, Ex5, Fx5⟩ := hQ5
  have Nn5 := Fr.app N3 Nq5
  have Zv5 : n0 ≤ V5.heap.size := Nat.le_trans Zu5 K5.1
  have Av5 := (A3.ext E5).keep K5 (ninS ne15 nin0)
  have Bv5 := (B3.ext E5).keep K5 (ninS ne25 nin0)
  obtain ⟨U6, u6, Y6, f6, E6, C6, D6, -, sn6⟩ := newO W5 hx hZ hown (hw _ (List.mem_of_getElem? (i := 1) rfl)) (hw _ (List.mem_of_getElem? (i := 2) rfl)) (hw _ (List.mem_of_getElem? (i := 3) rfl)) rfl (g := (mkF m 117 #[.val (.long i0), .second, .val (.long i1), .second, .val (.long i2), .second, .val (.int i3), .val (.int (Int32.ofNat n)), .val (.int c0), .val (.int d0), .val (.int c1), .val (.int d1), .val (.int c2), .val (.int d2), .val (.ref b1), .val (.ref b2), .val (.ref x1), .unset, .unset, .unset] [])) rfl (hb hby at_117) (by decide) (by decide)
  obtain ⟨x2, gx6⟩ : ∃ z, z = V5.heap.size := ⟨_, rfl⟩
  rw [← gx6] at C6 D6 sn6
  have Ft6 : Fld Z u6 x2 "com/example/tracewarden/tracewarden/net/Marking" "tokens" "[I" .null := D6 (Or.inr (hw _ (List.mem_of_getElem? (i := 11) rfl))) (ty := (.array .int)) (by decide)
  have Fh6 : Fld Z u6 x2 "com/example/tracewarden/tracewarden/net/Marking" "hash" "I" (.int (0 : Int32)) := D6 (Or.inr (hw _ (List.mem_of_getElem? (i := 26) rfl))) (ty := .int) (by decide)
  have g_x2 : n0 ≤ x2 := Nat.le_trans Zv5 (Nat.le_of_eq gx6.symm)
  have Zu6 : n0 ≤ u6.size := Nat.le_trans Zv5 E6.1
  have ne16 : b1 ≠ x2 := Nat.ne_of_lt (gx6 ▸ Av5.lt)
  have ne26 : b2 ≠ x2 := Nat.ne_of_lt (gx6 ▸ Bv5.lt)
  obtain ⟨_, _, ⟨V6, L6v, k6v, n6v⟩, -, W6, ⟨Lc6, hQ6, l6v, y6v, z6v⟩, si6⟩ := Y6.specialBack hx (y := (⟨"com/example/tracewarden/tracewarden/net/Marking", "<init>", "([I)V"⟩ : MethodName)) rfl hown (mvT hZ (hw _ (List.mem_of_getElem? (i := 4) rfl))) (mvT hZ (hw _ (List.mem_of_getElem? (i := 5) rfl))) (mvT hZ (hw _ (List.mem_of_getElem? (i := 6) rfl))) (by decide) (backOf (W := 1) (rm1 l Z a0 hw [] x2 b2 .null (.int 0) n (own_f d0 d1 d2) (by omega) u6 n0 Zu6 C6 Ft6 g_x2 Fh6 (Bv5.ext E6) ne26) hZ (hw _ (List.mem_of_getElem? (i := 6) rfl)) (hw _ (List.mem_of_getElem? (i := 3) rfl)) (by decide) (by decide)) (g := (mkF m 123 #[.val (.long i0), .second, .val (.long i1), .second, .val (.long i2), .second, .val (.int i3), .val (.int (Int32.ofNat n)), .val (.int c0), .val (.int d0), .val (.int c1), .val (.int d1), .val (.int c2), .val (.int d2), .val (.ref b1), .val (.ref b2), .val (.ref x1), .unset, .unset, .unset] [(.ref b2), (.ref x2), (.ref x2)])) rfl (by rw [hml]; rfl) (Steps.refl _) (a := x2) (argsL := [(.ref b2)]) (rest := [(.ref x2)]) (lenOf pdI rfl) rfl (by show 2 * 0 + _ ≤ _; exact Nat.le_of_eq rfl) (hb hby at_123) (fun _ _ => ⟨rfl, f6, (by decide : 4 + 0 ≤ _), (by decide : 10 + 0 ≤ _)⟩)
  dsimp only [Pt.U, Pt.locs, Pt.cells, Pt.slots] at W6 l6v y6v z6v si6 hQ6
  subst l6v y6v z6v
  obtain ⟨rfl, Nq6, K6, Ex6, Fx6⟩ := hQ6
  have Nn6 := Fr.app Nn5 Nq6
  have Zv6 : n0 ≤ V6.heap.size := Nat.le_trans Zu6 K6.1
  have Av6 := (Av5.ext E6).keep K6 (ninS ne16 nin0)
  have Bv6 := (Bv5.ext E6).keep K6 (ninS ne26 nin0)
  have nx : x1 ≠ x2 := Nat.ne_of_lt (gx6 ▸ Ex5.lt)
  have Fy : Fld Z V6.heap x1 "com/example/tracewarden/tracewarden/net/Marking" "tokens" "[I" (.ref b1) := (Fx5.ext E6).keep K6 (ninS nx nin0)
  have Ey : Exa Z V6.heap x1 "com/example/tracewarden/tracewarden/net/Marking" := (Ex5.ext E6).keep K6
  have st6 : ∀ target, Steps p.tables e below (V6.setTop (mkF m 220 #[.val (.long i0), .second, .val (.long i1), .second, .val (.long i2), .second, .val (.int i3), .val (.int (Int32.ofNat n)), .val (.int c0), .val (.int d0), .val (.int c1), .val (.int d1), .val (.int c2), .val (.int d2), .val (.ref b1), .val (.ref b2), .val (.ref x1), .val (.ref x2), .val (.int (own_z (own_ge (own_f c0 c1 c2) (own_f d0 d1 d2) n 0))), .val (.int (own_z (own_gt (own_f c0 c1 c2) (own_f d0 d1 d2) n 0)))] [])) target → Steps p.tables e below (V6.setTop (mkF m 128 #[.val (.long i0), .second, .val (.long i1), .second, .val (.long i2), .second, .val (.int i3), .val (.int (Int32.ofNat n)), .val (.int c0), .val (.int d0), .val (.int c1), .val (.int d1), .val (.int c2), .val (.int d2), .val (.ref b1), .val (.ref b2), .val (.ref x1), .val (.ref x2), .unset, .unset] [])) target := by
    intro target kt
    rcases hn' with rfl | rfl | rfl | rfl
    · exact own_all0 i0 i1 i2 i3 c0 d0 c1 d1 c2 d2 b1 b2 x1 x2 0 W6 hx hZ hw hby hown _ (own_some0 i0 i1 i2 i3 c0 d0 c1 d1 c2 d2 b1 b2 x1 x2 _ W6 hx hZ hw hby hown _ kt)
    · exact own_all1 i0 i1 i2 i3 c0 d0 c1 d1 c2 d2 b1 b2 x1 x2 0 W6 hx hZ hw hby hown _ (own_some1 i0 i1 i2 i3 c0 d0 c1 d1 c2 d2 b1 b2 x1 x2 _ W6 hx hZ hw hby hown _ kt)
    · exact own_all2 i0 i1 i2 i3 c0 d0 c1 d1 c2 d2 b1 b2 x1 x2 0 W6 hx hZ hw hby hown _ (own_some2 i0 i1 i2 i3 c0 d0 c1 d1 c2 d2 b1 b2 x1 x2 _ W6 hx hZ hw hby hown _ kt)
    · exact own_all3 i0 i1 i2 i3 c0 d0 c1 d1 c2 d2 b1 b2 x1 x2 0 W6 hx hZ hw hby hown _ (own_some3 i0 i1 i2 i3 c0 d0 c1 d1 c2 d2 b1 b2 x1 x2 _ W6 hx hZ hw hby hown _ kt)
  obtain ⟨cq, kq, qa, qb, qc⟩ := isOf hZ rfl Ey
  obtain ⟨_, _, ⟨T7, L7, k7, n7⟩, -, X7, ⟨Lc7, hQ7, l7, y7, z7⟩, st7⟩ := W6.virtualBack hx (y := (⟨"com/example/tracewarden/tracewarden/net/Marking", "strictlyCovers", "(Lcom/example/tracewarden/tracewarden/net/Marking;)Z"⟩ : MethodName)) (z := (⟨"com/example/tracewarden/tracewarden/net/Marking", "strictlyCovers", "(Lcom/example/tracewarden/tracewarden/net/Marking;)Z"⟩ : MethodName)) hown (mvT hZ (hw _ (List.mem_of_getElem? (i := 27) rfl))) (mvT hZ (hw _ (List.mem_of_getElem? (i := 28) rfl))) (notFace_of_selects (args := #[]) (mvT hZ (hw _ (List.mem_of_getElem? (i := 30) rfl)))) (mvT hZ (hw _ (List.mem_of_getElem? (i := 30) rfl))) (mvT hZ (hw _ (List.mem_of_getElem? (i := 29) rfl))) (by decide) (backOf (W := 0) (rm6 l Z a0 hw [] x1 x2 b1 b2 n (own_f c0 c1 c2) (own_f d0 d1 d2) (by omega) V6.heap n0 Zv6 Fy Fx6 Av6 Bv6) hZ (hw _ (List.mem_of_getElem? (i := 31) rfl)) (hw _ (List.mem_of_getElem? (i := 3) rfl)) (by decide) (by decide)) qa qc (g := (mkF m 224 #[.val (.long i0), .second, .val (.long i1), .second, .val (.long i2), .second, .val (.int i3), .val (.int (Int32.ofNat n)), .val (.int c0), .val (.int d0), .val (.int c1), .val (.int d1), .val (.int c2), .val (.int d2), .val (.ref b1), .val (.ref b2), .val (.ref x1), .val (.ref x2), .val (.int (own_z (own_ge (own_f c0 c1 c2) (own_f d0 d1 d2) n 0))), .val (.int (own_z (own_gt (own_f c0 c1 c2) (own_f d0 d1 d2) n 0)))] [(.ref x2), (.ref x1)])) rfl (by rw [hml]; rfl) (Steps.refl _) (argsL := [(.ref x2)]) (rest := []) (lenOf pdT rfl) rfl (by show 2 * 0 + _ ≤ _; exact Nat.le_of_eq rfl) (hb hby at_224) (fun _ _ => ⟨rfl, rfl, (by decide : 4 + 0 ≤ _), (by decide : 10 + 0 ≤ _)⟩)
  dsimp only [Pt.U, Pt.locs, Pt.cells, Pt.slots] at X7 l7 y7 z7 st7 hQ7
  subst l7 y7 z7
  obtain ⟨rfl, N7q, e7⟩ := hQ7
  have N7 := Fr.app Nn6 N7q
  have st8 := own_end i0 i1 i2 i3 c0 d0 c1 d1 c2 d2 n b1 b2 x1 x2 (own_ge (own_f c0 c1 c2) (own_f d0 d1 d2) n 0) (own_gt (own_f c0 c1 c2) (own_f d0 d1 d2) n 0) X7 hx hZ hw hby hown
  obtain ⟨fs, hr, hrun, hended, hW, hsame⟩ := X7.leave (v := some (.int (1 : Int32))) (fun h => by rw [Bd.returns] at h; cases h)
  refine ⟨_, _, pre0 _ ?_, hrun, hended, _, _, rfl, ⟨rfl, N7⟩, ⟨_, rfl⟩, hW, hsame.mono (by decide) (by decide)⟩
  refine st0 _ ?_
  show Steps p.tables e below (s₁.setTop (mkF m 41 #[.val (.long i0), .second, .val (.long i1), .second, .val (.long i2), .second, .val (.int i3), .val (.int (Int32.ofNat n)), .val (.int c0), .val (.int d0), .val (.int c1), .val (.int d1), .val (.int c2), .val (.int d2), .unset, .unset, .unset, .unset, .unset, .unset] [])) _
  refine XS.iload X0.here hx rfl (hb hby at_41) rfl ?_
  refine st1 _ ?_
  show Steps p.tables e below (T1.setTop (mkF m 45 #[.val (.long i0), .second, .val (.long i1), .second, .val (.long i2), .second, .val (.int i3), .val (.int (Int32.ofNat n)), .val (.int c0), .val (.int d0), .val (.int c1), .val (.int d1), .val (.int c2), .val (.int d2), .unset, .unset, .unset, .unset, .unset, .unset] [(.ref b1)])) _
  refine XS.astore X1.here hx rfl (hb hby at_45) rfl rfl (l' := #[.val (.long i0), .second, .val (.long i1), .second, .val (.long i2), .second, .val (.int i3), .val (.int (Int32.ofNat n)), .val (.int c0), .val (.int d0), .val (.int c1), .val (.int d1), .val (.int c2), .val (.int d2), .val (.ref b1), .unset, .unset, .unset, .unset, .unset]) rfl ?_
  show Steps p.tables e below (T1.setTop (mkF m 47 #[.val (.long i0), .second, .val (.long i1), .second, .val (.long i2), .second, .val (.int i3), .val (.int (Int32.ofNat n)), .val (.int c0), .val (.int d0), .val (.int c1), .val (.int d1), .val (.int c2), .val (.int d2), .val (.ref b1), .unset, .unset, .unset, .unset, .unset] [])) _
  refine XS.iload X1.here hx rfl (hb hby at_47) rfl ?_
  refine st2 _ ?_
  show Steps p.tables e below (T2.setTop (mkF m 51 #[.val (.long i0), .second, .val (.long i1), .second, .val (.long i2), .second, .val (.int i3), .val (.int (Int32.ofNat n)), .val (.int c0), .val (.int d0), .val (.int c1), .val (.int d1), .val (.int c2), .val (.int d2), .val (.ref b1), .unset, .unset, .unset, .unset, .unset] [(.ref b2)])) _
  refine XS.astore X2.here hx rfl (hb hby at_51) rfl rfl (l' := #[.val (.long i0), .second, .val (.long i1), .second, .val (.long i2), .second, .val (.int i3), .val (.int (Int32.ofNat n)), .val (.int c0), .val (.int d0), .val (.int c1), .val (.int d1), .val (.int c2), .val (.int d2), .val (.ref b1), .val (.ref b2), .unset, .unset, .unset, .unset]) rfl ?_
  refine st3 _ (sn5 _ ?_)
  show Steps p.tables e below (U5.setTop (mkF m 109 #[.val (.long i0), .second, .val (.long i1), .second, .val (.long i2), .second, .val (.int i3), .val (.int (Int32.ofNat n)), .val (.int c0), .val (.int d0), .val (.int c1), .val (.int d1), .val (.int c2), .val (.int d2), .val (.ref b1), .val (.ref b2), .unset, .unset, .unset, .unset] [(.ref x1)])) _
  refine XS.dup Y5.here hx rfl (hb hby at_109) rfl rfl ?_
  show Steps p.tables e below (U5.setTop (mkF m 110 #[.val (.long i0), .second, .val (.long i1), .second, .val (.long i2), .second, .val (.int i3), .val (.int (Int32.ofNat n)), .val (.int c0), .val (.int d0), .val (.int c1), .val (.int d1), .val (.int c2), .val (.int d2), .val (.ref b1), .val (.ref b2), .unset, .unset, .unset, .unset] [(.ref x1), (.ref x1)])) _
  refine XS.aload Y5.here hx rfl (hb hby at_110) rfl rfl ?_
  refine si5.trans ?_
  show Steps p.tables e below (V5.setTop (mkF m 115 #[.val (.long i0), .second, .val (.long i1), .second, .val (.long i2), .second, .val (.int i3), .val (.int (Int32.ofNat n)), .val (.int c0), .val (.int d0), .val (.int c1), .val (.int d1), .val (.int c2), .val (.int d2), .val (.ref b1), .val (.ref b2), .unset, .unset, .unset, .unset] [(.ref x1)])) _
  refine XS.astore W5.here hx rfl (hb hby at_115) rfl rfl (l' := #[.val (.long i0), .second, .val (.long i1), .second, .val (.long i2), .second, .val (.int i3), .val (.int (Int32.ofNat n)), .val (.int c0), .val (.int d0), .val (.int c1), .val (.int d1), .val (.int c2), .val (.int d2), .val (.ref b1), .val (.ref b2), .val (.ref x1), .unset, .unset, .unset]) rfl ?_
  refine sn6 _ ?_
  show Steps p.tables e below (U6.setTop (mkF m 120 #[.val (.long i0), .second, .val (.long i1), .second, .val (.long i2), .second, .val (.int i3), .val (.int (Int32.ofNat n)), .val (.int c0), .val (.int d0), .val (.int c1), .val (.int d1), .val (.int c2), .val (.int d2), .val (.ref b1), .val (.ref b2), .val (.ref x1), .unset, .unset, .unset] [(.ref x2)])) _
  refine XS.dup Y6.here hx rfl (hb hby at_120) rfl rfl ?_
  show Steps p.tables e below (U6.setTop (mkF m 121 #[.val (.long i0), .second, .val (.long i1), .second, .val (.long i2), .second, .val (.int i3), .val (.int (Int32.ofNat n)), .val (.int c0), .val (.int d0), .val (.int c1), .val (.int d1), .val (.int c2), .val (.int d2), .val (.ref b1), .val (.ref b2), .val (.ref x1), .unset, .unset, .unset] [(.ref x2), (.ref x2)])) _
  refine XS.aload Y6.here hx rfl (hb hby at_121) rfl rfl ?_
  refine si6.trans ?_
  show Steps p.tables e below (V6.setTop (mkF m 126 #[.val (.long i0), .second, .val (.long i1), .second, .val (.long i2), .second, .val (.int i3), .val (.int (Int32.ofNat n)), .val (.int c0), .val (.int d0), .val (.int c1), .val (.int d1), .val (.int c2), .val (.int d2), .val (.ref b1), .val (.ref b2), .val (.ref x1), .unset, .unset, .unset] [(.ref x2)])) _
  refine XS.astore W6.here hx rfl (hb hby at_126) rfl rfl (l' := #[.val (.long i0), .second, .val (.long i1), .second, .val (.long i2), .second, .val (.int i3), .val (.int (Int32.ofNat n)), .val (.int c0), .val (.int d0), .val (.int c1), .val (.int d1), .val (.int c2), .val (.int d2), .val (.ref b1), .val (.ref b2), .val (.ref x1), .val (.ref x2), .unset, .unset]) rfl ?_
  refine st6 _ ?_
  show Steps p.tables e below (V6.setTop (mkF m 220 #[.val (.long i0), .second, .val (.long i1), .second, .val (.long i2), .second, .val (.int i3), .val (.int (Int32.ofNat n)), .val (.int c0), .val (.int d0), .val (.int c1), .val (.int d1), .val (.int c2), .val (.int d2), .val (.ref b1), .val (.ref b2), .val (.ref x1), .val (.ref x2), .val (.int (own_z (own_ge (own_f c0 c1 c2) (own_f d0 d1 d2) n 0))), .val (.int (own_z (own_gt (own_f c0 c1 c2) (own_f d0 d1 d2) n 0)))] [])) _
  refine XS.aload W6.here hx rfl (hb hby at_220) rfl rfl ?_
  show Steps p.tables e below (V6.setTop (mkF m 222 #[.val (.long i0), .second, .val (.long i1), .second, .val (.long i2), .second, .val (.int i3), .val (.int (Int32.ofNat n)), .val (.int c0), .val (.int d0), .val (.int c1), .val (.int d1), .val (.int c2), .val (.int d2), .val (.ref b1), .val (.ref b2), .val (.ref x1), .val (.ref x2), .val (.int (own_z (own_ge (own_f c0 c1 c2) (own_f d0 d1 d2) n 0))), .val (.int (own_z (own_gt (own_f c0 c1 c2) (own_f d0 d1 d2) n 0)))] [(.ref x1)])) _
  refine XS.aload W6.here hx rfl (hb hby at_222) rfl rfl ?_
  refine st7.trans (st8 _ ?_)
  exact retN X7 hx (t := .boolean) Bd.returns (by simp) (hb hby at_250) hr
set_option maxRecDepth 65536 in
set_option maxHeartbeats 40000000 in
theorem comes_1 {Post : Tables → Env → Array Value → State → Outcome → State → Prop} (hpost : ∀ tb e args s v u, (limb_1_1.after args s (.returned v) u = true ∧ limb_1_2.after args s (.returned v) u = true ∧ True) → FrameEnd s (.returned v) u (Jvm.fieldLocs frame_1_writes args s ++ Jvm.arrayLocs frame_1_arrays args s ++ Jvm.staticLocs frame_1_statics s) 16 128 → Post tb e args s (.returned v) u) :
    ArmFor flags0 classFile x code maxLocals ret World_1 tables_1 room_1 Calls_1 rest_1 Pre_1 Post := by
  intro l hfl _ _ p e ha hc hk s m args below hf hA hF happ hP
  obtain ⟨hcalls, hrest, hpre⟩ := hP
  obtain ⟨-, -, -, hnamed, -, -, -, hat⟩ := (Spec.applies_iff hf).mp happ
  obtain ⟨hg, hn⟩ := and_e (Cond.before_iff.mp (show (Jvm.Cond.and given_1 narrow_1).before args s = true from hpre))
  obtain ⟨h1, g0⟩ := and_e hg
  obtain ⟨w0, w1, w2, w3, rfl⟩ : ∃ w0 w1 w2 w3 : Value, args = #[w0, w1, w2, w3] := by
    have hs : args.size = 4 := by simpa [Cond.value, given_1] using h1
    obtain ⟨L⟩ := args
    match L, hs with
    | [w0, w1, w2, w3], _ => exact ⟨w0, w1, w2, w3, rfl⟩
  have hw := fun d (hd : d ∈ tables_1) => atoms_spec (ws := Jvm.Cond.code x code maxLocals ret :: tables_1) hat d (List.mem_cons_of_mem _ hd)
  obtain ⟨q0, g1⟩ := and_e g0
  obtain ⟨q1, g2⟩ := and_e g1
  obtain ⟨q2, g3⟩ := and_e g2
  have q3 := g3
  obtain ⟨i0, e0⟩ := isL_v q0
  obtain rfl : w0 = (.long i0) := Option.some.inj e0
  obtain ⟨i1, e1⟩ := isL_v q1
  obtain rfl : w1 = (.long i1) := Option.some.inj e1
  obtain ⟨i2, e2⟩ := isL_v q2
  obtain rfl : w2 = (.long i2) := Option.some.inj e2
  obtain ⟨i3, e3⟩ := is_v q3
  obtain rfl : w3 = (.int i3) := Option.some.inj e3
  obtain ⟨n, o, h1, h2, h3, _, L, rfl, ⟨rfl, N⟩, hq⟩ := rm0 l s _ hw tables_1 i0 i1 i2 i3 s.heap s.heap.size (Nat.le_refl _) p e ha hc hk s m _ below hf ((Spec.applies_iff_loose hf).mp happ).1 ⟨rfl, State.Warmed39.refl s, rfl⟩ trivial
  refine ⟨n, _, h1, h2, h3, hpost _ _ _ _ _ _ ⟨Cond.after_iff.mpr rfl, Cond.after_iff.mpr (eq_i res_at (Term.int_eval (1)) rfl), trivial⟩ ⟨hq.1, hq.2.1, (hq.2.2.sift fun y hy => Or.inr (N y hy)).mono (by decide) (by decide)⟩⟩
theorem main_1_1 : Claimed_1_1 := comes_1 fun _ _ _ _ _ _ h hF => ⟨h.1, hF⟩
theorem main_1_2 : Claimed_1_2 := comes_1 fun _ _ _ _ _ _ h hF => ⟨h.2.1, hF⟩
end Jvm.Pilot.@@N@@
namespace Jvm.Pilot.@@N@@
open Jvm Jvm.ClassFile Sem Op Lib Jvm.Free Jvm.Stand Jvm.Pilot.@@N@@.Jvm.D
/-! MADE BY PROGRAM (witnessworld.py) out of the Statement's table words and the real class files: 11 classes; the members and pool entries that the words name. The judged class is class 1, her method 1. -/
namespace start1
open Jvm.ClassFile
def u (s : String) : CpInfo := .utf8 (stringToUtf16 s)
/-- a pool by its gaps: so many unusable entries, then the entry; so many at the end -/
def gap : Nat → List CpInfo → List CpInfo
  | 0, r => r
  | n + 1, r => .unusable :: gap n r
def poolList (es : List (Nat × CpInfo)) (last : Nat) : List CpInfo := es.foldr (fun e r => gap e.1 (e.2 :: r)) (gap last [])
def pool (es : List (Nat × CpInfo)) (last : Nat) : Array CpInfo := ⟨poolList es last⟩
def fileOf (pool : Array CpInfo) (this : Nat) (attrs : Array Attribute := #[]) (ms : Array MethodInfo := #[]) (fl : Nat := 33) (sup : Nat := 0) (ifs : Array Nat := #[]) (fds : Array FieldInfo := #[]) : ClassFile where
  minorVersion := 0
  majorVersion := 65
  constantPool := pool
  accessFlags := fl
  thisClass := this
  superClass := sup
  interfaces := ifs
  fields := fds
  methods := ms
  attributes := attrs
def plain (name : String) (sup : Option ClassId) : Class where
  name := name
  kind := .ordinary
  loader := none
  accessFlags := 33
  super := sup
  interfaces := #[]
  cf := none
  fields := #[]
  methods := #[]
  instanceTypes := #[]
  staticTypes := #[]
  resolved := #[]
  callSites := []
  init := .initialized
  statics := none
  mirror := none

def pool0 : Array CpInfo := pool [(5, u "<init>"), (0, u "()V"), (1, .class_ 10), (1, u "java/lang/Object")] 113

def k0c0 : Code := { maxStack := 0, maxLocals := 1, code := object_method_1_code, exceptionTable := #[], attributes := #[] }
def k0m0 : Method := { name := "<init>", desc := "()V", sig := { parameters := [], returnType := none }, accessFlags := 1, code := some k0c0 }
/-- java/lang/Object -/
def k0 : Class := { plain "java/lang/Object" none with
  accessFlags := 33
  interfaces := #[]
  cf := some (fileOf pool0 8 #[] #[{ accessFlags := 1, nameIndex := 5, descriptorIndex := 6, attributes := #[] }] 33 0 #[] #[])
  fields := #[]
  methods := #[k0m0]
  instanceTypes := #[]
  staticTypes := #[]
  resolved := Array.replicate 124 none
  statics := none }

def pool1 : Array CpInfo := pool [(2, .class_ 4), (1, u "java/lang/Object"), (0, u "<init>"), (0, u "()V"), (0, .class_ 8), (0, u "com/example/tracewarden/tracewarden/net/Marking"), (0, .methodref 7 10), (0, .nameAndType 5 11), (0, u "([I)V"), (0, .methodref 7 13), (0, .nameAndType 14 15), (0, u "strictlyCovers"), (0, u "(Lcom/example/tracewarden/tracewarden/net/Marking;)Z"), (0, .class_ 17), (0, u "com/example/tracewarden/tracewarden/net/MarkingStrictlyCoversPinLaw"), (2, u "law"), (0, u "(JJJI)Z")] 5

def k1m0 : Method := { name := "<init>", desc := "()V", sig := { parameters := [], returnType := none }, accessFlags := 1, code := none }
def k1c1 : Code := { maxStack := 3, maxLocals := 20, code := code, exceptionTable := #[], attributes := #[] }
def k1m1 : Method := { name := "law", desc := "(JJJI)Z", sig := { parameters := [.long, .long, .long, .int], returnType := some .boolean }, accessFlags := 9, code := some k1c1 }
/-- com/example/tracewarden/tracewarden/net/MarkingStrictlyCoversPinLaw -/
def k1 : Class := { plain "com/example/tracewarden/tracewarden/net/MarkingStrictlyCoversPinLaw" (some 0) with
  accessFlags := 49
  interfaces := #[]
  cf := some (fileOf pool1 16 #[] #[{ accessFlags := 1, nameIndex := 5, descriptorIndex := 6, attributes := #[] }, { accessFlags := 9, nameIndex := 20, descriptorIndex := 21, attributes := #[] }] 49 2 #[] #[])
  fields := #[]
  methods := #[k1m0, k1m1]
  instanceTypes := #[]
  staticTypes := #[]
  resolved := Array.replicate 27 none
  statics := none }

def pool2 : Array CpInfo := pool [(3, .class_ 4), (0, u "com/example/tracewarden/tracewarden/net/Marking"), (0, .methodref 6 7), (0, .class_ 8), (0, .nameAndType 9 10), (0, u "java/lang/Object"), (0, u "<init>"), (0, u "()V"), (0, .fieldref 3 12), (0, .nameAndType 13 14), (0, u "tokens"), (0, u "[I"), (0, .methodref 16 17), (0, .class_ 18), (0, .nameAndType 19 20), (0, u "java/util/Arrays"), (0, u "hashCode"), (0, u "([I)I"), (0, .fieldref 3 22), (0, .nameAndType 23 24), (0, u "hash"), (0, u "I"), (7, u "([I)V"), (9, u "UNBOUNDED"), (1, u "MOST_TOKENS"), (6, u "strictlyCovers"), (0, u "(Lcom/example/tracewarden/tracewarden/net/Marking;)Z")] 14

def k2c0 : Code := { maxStack := 2, maxLocals := 2, code := prog_27_method_1_code, exceptionTable := #[], attributes := #[] }
def k2m0 : Method := { name := "<init>", desc := "([I)V", sig := { parameters := [(.array .int)], returnType := none }, accessFlags := 0, code := some k2c0 }
def k2c1 : Code := { maxStack := 4, maxLocals := 4, code := prog_27_method_4_code, exceptionTable := #[], attributes := #[] }
def k2m1 : Method := { name := "strictlyCovers", desc := "(Lcom/example/tracewarden/tracewarden/net/Marking;)Z", sig := { parameters := [(.object "com/example/tracewarden/tracewarden/net/Marking")], returnType := some .boolean }, accessFlags := 1, code := some k2c1 }
/-- com/example/tracewarden/tracewarden/net/Marking -/
def k2 : Class := { plain "com/example/tracewarden/tracewarden/net/Marking" (some 0) with
  accessFlags := 49
  interfaces := #[]
  cf := some (fileOf pool2 3 #[] #[{ accessFlags := 0, nameIndex := 9, descriptorIndex := 32, attributes := #[] }, { accessFlags := 1, nameIndex := 51, descriptorIndex := 52, attributes := #[] }] 49 6 #[] #[{ accessFlags := 24, nameIndex := 42, descriptorIndex := 24, attributes := #[] }, { accessFlags := 24, nameIndex := 44, descriptorIndex := 24, attributes := #[] }, { accessFlags := 18, nameIndex := 13, descriptorIndex := 14, attributes := #[] }, { accessFlags := 18, nameIndex := 23, descriptorIndex := 24, attributes := #[] }])
  fields := #[{ name := "UNBOUNDED", type := .int, accessFlags := 24, slot := 0, constantValue := 0 }, { name := "MOST_TOKENS", type := .int, accessFlags := 24, slot := 1, constantValue := 0 }, { name := "tokens", type := (.array .int), accessFlags := 18, slot := 0, constantValue := 0 }, { name := "hash", type := .int, accessFlags := 18, slot := 1, constantValue := 0 }]
  methods := #[k2m0, k2m1]
  instanceTypes := #[(.array .int), .int]
  staticTypes := #[.int, .int]
  resolved := Array.replicate 67 none
  statics := none }

def pool3 : Array CpInfo := pool [(2, .class_ 4), (1, u "java/lang/Object"), (0, u "<init>"), (0, u "()V"), (7, .class_ 16), (1, u "java/util/Arrays"), (57, .class_ 76), (1, u "java/util/Arrays$NaturalOrder"), (36, .class_ 115), (1, u "java/util/Arrays$LegacyMergeSort"), (1, u "Z"), (128, .class_ 248), (1, u "jdk/internal/util/ArraysSupport"), (126, .class_ 376), (0, u "java/util/Arrays$ArrayList"), (2, .methodref 246 380), (0, .nameAndType 381 382), (0, u "vectorizedHashCode"), (0, u "(Ljava/lang/Object;IIII)I"), (2, u "hashCode"), (22, u "([I)I"), (36, u "$assertionsDisabled"), (269, u "MIN_ARRAY_SORT_GRAN"), (0, u "I"), (2, u "INSERTIONSORT_THRESHOLD"), (255, .class_ 976), (0, u "java/util/Arrays$ArrayItr")] 52

def k3m0 : Method := { name := "<init>", desc := "()V", sig := { parameters := [], returnType := none }, accessFlags := 2, code := none }
def k3c1 : Code := { maxStack := 5, maxLocals := 1, code := jdk_65_method_150_code, exceptionTable := #[], attributes := #[] }
def k3m1 : Method := { name := "hashCode", desc := "([I)I", sig := { parameters := [(.array .int)], returnType := some .int }, accessFlags := 9, code := some k3c1 }
/-- java/util/Arrays -/
def k3 : Class := { plain "java/util/Arrays" (some 0) with
  accessFlags := 49
  interfaces := #[]
  cf := some (fileOf pool3 14 #[.nestMembers #[975, 375, 113, 74]] #[{ accessFlags := 2, nameIndex := 5, descriptorIndex := 6, attributes := #[] }, { accessFlags := 9, nameIndex := 385, descriptorIndex := 408, attributes := #[] }] 49 2 #[] #[{ accessFlags := 26, nameIndex := 715, descriptorIndex := 716, attributes := #[] }, { accessFlags := 26, nameIndex := 719, descriptorIndex := 716, attributes := #[] }, { accessFlags := 4120, nameIndex := 445, descriptorIndex := 117, attributes := #[] }])
  fields := #[{ name := "MIN_ARRAY_SORT_GRAN", type := .int, accessFlags := 26, slot := 0, constantValue := 0 }, { name := "INSERTIONSORT_THRESHOLD", type := .int, accessFlags := 26, slot := 1, constantValue := 0 }, { name := "$assertionsDisabled", type := .boolean, accessFlags := 4120, slot := 2, constantValue := 0 }]
  methods := #[k3m0, k3m1]
  instanceTypes := #[]
  staticTypes := #[.int, .int, .boolean]
  resolved := Array.replicate 1029 none
  statics := none }

def pool4 : Array CpInfo := pool [(9, u "<init>"), (6, .class_ 18), (1, u "java/lang/Object"), (0, u "()V"), (1, .class_ 23), (1, u "jdk/internal/util/ArraysSupport"), (0, u "LOG2_ARRAY_LONG_INDEX_SCALE"), (0, u "I"), (2, u "U"), (0, u "Ljdk/internal/misc/Unsafe;"), (8, u "BIG_ENDIAN"), (0, u "Z"), (8, u "LOG2_BYTE_BIT_SIZE"), (4, u "LOG2_ARRAY_INT_INDEX_SCALE"), (19, u "hashCode"), (8, .class_ 83), (0, u "[I"), (0, .methodref 21 85), (0, .nameAndType 73 86), (0, u "(I[III)I"), (21, u "JLA"), (0, u "Ljdk/internal/access/JavaLangAccess;"), (11, u "LOG2_ARRAY_BOOLEAN_INDEX_SCALE"), (9, u "LOG2_ARRAY_BYTE_INDEX_SCALE"), (5, u "LOG2_ARRAY_CHAR_INDEX_SCALE"), (5, u "LOG2_ARRAY_SHORT_INDEX_SCALE"), (18, u "LOG2_ARRAY_FLOAT_INDEX_SCALE"), (24, u "LOG2_ARRAY_DOUBLE_INDEX_SCALE"), (89, u "T_BOOLEAN"), (2, u "T_CHAR"), (1, u "T_FLOAT"), (1, u "T_DOUBLE"), (1, u "T_BYTE"), (1, u "T_SHORT"), (1, u "T_INT"), (1, u "T_LONG"), (1, u "SOFT_MAX_ARRAY_LENGTH"), (26, u "vectorizedHashCode"), (0, u "(Ljava/lang/Object;IIII)I")] 55

def k4m0 : Method := { name := "<init>", desc := "()V", sig := { parameters := [], returnType := none }, accessFlags := 2, code := none }
def k4c1 : Code := { maxStack := 4, maxLocals := 5, code := jdk_48_method_4_code, exceptionTable := #[], attributes := #[] }
def k4m1 : Method := { name := "vectorizedHashCode", desc := "(Ljava/lang/Object;IIII)I", sig := { parameters := [(.object "java/lang/Object"), .int, .int, .int, .int], returnType := some .int }, accessFlags := 9, code := some k4c1 }
def k4c2 : Code := { maxStack := 3, maxLocals := 6, code := jdk_48_method_9_code, exceptionTable := #[], attributes := #[] }
def k4m2 : Method := { name := "hashCode", desc := "(I[III)I", sig := { parameters := [.int, (.array .int), .int, .int], returnType := some .int }, accessFlags := 10, code := some k4c2 }
/-- jdk/internal/util/ArraysSupport -/
def k4 : Class := { plain "jdk/internal/util/ArraysSupport" (some 0) with
  accessFlags := 33
  interfaces := #[]
  cf := some (fileOf pool4 21 #[] #[{ accessFlags := 2, nameIndex := 9, descriptorIndex := 19, attributes := #[] }, { accessFlags := 9, nameIndex := 321, descriptorIndex := 322, attributes := #[] }, { accessFlags := 10, nameIndex := 73, descriptorIndex := 86, attributes := #[] }] 33 16 #[] #[{ accessFlags := 24, nameIndex := 28, descriptorIndex := 29, attributes := #[] }, { accessFlags := 26, nameIndex := 38, descriptorIndex := 39, attributes := #[] }, { accessFlags := 25, nameIndex := 121, descriptorIndex := 25, attributes := #[] }, { accessFlags := 25, nameIndex := 131, descriptorIndex := 25, attributes := #[] }, { accessFlags := 25, nameIndex := 137, descriptorIndex := 25, attributes := #[] }, { accessFlags := 25, nameIndex := 143, descriptorIndex := 25, attributes := #[] }, { accessFlags := 25, nameIndex := 53, descriptorIndex := 25, attributes := #[] }, { accessFlags := 25, nameIndex := 24, descriptorIndex := 25, attributes := #[] }, { accessFlags := 25, nameIndex := 162, descriptorIndex := 25, attributes := #[] }, { accessFlags := 25, nameIndex := 187, descriptorIndex := 25, attributes := #[] }, { accessFlags := 26, nameIndex := 48, descriptorIndex := 25, attributes := #[] }, { accessFlags := 25, nameIndex := 277, descriptorIndex := 25, attributes := #[] }, { accessFlags := 25, nameIndex := 280, descriptorIndex := 25, attributes := #[] }, { accessFlags := 25, nameIndex := 282, descriptorIndex := 25, attributes := #[] }, { accessFlags := 25, nameIndex := 284, descriptorIndex := 25, attributes := #[] }, { accessFlags := 25, nameIndex := 286, descriptorIndex := 25, attributes := #[] }, { accessFlags := 25, nameIndex := 288, descriptorIndex := 25, attributes := #[] }, { accessFlags := 25, nameIndex := 290, descriptorIndex := 25, attributes := #[] }, { accessFlags := 25, nameIndex := 292, descriptorIndex := 25, attributes := #[] }, { accessFlags := 26, nameIndex := 108, descriptorIndex := 109, attributes := #[] }, { accessFlags := 25, nameIndex := 294, descriptorIndex := 25, attributes := #[] }])
  fields := #[{ name := "U", type := (.object "jdk/internal/misc/Unsafe"), accessFlags := 24, slot := 0, constantValue := 0 }, { name := "BIG_ENDIAN", type := .boolean, accessFlags := 26, slot := 1, constantValue := 0 }, { name := "LOG2_ARRAY_BOOLEAN_INDEX_SCALE", type := .int, accessFlags := 25, slot := 2, constantValue := 0 }, { name := "LOG2_ARRAY_BYTE_INDEX_SCALE", type := .int, accessFlags := 25, slot := 3, constantValue := 0 }, { name := "LOG2_ARRAY_CHAR_INDEX_SCALE", type := .int, accessFlags := 25, slot := 4, constantValue := 0 }, { name := "LOG2_ARRAY_SHORT_INDEX_SCALE", type := .int, accessFlags := 25, slot := 5, constantValue := 0 }, { name := "LOG2_ARRAY_INT_INDEX_SCALE", type := .int, accessFlags := 25, slot := 6, constantValue := 0 }, { name := "LOG2_ARRAY_LONG_INDEX_SCALE", type := .int, accessFlags := 25, slot := 7, constantValue := 0 }, { name := "LOG2_ARRAY_FLOAT_INDEX_SCALE", type := .int, accessFlags := 25, slot := 8, constantValue := 0 }, { name := "LOG2_ARRAY_DOUBLE_INDEX_SCALE", type := .int, accessFlags := 25, slot := 9, constantValue := 0 }, { name := "LOG2_BYTE_BIT_SIZE", type := .int, accessFlags := 26, slot := 10, constantValue := 0 }, { name := "T_BOOLEAN", type := .int, accessFlags := 25, slot := 11, constantValue := 0 }, { name := "T_CHAR", type := .int, accessFlags := 25, slot := 12, constantValue := 0 }, { name := "T_FLOAT", type := .int, accessFlags := 25, slot := 13, constantValue := 0 }, { name := "T_DOUBLE", type := .int, accessFlags := 25, slot := 14, constantValue := 0 }, { name := "T_BYTE", type := .int, accessFlags := 25, slot := 15, constantValue := 0 }, { name := "T_SHORT", type := .int, accessFlags := 25, slot := 16, constantValue := 0 }, { name := "T_INT", type := .int, accessFlags := 25, slot := 17, constantValue := 0 }, { name := "T_LONG", type := .int, accessFlags := 25, slot := 18, constantValue := 0 }, { name := "JLA", type := (.object "jdk/internal/access/JavaLangAccess"), accessFlags := 26, slot := 19, constantValue := 0 }, { name := "SOFT_MAX_ARRAY_LENGTH", type := .int, accessFlags := 25, slot := 20, constantValue := 0 }]
  methods := #[k4m0, k4m1, k4m2]
  instanceTypes := #[]
  staticTypes := #[(.object "jdk/internal/misc/Unsafe"), .boolean, .int, .int, .int, .int, .int, .int, .int, .int, .int, .int, .int, .int, .int, .int, .int, .int, .int, (.object "jdk/internal/access/JavaLangAccess"), .int]
  resolved := Array.replicate 378 none
  statics := none }

def pool5 : Array CpInfo := pool [(1, u "java/lang/Cloneable"), (0, .class_ 1), (0, u "java/lang/Object"), (0, .class_ 3)] 3

/-- java/lang/Cloneable -/
def k5 : Class := { plain "java/lang/Cloneable" (some 0) with
  accessFlags := 1537
  interfaces := #[]
  cf := some (fileOf pool5 2 #[] #[] 1537 4 #[] #[])
  fields := #[]
  methods := #[]
  instanceTypes := #[]
  staticTypes := #[]
  resolved := Array.replicate 8 none
  statics := none }

def pool6 : Array CpInfo := pool [(1, u "java/io/Serializable"), (0, .class_ 1), (0, u "java/lang/Object"), (0, .class_ 3)] 3

/-- java/io/Serializable -/
def k6 : Class := { plain "java/io/Serializable" (some 0) with
  accessFlags := 1537
  interfaces := #[]
  cf := some (fileOf pool6 2 #[] #[] 1537 4 #[] #[])
  fields := #[]
  methods := #[]
  instanceTypes := #[]
  staticTypes := #[]
  resolved := Array.replicate 8 none
  statics := none }

/-- the primitive byte -/
def k7 : Class := { plain "byte" none with kind := .primitive 'B', accessFlags := 0x411 }
/-- [B -/
def k8 : Class := { plain "[B" (some 0) with kind := .array 7 .byte, interfaces := #[5, 6], accessFlags := 1041 }

/-- the primitive int -/
def k9 : Class := { plain "int" none with kind := .primitive 'I', accessFlags := 0x411 }
/-- [I -/
def k10 : Class := { plain "[I" (some 0) with kind := .array 9 .int, interfaces := #[5, 6], accessFlags := 1041 }

def heap : Heap := #[]
def classes : Array Class := #[k0, k1, k2, k3, k4, k5, k6, k7, k8, k9, k10]
def interned : List (Array UInt16 × Addr) := []
def slotsUsed : Nat := 0
def theMethod : MethodId := ⟨1, 1⟩
def args0 : Array Value := #[.long 5, .long 7, .long 9, .int 2]
def aboutOver (below : List Frame) : State where
  vm := { classes := classes, interned := interned.toArray }
  heap := heap
  slotsUsed := slotsUsed
  threads := #[{ frames := .invoking theMethod args0 :: below }]
def below0 : List Frame := [.native { method := ⟨0, 0⟩, args := #[] }]
def about1 : State := aboutOver below0
def p0 : Program := .bare "" "" ""
def e0 : Env := launch0.env 0 0 0
theorem w_frames : about1.frames = Frame.invoking theMethod args0 :: below0 := rfl
set_option maxRecDepth 65536 in
theorem w_args : argsFit about1.vm theMethod args0 = true := by decide +kernel
set_option maxRecDepth 65536 in
theorem w_heap : heapFits about1 = true := by decide +kernel
set_option maxRecDepth 65536 in
theorem w_runnable : about1.curStatus? = some .runnable := by decide +kernel
set_option maxRecDepth 65536 in
theorem w_alone : about1.alone = true := by decide +kernel
set_option maxRecDepth 65536 in
theorem w_named : about1.methodNamed? x = some theMethod := by decide +kernel
set_option maxRecDepth 65536 in
theorem w_hears : about1.hears theMethod below0 = true := by decide +kernel
set_option maxRecDepth 65536 in
theorem w_ripe : about1.ripe theMethod args0 below0 = true := by decide +kernel
theorem w_running : about1.status = .running := rfl
set_option maxRecDepth 65536 in
theorem w_room : about1.hasRoom e0.platform room_1 = true :=
  launch0.hasRoom_least _ room_1 (by decide +kernel) (by decide +kernel) (by decide +kernel) (by decide +kernel) (by decide +kernel) (by decide +kernel)
theorem allAtoms_all (ts : List Jvm.Cond) (a : Array Jvm.Value) (st : Jvm.State) : (allAtoms ts).before a st = ts.all (fun c => c.before a st) := by
  induction ts with
  | nil => rfl
  | cons c t ih =>
    show (Jvm.Cond.and c (allAtoms t)).before a st = _
    rw [Jvm.Cond.before_and, ih, List.all_cons]
def words1 : List Jvm.Cond := Jvm.Cond.code x code maxLocals ret :: tables_1
/-- a 'code' word, met by the world's own term for the bytes: nothing is compared byte by byte -/
theorem code_word {y : MethodName} {bytes : ByteArray} {mx : Nat} {rt : Option FieldType} {a : Array Value} {s : State} {m : MethodId} {meth : Method} {c : Code} (h1 : s.methodNamed? y = some m) (h2 : s.vm.method? m = some meth) (h3 : meth.code = some c) (h4 : c.code = bytes)
    (h5 : (c.maxLocals == mx && c.exceptionTable.isEmpty && decide (c.maxStack ≤ mostOperands) && decide (meth.sig.returnType = rt) && !meth.locks && decide (parseMethodDescriptor y.desc = some meth.sig)) = true) : (Jvm.Cond.code y bytes mx rt).before a s = true := by
  simp only [Bool.and_eq_true, beq_iff_eq, Bool.not_eq_true', decide_eq_true_eq] at h5
  obtain ⟨⟨⟨⟨⟨g1, g2⟩, g3⟩, g4⟩, g5⟩, g6⟩ := h5
  simp [Cond.before, Cond.holds, Cond.value, h1, h2, h3, h4, g1, g2, g3, g4, g5, g6]
def isCode : Jvm.Cond → Bool
  | .code _ _ _ _ => true
  | _ => false
theorem all_split {L : List Jvm.Cond} {P : Jvm.Cond → Bool} (h1 : L.all (fun c => isCode c || P c) = true) (h2 : ∀ c ∈ L.filter isCode, P c = true) : L.all P = true := by
  refine List.all_eq_true.mpr fun c hc => ?_
  have h := List.all_eq_true.mp h1 c hc
  rcases Bool.eq_false_or_eq_true (isCode c) with hi | hi
  · exact h2 c (List.mem_filter.mpr ⟨hc, hi⟩)
  · simpa [hi] using h
set_option maxRecDepth 65536 in
theorem w_c0 : (Jvm.Cond.code x code maxLocals ret).before args0 about1 = true := code_word (m := ⟨1, 1⟩) (meth := k1m1) (c := k1c1) (by decide +kernel) rfl rfl rfl (by decide +kernel)
set_option maxRecDepth 65536 in
theorem w_c1 : (Jvm.Cond.code ({ cls := "com/example/tracewarden/tracewarden/net/Marking", name := "<init>", desc := "([I)V" } : Jvm.MethodName) prog_27_method_1_code (2 : Nat) (Option.none : Option Jvm.ClassFile.FieldType)).before args0 about1 = true := code_word (m := ⟨2, 0⟩) (meth := k2m0) (c := k2c0) (by decide +kernel) rfl rfl rfl (by decide +kernel)
set_option maxRecDepth 65536 in
theorem w_c2 : (Jvm.Cond.code ({ cls := "java/lang/Object", name := "<init>", desc := "()V" } : Jvm.MethodName) object_method_1_code (1 : Nat) (Option.none : Option Jvm.ClassFile.FieldType)).before args0 about1 = true := code_word (m := ⟨0, 0⟩) (meth := k0m0) (c := k0c0) (by decide +kernel) rfl rfl rfl (by decide +kernel)
set_option maxRecDepth 65536 in
theorem w_c3 : (Jvm.Cond.code ({ cls := "java/util/Arrays", name := "hashCode", desc := "([I)I" } : Jvm.MethodName) jdk_65_method_150_code (1 : Nat) (Option.some Jvm.ClassFile.FieldType.int)).before args0 about1 = true := code_word (m := ⟨3, 1⟩) (meth := k3m1) (c := k3c1) (by decide +kernel) rfl rfl rfl (by decide +kernel)
set_option maxRecDepth 65536 in
theorem w_c4 : (Jvm.Cond.code ({ cls := "jdk/internal/util/ArraysSupport", name := "vectorizedHashCode", desc := "(Ljava/lang/Object;IIII)I" } : Jvm.MethodName) jdk_48_method_4_code (5 : Nat) (Option.some Jvm.ClassFile.FieldType.int)).before args0 about1 = true := code_word (m := ⟨4, 1⟩) (meth := k4m1) (c := k4c1) (by decide +kernel) rfl rfl rfl (by decide +kernel)
set_option maxRecDepth 65536 in
theorem w_c5 : (Jvm.Cond.code ({ cls := "jdk/internal/util/ArraysSupport", name := "hashCode", desc := "(I[III)I" } : Jvm.MethodName) jdk_48_method_9_code (6 : Nat) (Option.some Jvm.ClassFile.FieldType.int)).before args0 about1 = true := code_word (m := ⟨4, 2⟩) (meth := k4m2) (c := k4c2) (by decide +kernel) rfl rfl rfl (by decide +kernel)
set_option maxRecDepth 65536 in
theorem w_c6 : (Jvm.Cond.code ({ cls := "com/example/tracewarden/tracewarden/net/Marking", name := "strictlyCovers", desc := "(Lcom/example/tracewarden/tracewarden/net/Marking;)Z" } : Jvm.MethodName) prog_27_method_4_code (4 : Nat) (Option.some Jvm.ClassFile.FieldType.boolean)).before args0 about1 = true := code_word (m := ⟨2, 1⟩) (meth := k2m1) (c := k2c1) (by decide +kernel) rfl rfl rfl (by decide +kernel)
def codes1 : List Jvm.Cond := [Jvm.Cond.code x code maxLocals ret, Jvm.Cond.code ({ cls := "com/example/tracewarden/tracewarden/net/Marking", name := "<init>", desc := "([I)V" } : Jvm.MethodName) prog_27_method_1_code (2 : Nat) (Option.none : Option Jvm.ClassFile.FieldType), Jvm.Cond.code ({ cls := "java/lang/Object", name := "<init>", desc := "()V" } : Jvm.MethodName) object_method_1_code (1 : Nat) (Option.none : Option Jvm.ClassFile.FieldType), Jvm.Cond.code ({ cls := "java/util/Arrays", name := "hashCode", desc := "([I)I" } : Jvm.MethodName) jdk_65_method_150_code (1 : Nat) (Option.some Jvm.ClassFile.FieldType.int), Jvm.Cond.code ({ cls := "jdk/internal/util/ArraysSupport", name := "vectorizedHashCode", desc := "(Ljava/lang/Object;IIII)I" } : Jvm.MethodName) jdk_48_method_4_code (5 : Nat) (Option.some Jvm.ClassFile.FieldType.int), Jvm.Cond.code ({ cls := "jdk/internal/util/ArraysSupport", name := "hashCode", desc := "(I[III)I" } : Jvm.MethodName) jdk_48_method_9_code (6 : Nat) (Option.some Jvm.ClassFile.FieldType.int), Jvm.Cond.code ({ cls := "com/example/tracewarden/tracewarden/net/Marking", name := "strictlyCovers", desc := "(Lcom/example/tracewarden/tracewarden/net/Marking;)Z" } : Jvm.MethodName) prog_27_method_4_code (4 : Nat) (Option.some Jvm.ClassFile.FieldType.boolean)]
set_option maxRecDepth 65536 in
theorem codes_eq : words1.filter isCode = codes1 := rfl
theorem w_codes : ∀ c ∈ words1.filter isCode, c.before args0 about1 = true := by
  rw [codes_eq]
  intro c hc
  simp only [codes1, List.mem_cons, List.not_mem_nil, or_false] at hc
  rcases hc with rfl | rfl | rfl | rfl | rfl | rfl | rfl
  · exact w_c0
  · exact w_c1
  · exact w_c2
  · exact w_c3
  · exact w_c4
  · exact w_c5
  · exact w_c6
set_option maxRecDepth 65536 in
theorem w_t1 : (words1.take 24).all (fun c => isCode c || c.before args0 about1) = true := by decide +kernel
set_option maxRecDepth 65536 in
theorem w_t2 : (words1.drop 24).all (fun c => isCode c || c.before args0 about1) = true := by decide +kernel
theorem w_tables : (allAtoms (Jvm.Cond.code x code maxLocals ret :: tables_1)).before args0 about1 = true := by
  rw [allAtoms_all]
  show words1.all (fun c => c.before args0 about1) = true
  refine all_split ?_ w_codes
  rw [← List.take_append_drop 24 words1, List.all_append, w_t1, w_t2]
  rfl
set_option maxRecDepth 65536 in
theorem w_case : (Jvm.Cond.and given_1 narrow_1).before args0 about1 = true := by decide +kernel
theorem w_applies : (headSpec (Jvm.Cond.code x code maxLocals ret :: tables_1) room_1).applies x e0.platform about1 = true :=
  (Spec.applies_iff w_frames).mpr ⟨w_running, w_runnable, w_alone, w_named, w_hears, w_ripe, w_room, w_tables⟩
theorem atStart : AtStart classFile x code maxLocals ret World_1 tables_1 room_1 Calls_1 rest_1 Pre_1 launch0 p0 e0 about1 theMethod args0 below0 :=
  ⟨lists_1, trivial, launch0.admits_env _ _ _, launch0.least_env, fairChoices_fair.cas, fairChoices_fair.clock, w_frames, w_args, w_heap, w_applies, trivial, trivial, w_case⟩
end start1
theorem witness_1 : WitnessClaimed_1 := ⟨start1.p0, start1.e0, start1.about1, start1.theMethod, start1.args0, start1.below0, start1.atStart⟩
end Jvm.Pilot.@@N@@
