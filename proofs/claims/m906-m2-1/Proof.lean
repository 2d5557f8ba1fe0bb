import JvmDerived
import JvmDerived.Pilot.@@N@@Statement
import JvmDerived.Pilot.@@N@@Code
set_option linter.unusedVariables false
set_option linter.unusedSimpArgs false
namespace Jvm.RoadKit
open Sem ClassFile Op Lib Jvm.Stand Jvm.Free Jvm.LawKit
section New
variable {p : Program} {l : Launch} {e : Env} {R : Room} {s : State} {m : MethodId} {args : Array Value} {below : List Frame} {meth : Method} {c : Code} {T : State} {locs : List Loc} {cells slots : Nat}
theorem retI (X : Stand p l e R s m args below meth c T locs cells slots) (hx : p.tables.exec = Jvm.exec) {pc : Nat} {Ls : Array Slot} {z : Int32} {rest : List Value} (hret : meth.sig.returnType = some .int) (hd : decode c.code pc = .ok (.ireturn, 1)) {fs : List Frame}
    (hl : ∀ (f : JFrame) (acts : List Action), f.method = m → f.locked = none → f.entered = [] → (doReturn e (T.setTop f) acts (some (.int z))).1 = T.setFrames fs) : Steps p.tables e below (T.setTop (mkF m pc Ls (.int z :: rest))) (T.setFrames fs) := by
  have hm' : T.vm.method? m = some meth := X.method'
  have hn : narrow .int (.int z) = .int z := rfl
  show Steps p.tables e below (T.setTop { method := m, pc := pc, locals := Ls, stack := _ :: rest, locked := none }) _
  jvm_step X.here [X.here.top, hx, hd, hm', hret, hn]
  first | (intro acts; rw [hl _ acts rfl rfl rfl]) | rw [hl _ _ rfl rfl rfl]
  exact Steps.refl _
end New
end Jvm.RoadKit
namespace Jvm.Pilot.@@N@@
open Jvm Jvm.ClassFile Sem Op Lib Jvm.Free Jvm.Stand Jvm.LawKit Jvm.RoadKit Bundle Jvm.Pilot.@@N@@.Jvm.D

/-! int arrays: n places, place i holds f i -/
def own_IA (Z : State) (h : Heap) (a : Addr) (n : Nat) (f : Nat → Int32) : Prop := ∃ c : Cell, Arr Z h a c .int ∧ Z.vm.findClass "[I" = some c.cls ∧ c.slots.size = n ∧ ∀ i, i < n → c.slots[i]? = some (.int (f i))
theorem own_IA.ext {Z : State} {h h' : Heap} {a : Addr} {n : Nat} {f : Nat → Int32} (F : own_IA Z h a n f) (E : Ext h h') : own_IA Z h' a n f := by
  obtain ⟨c, A, r⟩ := F; exact ⟨c, A.ext E, r⟩
theorem own_IA.other {Z : State} {h h' : Heap} {a b : Addr} {n sl : Nat} {v : Value} {f : Nat → Int32} (F : own_IA Z h a n f) (W : Wr h h' b sl v) (q : a ≠ b) : own_IA Z h' a n f := by
  obtain ⟨c, A, r⟩ := F; exact ⟨c, A.other W q, r⟩
theorem own_IA.keep {Z : State} {h h' : Heap} {a : Addr} {ws : List Addr} {n : Nat} {f : Nat → Int32} (F : own_IA Z h a n f) (K : Keep h h' ws) (q : a ∉ ws) : own_IA Z h' a n f := by
  obtain ⟨c, A, r⟩ := F; exact ⟨c, ⟨K.2.1 a c A.1 q, A.2⟩, r⟩
theorem own_IA.lt {Z : State} {h : Heap} {a : Addr} {n : Nat} {f : Nat → Int32} (F : own_IA Z h a n f) : a < h.size := by
  obtain ⟨c, A, -⟩ := F; exact A.lt
theorem own_IA.fn {Z : State} {h : Heap} {a : Addr} {n : Nat} {f g : Nat → Int32} (F : own_IA Z h a n f) (q : ∀ i, i < n → f i = g i) : own_IA Z h a n g := by
  obtain ⟨c, A, r, s, H⟩ := F; exact ⟨c, A, r, s, fun i hi => by rw [H i hi, q i hi]⟩
theorem own_lt {i n : Nat} (h : i < n) (hn : n ≤ 255) : Int32.ofNat i < Int32.ofNat n := by
  rw [Int32.lt_iff_toInt_lt, Int32.toInt_ofNat_of_lt (by omega), Int32.toInt_ofNat_of_lt (by omega)]
  omega
theorem own_nn {n : Nat} (hn : n ≤ 255) : ¬ Int32.ofNat n < 0 := by
  rw [Int32.lt_iff_toInt_lt, Int32.toInt_ofNat_of_lt (by omega), show (0 : Int32).toInt = 0 from rfl]
  omega
theorem own_n32 {n : Nat} (hn : n ≤ 255) : (Int32.ofNat n).toNatClampNeg = n := by
  rw [Int32.toNatClampNeg, Int32.toInt_ofNat_of_lt (by omega)]; rfl
theorem own_one (i : Nat) : Int32.ofNat i + (1 : Int32) = Int32.ofNat (i + 1) := (Int32.ofNat_add i 1).symm
theorem own_mask (x : Int32) : ∃ n : Nat, n ≤ 3 ∧ (x &&& (3 : Int32)) = Int32.ofNat n := by
  refine ⟨(x &&& 3).toBitVec.toNat, ?_, ?_⟩
  · simp only [Int32.toBitVec_and, BitVec.toNat_and]
    exact Nat.and_le_right
  · apply Int32.toBitVec_inj.mp
    show _ = BitVec.ofNat 32 _
    rw [BitVec.ofNat_toNat]; simp
theorem own_inb {c : Cell} {n i : Nat} (S : c.slots.size = n) (hn : n ≤ 255) (hi : i < n) : ¬ (Int32.ofNat i < 0 ∨ c.slots.size ≤ (Int32.ofNat i).toNatClampNeg) := by
  rw [S, own_n32 (by omega)]
  exact fun q => q.elim (own_nn (by omega)) (fun q => by omega)
theorem own_size {c : Cell} {n : Nat} (S : c.slots.size = n) (hn : n ≤ 255) : c.slots.size = (Int32.ofNat n).toNatClampNeg := by rw [S, own_n32 hn]
section OwnNew
variable {p : Program} {l : Launch} {e : Env} {R : Room} {s : State} {m : MethodId} {args : Array Value} {below : List Frame} {meth : Method} {c : Code} {T : State} {locs : List Loc} {cells slots : Nat} {Z : State} {a0 : Array Value} {h : Heap}
/-- newarray of n ints, n a small natural: the fresh array of zeros, its class known -/
theorem own_newI (X : Stand p l e R s m args below meth c T locs cells slots) (hx : p.tables.exec = Jvm.exec) (hZ : Z.Warmed39 s.vm) (w : (Cond.arrayClass .int).before a0 Z = true) (eT : T.heap = h) {n : Nat} (hn : n ≤ 255) {g : JFrame} (hg : g.method = m) (hd : decode c.code g.pc = .ok (.newarray .int, 2)) {rest : List Value} (hs : g.stack = .int (Int32.ofNat n) :: rest)
    {cap : Nat} (hcap : n ≤ cap) (hc : cells + 1 ≤ R.cells) (hl : slots + cap ≤ R.slots) :
    ∃ T' h', Stand p l e R s m args below meth c T' locs (cells + 1) (slots + cap) ∧ T'.heap = h' ∧ Ext h h' ∧ own_IA Z h' h.size n (fun _ => 0) ∧
      ∀ target, Steps p.tables e below (T'.setTop { g with pc := g.pc + 2, stack := .ref h.size :: rest }) target → Steps p.tables e below (T.setTop g) target := by
  have e1 := own_n32 hn
  obtain ⟨cA, kA, comp, h1, h2, h3, X', st⟩ := X.newarrayPrim (atype := .int) hx (mvA hZ w) hg hd hs (own_nn hn) (by rw [e1]; show n * 4 ≤ _; omega) hc (by rw [e1]; omega)
  subst eT
  have f1 : Z.vm.findClass "[I" = some cA := by rw [← hZ.alike.findClass]; exact h1
  obtain ⟨kZ, z1, -⟩ := Vm.findClass_spec f1
  obtain ⟨k', z2, z3⟩ := hZ.alike.2.2 _ _ z1
  cases h2.symm.trans z2
  refine ⟨_, _, X'.more (Nat.le_refl _) (by rw [e1]; omega), rfl, ⟨?_, fun a c q => ?_⟩, ⟨{ cls := cA, slots := Array.replicate (Int32.ofNat n).toNatClampNeg (defaultValue (newarray.typeOf .int)), vm := .none }, ⟨?_, ⟨?_, kZ, z1, comp, ?_⟩, ?_⟩, f1, ?_, fun i hi => ?_⟩, st⟩
  · show T.heap.size ≤ (T.heap.push _).size; simp
  · show (T.heap.push _)[a]? = _
    rw [Array.getElem?_push_lt (Array.getElem?_eq_some_iff.mp q).1]; exact (Array.getElem?_eq_getElem _).symm.trans q
  · show (T.heap.push _)[T.heap.size]? = some _; exact Array.getElem?_push_size
  · intro q; simp
  · exact (congrArg Class.kind z3).symm.trans h3
  · simp
  · show (Array.replicate _ _).size = n; rw [Array.size_replicate, e1]
  · show (Array.replicate _ _)[i]? = _
    rw [Array.getElem?_replicate, if_pos (by rw [e1]; exact hi)]; rfl
/-- iastore into it -/
theorem own_stI (X : Stand p l e R s m args below meth c T locs cells slots) (hx : p.tables.exec = Jvm.exec) (hZ : Z.Warmed39 s.vm) (eT : T.heap = h) {a : Addr} {n : Nat} {f : Nat → Int32} (hn : n ≤ 255) (F : own_IA Z h a n f) {i : Nat} (hi : i < n) {z : Int32} {g : JFrame} (hg : g.method = m) {rest : List Value} (hs : g.stack = .int z :: .int (Int32.ofNat i) :: .ref a :: rest) (hd : decode c.code g.pc = .ok (.iastore, 1)) :
    ∃ T' h', Stand p l e R s m args below meth c T' (locs ++ [⟨a, i⟩]) cells slots ∧ T'.heap = h' ∧ Keep h h' [a] ∧ own_IA Z h' a n (fun j => if j = i then z else f j) ∧
      ∀ target, Steps p.tables e below (T'.setTop { g with pc := g.pc + 1, stack := rest }) target → Steps p.tables e below (T.setTop g) target := by
  obtain ⟨cl, Ar, q1, S, H⟩ := F
  obtain ⟨T', h', X', e', W, st⟩ := stI X hx hZ eT Ar (j := Int32.ofNat i) (own_inb S hn hi) hg hs hd
  rw [own_n32 (by omega : i ≤ 255)] at X' W
  refine ⟨T', h', X', e', Keep.of_wr W, ⟨_, Ar.same W, q1, by rw [sz_set]; exact S, fun j hj => ?_⟩, st⟩
  by_cases q : j = i
  · subst q; show (cl.setSlot j (.int z)).slots[j]? = some (.int (if j = j then z else f j)); rw [if_pos rfl]; simp [Cell.setSlot, S, hi]
  · show (cl.setSlot i (.int z)).slots[j]? = some (.int (if j = i then z else f j)); rw [if_neg q, ← H j hj]; simp only [Cell.setSlot]; exact Array.getElem?_setIfInBounds_ne (fun z => q z.symm)
end OwnNew
theorem own_andb {a b : Jvm.Cond} {args : Array Value} {s : State} (h1 : a.before args s = true) (h2 : b.before args s = true) : (Jvm.Cond.and a b).before args s = true := by rw [Cond.before_and, h1, h2]; rfl

theorem own_ahi {Z s : State} {a0 args : Array Value} (hw : ∀ d ∈ tables_1, d.before a0 Z = true) (hZ : Z.Warmed39 s.vm) : Jvm.Free.Hash.AHI.tab.before args s = true :=
  own_andb (mvT hZ (hw _ (List.mem_of_getElem? (i := 16) rfl))) (own_andb (mvT hZ (hw _ (List.mem_of_getElem? (i := 24) rfl))) (own_andb (mvT hZ (hw _ (List.mem_of_getElem? (i := 25) rfl))) (own_andb (own_andb (mvT hZ (hw _ (List.mem_of_getElem? (i := 27) rfl))) (own_andb (mvT hZ (hw _ (List.mem_of_getElem? (i := 28) rfl))) (own_andb (mvT hZ (hw _ (List.mem_of_getElem? (i := 30) rfl))) (own_andb (mvT hZ (hw _ (List.mem_of_getElem? (i := 31) rfl))) (own_andb (mvT hZ (hw _ (List.mem_of_getElem? (i := 32) rfl))) (mvT hZ (hw _ (List.mem_of_getElem? (i := 26) rfl)))))))) (own_andb (mvT hZ (hw _ (List.mem_of_getElem? (i := 26) rfl))) (mvT hZ (hw _ (List.mem_of_getElem? (i := 15) rfl)))))))
theorem d1_0 : decode prog_27_method_1_code 0 = .ok (.aload_n 0, 1) := by decide +kernel
theorem d1_1 : decode prog_27_method_1_code 1 = .ok (.invokespecial 5, 3) := by decide +kernel
theorem d1_4 : decode prog_27_method_1_code 4 = .ok (.aload_n 0, 1) := by decide +kernel
theorem d1_5 : decode prog_27_method_1_code 5 = .ok (.aload_n 1, 1) := by decide +kernel
theorem d1_6 : decode prog_27_method_1_code 6 = .ok (.putfield 11, 3) := by decide +kernel
theorem d1_9 : decode prog_27_method_1_code 9 = .ok (.aload_n 0, 1) := by decide +kernel
theorem d1_10 : decode prog_27_method_1_code 10 = .ok (.aload_n 1, 1) := by decide +kernel
theorem d1_11 : decode prog_27_method_1_code 11 = .ok (.invokestatic 15, 3) := by decide +kernel
theorem d1_14 : decode prog_27_method_1_code 14 = .ok (.putfield 21, 3) := by decide +kernel
theorem d1_17 : decode prog_27_method_1_code 17 = .ok (.return_, 1) := by decide +kernel
theorem pn_1 : plainName "com/example/tracewarden/tracewarden/net/Marking" = true := by first | (simp [plainName, overriddenIn]; done) | decide +kernel
theorem pd_1_2 : parseMethodDescriptor "([I)I" = some ⟨[(.array .int)], some .int⟩ := by decide +kernel
theorem ef_1 (m : MethodId) (x0 : Addr) (x1 : Addr) : entryFrame m #[(.ref x0), (.ref x1)] 2 = mkF m 0 #[.val (.ref x0), .val (.ref x1)] [] := by first | (simp [entryFrame, mkF, argsToLocals, Value.category]; done) | rfl
def Q1 (Z : State) (a1 a2 : Addr) (h0 : Heap) (n0 : Nat) (v : Option Value) (h : Heap) (L : List Loc) : Prop := v = none ∧ Fr n0 L ∧ Keep h0 h [a1] ∧ Exa Z h a1 "com/example/tracewarden/tracewarden/net/Marking" ∧ Fld Z h a1 "com/example/tracewarden/tracewarden/net/Marking" "tokens" "[I" (.ref a2)
set_option maxRecDepth 65536 in
set_option maxHeartbeats 40000000 in
theorem rm1 (l : Launch) (Z : State) (a0 : Array Value) (hw : ∀ d ∈ tables_1, d.before a0 Z = true) (ws : List Jvm.Cond) (a1 : Addr) (a2 : Addr) (u_tokens_a1 : Value) (u_hash_a1 : Value) (n : Nat) (f : Nat → Int32) (hn : n ≤ 255) (h0 : Heap) (n0 : Nat) (Z0 : n0 ≤ h0.size) (E_a1 : Exa Z h0 a1 "com/example/tracewarden/tracewarden/net/Marking") (F_tokens_a1 : Fld Z h0 a1 "com/example/tracewarden/tracewarden/net/Marking" "tokens" "[I" u_tokens_a1) (g_a1 : n0 ≤ a1) (F_hash_a1 : Fld Z h0 a1 "com/example/tracewarden/tracewarden/net/Marking" "hash" "I" u_hash_a1) (IA : own_IA Z h0 a2 n f) (hne : a2 ≠ a1) :
    MetFree l (⟨"com/example/tracewarden/tracewarden/net/Marking", "<init>", "([I)V"⟩ : MethodName) (head1 (Jvm.Cond.code (⟨"com/example/tracewarden/tracewarden/net/Marking", "<init>", "([I)V"⟩ : MethodName) prog_27_method_1_code 2 none :: ws) ({ frames := 5, cells := 0, slots := 0, locals := 123 } : Room)) (fun a U => a = #[(.ref a1), (.ref a2)] ∧ Z.Warmed39 U.vm ∧ U.heap = h0) (fun _ _ _ _ _ => True) (fun _ U o U' => ∃ v L, o = .returned v ∧ Q1 Z a1 a2 h0 n0 v U'.heap L ∧ FrameEnd U o U' L ({ frames := 5, cells := 0, slots := 0, locals := 123 } : Room).cells ({ frames := 5, cells := 0, slots := 0, locals := 123 } : Room).slots) := by
  refine MetFree.of_bodySF (plainFor_of_name pn_1) hisR ?_
  intro p e s m args below meth c s₁ Bd hml0 hP hK
  obtain ⟨rfl, hZ, hh⟩ := hP
  have hx := Bd.exec
  have hby := Bd.bytes
  have hml : c.maxLocals = 2 := hml0
  have hown : s.vm.findClass "com/example/tracewarden/tracewarden/net/Marking" = some m.cls := findClass_of_methodNamed Bd.named
  have hnm := (name_of_methodNamed Bd.named Bd.method).1
  have X0 : Stand p l e ({ frames := 5, cells := 0, slots := 0, locals := 123 } : Room) s m #[(.ref a1), (.ref a2)] below meth c s₁ [] 0 0 := Stand.of_body Bd
  have e0 : s₁.heap = h0 := by rw [← hh, Bd.state]; rfl
  have N0 := Fr.nil n0
  have pre0 : ∀ t, Steps p.tables e below (s₁.setTop (mkF m 0 #[.val (.ref a1), .val (.ref a2)] [])) t → Steps p.tables e below (s₁.setTop (entryFrame m #[(.ref a1), (.ref a2)] 2)) t := fun t k => castTop (ef_1 m a1 a2) k
  -- 3. LAWS
  obtain ⟨T3, X3, e3, st3⟩ := initO X0 hx hZ hown (hw _ (List.mem_of_getElem? (i := 8) rfl)) (hw _ (List.mem_of_getElem? (i := 9) rfl)) (hw _ (List.mem_of_getElem? (i := 10) rfl)) e0 (g := (mkF m 1 #[.val (.ref a1), .val (.ref a2)] [(.ref a1)])) rfl (by rw [hml]; rfl) rfl (hb hby d1_1) (by decide) (W := 0) (by show 2 * 0 + _ ≤ _; exact Nat.le_of_eq rfl) (by decide)
  obtain ⟨T4, h4, X4, e4, W4, st4⟩ := putF X3 hx hZ hown (host := "") (Or.inl (hw _ (List.mem_of_getElem? (i := 11) rfl))) Via.refl e3 F_tokens_a1 E_a1 (Or.inr ⟨(hw _ (List.mem_of_getElem? (i := 12) rfl)), rfl, hnm⟩) (hw _ (List.mem_of_getElem? (i := 3) rfl)) (ty := (.array .int)) (by decide) rfl rfl (g := (mkF m 6 #[.val (.ref a1), .val (.ref a2)] [(.ref a2), (.ref a1)])) rfl rfl (hb hby d1_6)
  have Fw4 := F_tokens_a1.same W4      -- the field now holds (.ref a2)
  have K4 : Keep h0 h4 [a1] := (Keep.refl h0 [a1]).wr W4 (Or.inl (List.mem_of_getElem? (i := 0) rfl))
  have N4 := Fr.snoc X4 N0 g_a1
  obtain ⟨cl, Ar, q1, S, H⟩ := IA.other W4 hne
  have hP : ∀ vm₁, s.WarmedH vm₁ → Jvm.Free.Hash.AHI.P a2 cl #[(.ref a2)] (T4.setVm vm₁) := fun vm₁ hW => ⟨rfl, by show T4.heap[a2]? = some cl; rw [e4]; exact Ar.1, State.isArrayOf_alike (wtrans (U := T4.setVm vm₁) hZ hW).alike Ar.2.1, Ar.2.2, by rw [S]; omega, fun i hi => by
    have q := H i (by rw [← S]; exact hi)
    rw [q, show Jvm.Lib.StringLatin1.equals.intAt cl i = f i from by simp only [Jvm.Lib.StringLatin1.equals.intAt, q]], by rw [(wtrans (U := T4.setVm vm₁) hZ hW).alike.findClass]; exact q1⟩
  obtain ⟨v5, vm5, ⟨T5, L5, k5, n5⟩, hW5, X5, ⟨⟨p1, p2, p3, p4⟩, rel⟩, st5⟩ := Jvm.LawKit.callS X4 hx (y := Jvm.Free.Hash.ahiN) hown (mvT hZ (hw _ (List.mem_of_getElem? (i := 13) rfl))) (mvT hZ (hw _ (List.mem_of_getElem? (i := 14) rfl))) (mvT hZ (hw _ (List.mem_of_getElem? (i := 15) rfl))) (mvT hZ (hw _ (List.mem_of_getElem? (i := 16) rfl))) (by decide) (Jvm.Free.Hash.paidAHI (l := l) (W := 1) (len := 3) (by decide) (by decide) (own_ahi hw hZ)) (g := (mkF m 11 #[.val (.ref a1), .val (.ref a2)] [(.ref a2), (.ref a1)])) rfl (by rw [hml]; rfl) (argsL := [(.ref a2)]) (rest := [(.ref a1)]) (lenOf pd_1_2 rfl) rfl (by show 2 * 0 + _ ≤ _; exact Nat.le_of_eq rfl) (hb hby d1_11) (fun vm₁ hW => ⟨(by decide : 0 ≤ _), (by decide : 0 ≤ _), (a2, cl), hP vm₁ hW⟩)
  dsimp only [Pt.U, Pt.locs, Pt.cells, Pt.slots] at X5 p1 p2 p3 p4 rel st5
  subst p2 p3 p4
  have q5 := rel (a2, cl) (hP vm5 hW5)
  obtain ⟨z5, rfl⟩ : ∃ z5 : Int32, v5 = some (.int z5) := ⟨_, q5⟩
  have e5 : T5.heap = h4 := p1.trans e4
  obtain ⟨T6, h6, X6, e6, W6, st6⟩ := putF X5 hx hZ hown (host := "") (Or.inl (hw _ (List.mem_of_getElem? (i := 17) rfl))) Via.refl e5 (F_hash_a1.other W4 (Or.inr (slot_ne (Or.inr (hw _ (List.mem_of_getElem? (i := 18) rfl))) (Or.inr (hw _ (List.mem_of_getElem? (i := 12) rfl))) (by decide) (t := .int) (t' := (.array .int)) (by decide) (by decide)))) (E_a1.wr W4) (Or.inr ⟨(hw _ (List.mem_of_getElem? (i := 18) rfl)), rfl, hnm⟩) (hw _ (List.mem_of_getElem? (i := 3) rfl)) (ty := .int) (by decide) rfl rfl (g := (mkF m 14 #[.val (.ref a1), .val (.ref a2)] [(.int z5), (.ref a1)])) rfl rfl (hb hby d1_14)
  have Ft6 := Fw4.other W6 (Or.inr (slot_ne (Or.inr (hw _ (List.mem_of_getElem? (i := 12) rfl))) (Or.inr (hw _ (List.mem_of_getElem? (i := 18) rfl))) (by decide) (t := (.array .int)) (t' := .int) (by decide) (by decide)))
  have K6 : Keep h0 h6 [a1] := K4.wr W6 (Or.inl (List.mem_of_getElem? (i := 0) rfl))
  have N6 := Fr.snoc X6 N4 g_a1
  obtain ⟨fs, hr, hrun, hended, hW, hsame⟩ := X6.leave (v := none) (fun _ => rfl)
  refine ⟨_, _, pre0 _ ?_, hrun, hended, _, _, rfl, ?_, ⟨_, rfl⟩, hW, hsame.mono (by decide) (by decide)⟩
  -- 4. STEPS
  · show Steps p.tables e below (s₁.setTop (mkF m 0 #[.val (.ref a1), .val (.ref a2)] [])) _
    refine XS.aloadN X0.here hx rfl (hb hby d1_0) rfl rfl ?_
    show Steps p.tables e below (s₁.setTop (mkF m 1 #[.val (.ref a1), .val (.ref a2)] [(.ref a1)])) _
    refine st3 _ ?_
    show Steps p.tables e below (T3.setTop (mkF m 4 #[.val (.ref a1), .val (.ref a2)] [])) _
    refine XS.aloadN X3.here hx rfl (hb hby d1_4) rfl rfl ?_
    show Steps p.tables e below (T3.setTop (mkF m 5 #[.val (.ref a1), .val (.ref a2)] [(.ref a1)])) _
    refine XS.aloadN X3.here hx rfl (hb hby d1_5) rfl rfl ?_
    show Steps p.tables e below (T3.setTop (mkF m 6 #[.val (.ref a1), .val (.ref a2)] [(.ref a2), (.ref a1)])) _
    refine st4 _ ?_
    show Steps p.tables e below (T4.setTop (mkF m 9 #[.val (.ref a1), .val (.ref a2)] [])) _
    refine XS.aloadN X4.here hx rfl (hb hby d1_9) rfl rfl ?_
    show Steps p.tables e below (T4.setTop (mkF m 10 #[.val (.ref a1), .val (.ref a2)] [(.ref a1)])) _
    refine XS.aloadN X4.here hx rfl (hb hby d1_10) rfl rfl ?_
    show Steps p.tables e below (T4.setTop (mkF m 11 #[.val (.ref a1), .val (.ref a2)] [(.ref a2), (.ref a1)])) _
    refine st5 _ ?_
    show Steps p.tables e below (T5.setTop (mkF m 14 #[.val (.ref a1), .val (.ref a2)] [(.int z5), (.ref a1)])) _
    refine st6 _ ?_
    show Steps p.tables e below (T6.setTop (mkF m 17 #[.val (.ref a1), .val (.ref a2)] [])) _
    exact X6.returnOut hx Bd.returns (hb hby d1_17) hr
  · show Q1 Z a1 a2 h0 n0 _ T6.heap _
    rw [e6]
    exact ⟨rfl, N6, K6, ((E_a1.wr W4).wr W6), Ft6⟩
def own_sum (f : Nat → Int32) : Nat → Int64
  | 0 => 0
  | k + 1 => own_sum f k + (f k).toInt64
theorem d4_14 : decode prog_27_method_9_code 14 = .ok (.iload 5, 2) := by decide +kernel
theorem d4_16 : decode prog_27_method_9_code 16 = .ok (.iload 4, 2) := by decide +kernel
theorem d4_18 : decode prog_27_method_9_code 18 = .ok (.if_icmp .ge 21, 3) := by decide +kernel
theorem d4_21 : decode prog_27_method_9_code 21 = .ok (.aload_n 3, 1) := by decide +kernel
theorem d4_22 : decode prog_27_method_9_code 22 = .ok (.iload 5, 2) := by decide +kernel
theorem d4_24 : decode prog_27_method_9_code 24 = .ok (.iaload, 1) := by decide +kernel
theorem d4_25 : decode prog_27_method_9_code 25 = .ok (.istore 6, 2) := by decide +kernel
theorem d4_27 : decode prog_27_method_9_code 27 = .ok (.lload_n 1, 1) := by decide +kernel
theorem d4_28 : decode prog_27_method_9_code 28 = .ok (.iload 6, 2) := by decide +kernel
theorem d4_30 : decode prog_27_method_9_code 30 = .ok (.i2l, 1) := by decide +kernel
theorem d4_31 : decode prog_27_method_9_code 31 = .ok (.ladd, 1) := by decide +kernel
theorem d4_32 : decode prog_27_method_9_code 32 = .ok (.lstore_n 1, 1) := by decide +kernel
theorem d4_33 : decode prog_27_method_9_code 33 = .ok (.iinc 5 1, 3) := by decide +kernel
theorem d4_36 : decode prog_27_method_9_code 36 = .ok (.goto (-22), 3) := by decide +kernel
theorem d4_0 : decode prog_27_method_9_code 0 = .ok (.lconst 0, 1) := by decide +kernel
theorem d4_1 : decode prog_27_method_9_code 1 = .ok (.lstore_n 1, 1) := by decide +kernel
theorem d4_2 : decode prog_27_method_9_code 2 = .ok (.aload_n 0, 1) := by decide +kernel
theorem d4_3 : decode prog_27_method_9_code 3 = .ok (.getfield 11, 3) := by decide +kernel
theorem d4_6 : decode prog_27_method_9_code 6 = .ok (.astore_n 3, 1) := by decide +kernel
theorem d4_7 : decode prog_27_method_9_code 7 = .ok (.aload_n 3, 1) := by decide +kernel
theorem d4_8 : decode prog_27_method_9_code 8 = .ok (.arraylength, 1) := by decide +kernel
theorem d4_9 : decode prog_27_method_9_code 9 = .ok (.istore 4, 2) := by decide +kernel
theorem d4_11 : decode prog_27_method_9_code 11 = .ok (.iconst 0, 1) := by decide +kernel
theorem d4_12 : decode prog_27_method_9_code 12 = .ok (.istore 5, 2) := by decide +kernel
theorem d4_39 : decode prog_27_method_9_code 39 = .ok (.lload_n 1, 1) := by decide +kernel
theorem d4_40 : decode prog_27_method_9_code 40 = .ok (.lreturn, 1) := by decide +kernel
theorem pn_4 : plainName "com/example/tracewarden/tracewarden/net/Marking" = true := by first | (simp [plainName, overriddenIn]; done) | decide +kernel
theorem ef_4 (m : MethodId) (x0 : Addr) : entryFrame m #[(.ref x0)] 7 = mkF m 0 #[.val (.ref x0), .unset, .unset, .unset, .unset, .unset, .unset] [] := by first | (simp [entryFrame, mkF, argsToLocals, Value.category]; done) | rfl
theorem os4_25 {s0 : Slot} {z1 : Value} {z3 : Value} {z4 : Value} {z5 : Value} {s6 : Slot} {v : Int32} (h : One s6) : storeLocals #[s0, .val z1, .second, .val z3, .val z4, .val z5, s6] 6 (.int v) = some #[s0, .val z1, .second, .val z3, .val z4, .val z5, .val (.int v)] := by
  rcases h with rfl | ⟨w, rfl, hw⟩
  · rfl
  · cases w <;> first | rfl | (simp [Value.category] at hw)
set_option maxRecDepth 65536 in
set_option maxHeartbeats 40000000 in
theorem tn4_turn {p : Program} {l : Launch} {e : Env} {R : Room} {s : State} {m : MethodId} {args : Array Value} {below : List Frame} {meth : Method} {c : Code} {T0 : State} {locs : List Loc} {cells slots : Nat} {Z : State} {a0 : Array Value} {h0 : Heap} (s0 : Slot) (j1 : Int64) (o3 : Addr) (i4 : Int32) (i5 : Int32) (s6 : Slot) (w2 : Int32) (cl_o3 : Cell)
    (X0 : Stand p l e R s m args below meth c T0 locs cells slots) (hx : p.tables.exec = Jvm.exec) (hZ : Z.Warmed39 s.vm) (hw : ∀ d ∈ tables_1, d.before a0 Z = true) (hby : c.code = prog_27_method_9_code) (hml : c.maxLocals = 7) (hown : s.vm.findClass "com/example/tracewarden/tracewarden/net/Marking" = some m.cls) (e0 : T0.heap = h0) (Ar_o3 : Arr Z h0 o3 cl_o3 .int) (hin24 : ¬ (i5 < 0 ∨ cl_o3.slots.size ≤ (i5).toNatClampNeg)) (hat24 : cl_o3.slots[(i5).toNatClampNeg]? = some (.int w2)) (hs6 : One s6) (hc18 : i5 < i4) :
    ∃ (T' : State), Stand p l e R s m args below meth c T' locs cells slots ∧ T'.heap = h0 ∧
      ∀ target, Steps p.tables e below (T'.setTop (mkF m 14 #[s0, .val (.long (j1 + (w2.toInt64))), .second, .val (.ref o3), .val (.int i4), .val (.int (i5 + (1 : Int32))), .val (.int w2)] [])) target → Steps p.tables e below (T0.setTop (mkF m 14 #[s0, .val (.long j1), .second, .val (.ref o3), .val (.int i4), .val (.int i5), s6] [])) target := by
  -- 3. LAWS

  refine ⟨T0, X0, e0, fun target kt => ?_⟩
  -- 4. STEPS
  show Steps p.tables e below (T0.setTop (mkF m 14 #[s0, .val (.long j1), .second, .val (.ref o3), .val (.int i4), .val (.int i5), s6] [])) _
  refine XS.iload X0.here hx rfl (hb hby d4_14) rfl ?_
  show Steps p.tables e below (T0.setTop (mkF m 16 #[s0, .val (.long j1), .second, .val (.ref o3), .val (.int i4), .val (.int i5), s6] [(.int i5)])) _
  refine XS.iload X0.here hx rfl (hb hby d4_16) rfl ?_
  show Steps p.tables e below (T0.setTop (mkF m 18 #[s0, .val (.long j1), .second, .val (.ref o3), .val (.int i4), .val (.int i5), s6] [(.int i4), (.int i5)])) _
  refine XS.icmpNo X0.here hx rfl (hb hby d4_18) rfl (tlt hc18).2.1 ?_
  show Steps p.tables e below (T0.setTop (mkF m 21 #[s0, .val (.long j1), .second, .val (.ref o3), .val (.int i4), .val (.int i5), s6] [])) _
  refine XS.aloadN X0.here hx rfl (hb hby d4_21) rfl rfl ?_
  show Steps p.tables e below (T0.setTop (mkF m 22 #[s0, .val (.long j1), .second, .val (.ref o3), .val (.int i4), .val (.int i5), s6] [(.ref o3)])) _
  refine XS.iload X0.here hx rfl (hb hby d4_22) rfl ?_
  show Steps p.tables e below (T0.setTop (mkF m 24 #[s0, .val (.long j1), .second, .val (.ref o3), .val (.int i4), .val (.int i5), s6] [(.int i5), (.ref o3)])) _
  refine X0.iaload hx (j := i5) (v := (.int w2)) (by rw [e0]; exact Ar_o3.1) (State.isArrayOf_alike hZ.alike Ar_o3.2.1) Ar_o3.2.2 hin24 hat24 (g := (mkF m 24 #[s0, .val (.long j1), .second, .val (.ref o3), .val (.int i4), .val (.int i5), s6] [(.int i5), (.ref o3)])) rfl rfl (hb hby d4_24) _ ?_
  show Steps p.tables e below (T0.setTop (mkF m 25 #[s0, .val (.long j1), .second, .val (.ref o3), .val (.int i4), .val (.int i5), s6] [(.int w2)])) _
  refine XS.istore X0.here hx rfl (hb hby d4_25) rfl (l' := #[s0, .val (.long j1), .second, .val (.ref o3), .val (.int i4), .val (.int i5), .val (.int w2)]) (os4_25 hs6) ?_
  show Steps p.tables e below (T0.setTop (mkF m 27 #[s0, .val (.long j1), .second, .val (.ref o3), .val (.int i4), .val (.int i5), .val (.int w2)] [])) _
  refine XS.lloadN X0.here hx rfl (hb hby d4_27) rfl ?_
  show Steps p.tables e below (T0.setTop (mkF m 28 #[s0, .val (.long j1), .second, .val (.ref o3), .val (.int i4), .val (.int i5), .val (.int w2)] [(.long j1)])) _
  refine XS.iload X0.here hx rfl (hb hby d4_28) rfl ?_
  show Steps p.tables e below (T0.setTop (mkF m 30 #[s0, .val (.long j1), .second, .val (.ref o3), .val (.int i4), .val (.int i5), .val (.int w2)] [(.int w2), (.long j1)])) _
  refine XS.i2l X0.here hx rfl (hb hby d4_30) rfl ?_
  show Steps p.tables e below (T0.setTop (mkF m 31 #[s0, .val (.long j1), .second, .val (.ref o3), .val (.int i4), .val (.int i5), .val (.int w2)] [(.long (w2.toInt64)), (.long j1)])) _
  refine XS.ladd X0.here hx rfl (hb hby d4_31) rfl ?_
  show Steps p.tables e below (T0.setTop (mkF m 32 #[s0, .val (.long j1), .second, .val (.ref o3), .val (.int i4), .val (.int i5), .val (.int w2)] [(.long (j1 + (w2.toInt64)))])) _
  refine XS.lstoreN X0.here hx rfl (hb hby d4_32) rfl (l' := #[s0, .val (.long (j1 + (w2.toInt64))), .second, .val (.ref o3), .val (.int i4), .val (.int i5), .val (.int w2)]) rfl ?_
  show Steps p.tables e below (T0.setTop (mkF m 33 #[s0, .val (.long (j1 + (w2.toInt64))), .second, .val (.ref o3), .val (.int i4), .val (.int i5), .val (.int w2)] [])) _
  refine XS.iinc X0.here hx rfl (hb hby d4_33) rfl (l' := #[s0, .val (.long (j1 + (w2.toInt64))), .second, .val (.ref o3), .val (.int i4), .val (.int (i5 + (1 : Int32))), .val (.int w2)]) rfl ?_
  show Steps p.tables e below (T0.setTop (mkF m 36 #[s0, .val (.long (j1 + (w2.toInt64))), .second, .val (.ref o3), .val (.int i4), .val (.int (i5 + (1 : Int32))), .val (.int w2)] [])) _
  refine XS.goto X0.here hx rfl (pc0 := 36) (pc' := 14) rfl (hb hby d4_36) (by decide) (by decide) ?_
  exact kt
set_option maxRecDepth 65536 in
set_option maxHeartbeats 40000000 in
theorem tn4_out {p : Program} {l : Launch} {e : Env} {R : Room} {s : State} {m : MethodId} {args : Array Value} {below : List Frame} {meth : Method} {c : Code} {T0 : State} {locs : List Loc} {cells slots : Nat} {Z : State} {a0 : Array Value} {h0 : Heap} (s0 : Slot) (s1 : Slot) (s2 : Slot) (s3 : Slot) (i4 : Int32) (i5 : Int32) (s6 : Slot)
    (X0 : Stand p l e R s m args below meth c T0 locs cells slots) (hx : p.tables.exec = Jvm.exec) (hZ : Z.Warmed39 s.vm) (hw : ∀ d ∈ tables_1, d.before a0 Z = true) (hby : c.code = prog_27_method_9_code) (hml : c.maxLocals = 7) (hown : s.vm.findClass "com/example/tracewarden/tracewarden/net/Marking" = some m.cls) (e0 : T0.heap = h0) (hc18 : ¬ (i5 < i4)) :
    ∃ (T' : State), Stand p l e R s m args below meth c T' locs cells slots ∧ T'.heap = h0 ∧
      ∀ target, Steps p.tables e below (T'.setTop (mkF m 39 #[s0, s1, s2, s3, .val (.int i4), .val (.int i5), s6] [])) target → Steps p.tables e below (T0.setTop (mkF m 14 #[s0, s1, s2, s3, .val (.int i4), .val (.int i5), s6] [])) target := by
  -- 3. LAWS

  refine ⟨T0, X0, e0, fun target kt => ?_⟩
  -- 4. STEPS
  show Steps p.tables e below (T0.setTop (mkF m 14 #[s0, s1, s2, s3, .val (.int i4), .val (.int i5), s6] [])) _
  refine XS.iload X0.here hx rfl (hb hby d4_14) rfl ?_
  show Steps p.tables e below (T0.setTop (mkF m 16 #[s0, s1, s2, s3, .val (.int i4), .val (.int i5), s6] [(.int i5)])) _
  refine XS.iload X0.here hx rfl (hb hby d4_16) rfl ?_
  show Steps p.tables e below (T0.setTop (mkF m 18 #[s0, s1, s2, s3, .val (.int i4), .val (.int i5), s6] [(.int i4), (.int i5)])) _
  refine XS.icmpYes X0.here hx rfl (pc0 := 18) (pc' := 39) rfl (hb hby d4_18) rfl (flt hc18).2.1 (by decide) (by decide) ?_
  exact kt
set_option maxRecDepth 65536 in
set_option maxHeartbeats 40000000 in
theorem loop4 {p : Program} {l : Launch} {e : Env} {R : Room} {s : State} {m : MethodId} {args : Array Value} {below : List Frame} {meth : Method} {c : Code} {locs : List Loc} {cells slots : Nat} {Z : State} {a0 : Array Value} {h0 : Heap} (a1 w2 : Addr) (f : Nat → Int32) (n : Nat) (hn : n ≤ 255) (hx : p.tables.exec = Jvm.exec) (hZ : Z.Warmed39 s.vm) (hw : ∀ d ∈ tables_1, d.before a0 Z = true) (hby : c.code = prog_27_method_9_code) (hml : c.maxLocals = 7) (hown : s.vm.findClass "com/example/tracewarden/tracewarden/net/Marking" = some m.cls) (cl : Cell) (Ar : Arr Z h0 w2 cl .int) (S : cl.slots.size = n) (hat : ∀ j, j < n → cl.slots[j]? = some (.int (f j))) :
    ∀ (k i : Nat) (s6 : Slot) (T0 : State), i + k = n → One s6 → Stand p l e R s m args below meth c T0 locs cells slots → T0.heap = h0 →
      ∃ (T' : State) (s6' : Slot), Stand p l e R s m args below meth c T' locs cells slots ∧ T'.heap = h0 ∧
        ∀ target, Steps p.tables e below (T'.setTop (mkF m 39 #[.val (.ref a1), .val (.long (own_sum f n)), .second, .val (.ref w2), .val (.int (Int32.ofNat n)), .val (.int (Int32.ofNat n)), s6'] [])) target → Steps p.tables e below (T0.setTop (mkF m 14 #[.val (.ref a1), .val (.long (own_sum f i)), .second, .val (.ref w2), .val (.int (Int32.ofNat n)), .val (.int (Int32.ofNat i)), s6] [])) target := by
  intro k
  induction k with
  | zero =>
    intro i s6 T0 hi h6 X0 e0
    obtain rfl : i = n := by omega
    obtain ⟨T1, X1, e1, st1⟩ := tn4_out (.val (.ref a1)) (.val (.long (own_sum f i))) .second (.val (.ref w2)) (Int32.ofNat i) (Int32.ofNat i) s6 X0 hx hZ hw hby hml hown e0 Int32.lt_irrefl
    exact ⟨T1, s6, X1, e1, st1⟩
  | succ k ih =>
    intro i s6 T0 hi h6 X0 e0
    obtain ⟨T1, X1, e1, st1⟩ := tn4_turn (.val (.ref a1)) (own_sum f i) w2 (Int32.ofNat n) (Int32.ofNat i) s6 (f i) cl X0 hx hZ hw hby hml hown e0 Ar (own_inb S hn (by omega)) (by rw [own_n32 (by omega)]; exact hat i (by omega)) h6 (own_lt (by omega) hn)
    obtain ⟨T', s6', X', e', st⟩ := ih (i + 1) (.val (.int (f i))) T1 (by omega) (One.val rfl) X1 e1
    refine ⟨T', s6', X', e', fun target h => st1 target ?_⟩
    rw [own_one]
    exact st target h
def Q4 (f : Nat → Int32) (n : Nat) (h0 : Heap) (n0 : Nat) (v : Option Value) (h : Heap) (L : List Loc) : Prop := v = some (.long (own_sum f n)) ∧ Fr n0 L ∧ h = h0
set_option maxRecDepth 65536 in
set_option maxHeartbeats 40000000 in
theorem rm4 (l : Launch) (Z : State) (a0 : Array Value) (hw : ∀ d ∈ tables_1, d.before a0 Z = true) (ws : List Jvm.Cond) (a1 : Addr) (w2 : Addr) (n : Nat) (f : Nat → Int32) (hn : n ≤ 255) (h0 : Heap) (n0 : Nat) (Z0 : n0 ≤ h0.size) (F_tokens_a1 : Fld Z h0 a1 "com/example/tracewarden/tracewarden/net/Marking" "tokens" "[I" (.ref w2)) (IA : own_IA Z h0 w2 n f) :
    MetFree l (⟨"com/example/tracewarden/tracewarden/net/Marking", "tokenTotal", "()J"⟩ : MethodName) (head1 (Jvm.Cond.code (⟨"com/example/tracewarden/tracewarden/net/Marking", "tokenTotal", "()J"⟩ : MethodName) prog_27_method_9_code 7 (some .long) :: ws) ({ frames := 0, cells := 0, slots := 0, locals := 0 } : Room)) (fun a U => a = #[(.ref a1)] ∧ Z.Warmed39 U.vm ∧ U.heap = h0) (fun _ _ _ _ _ => True) (fun _ U o U' => ∃ v L, o = .returned v ∧ Q4 f n h0 n0 v U'.heap L ∧ FrameEnd U o U' L ({ frames := 0, cells := 0, slots := 0, locals := 0 } : Room).cells ({ frames := 0, cells := 0, slots := 0, locals := 0 } : Room).slots) := by
  refine MetFree.of_bodySF (plainFor_of_name pn_4) hisR ?_
  intro p e s m args below meth c s₁ Bd hml0 hP hK
  obtain ⟨rfl, hZ, hh⟩ := hP
  have hx := Bd.exec
  have hby := Bd.bytes
  have hml : c.maxLocals = 7 := hml0
  have hown : s.vm.findClass "com/example/tracewarden/tracewarden/net/Marking" = some m.cls := findClass_of_methodNamed Bd.named
  have hnm := (name_of_methodNamed Bd.named Bd.method).1
  have X0 : Stand p l e ({ frames := 0, cells := 0, slots := 0, locals := 0 } : Room) s m #[(.ref a1)] below meth c s₁ [] 0 0 := Stand.of_body Bd
  have e0 : s₁.heap = h0 := by rw [← hh, Bd.state]; rfl
  have N0 := Fr.nil n0
  have pre0 : ∀ t, Steps p.tables e below (s₁.setTop (mkF m 0 #[.val (.ref a1), .unset, .unset, .unset, .unset, .unset, .unset] [])) t → Steps p.tables e below (s₁.setTop (entryFrame m #[(.ref a1)] 7)) t := fun t k => castTop (ef_4 m a1) k
  -- 3. LAWS
  obtain ⟨T3, X3, e3, st3⟩ := getF X0 hx hZ hown (host := "") (Or.inl (hw _ (List.mem_of_getElem? (i := 11) rfl))) Via.refl e0 F_tokens_a1 (g := (mkF m 3 #[.val (.ref a1), .val (.long (0 : Int64)), .second, .unset, .unset, .unset, .unset] [(.ref a1)])) rfl rfl (hb hby d4_3)
  obtain ⟨cl, Ar_w2, q1, S, H⟩ := IA
  have S_w2 := own_size S hn
  have N_w2 := own_nn hn
  obtain ⟨T9, s9, X9, e9, st9⟩ := loop4 a1 w2 f n hn hx hZ hw hby hml hown cl Ar_w2 S H n 0 .unset T3 (by omega) One.u X3 e3
  obtain ⟨fs, hr, hrun, hended, hW, hsame⟩ := X9.leave (v := some (.long (own_sum f n))) (fun h => by rw [Bd.returns] at h; cases h)
  refine ⟨_, _, pre0 _ ?_, hrun, hended, _, _, rfl, ?_, ⟨_, rfl⟩, hW, hsame.mono (by decide) (by decide)⟩
  -- 4. STEPS
  · show Steps p.tables e below (s₁.setTop (mkF m 0 #[.val (.ref a1), .unset, .unset, .unset, .unset, .unset, .unset] [])) _
    refine XS.lconst X0.here hx rfl (hb hby d4_0) ?_
    show Steps p.tables e below (s₁.setTop (mkF m 1 #[.val (.ref a1), .unset, .unset, .unset, .unset, .unset, .unset] [(.long (0 : Int64))])) _
    refine XS.lstoreN X0.here hx rfl (hb hby d4_1) rfl (l' := #[.val (.ref a1), .val (.long (0 : Int64)), .second, .unset, .unset, .unset, .unset]) rfl ?_
    show Steps p.tables e below (s₁.setTop (mkF m 2 #[.val (.ref a1), .val (.long (0 : Int64)), .second, .unset, .unset, .unset, .unset] [])) _
    refine XS.aloadN X0.here hx rfl (hb hby d4_2) rfl rfl ?_
    show Steps p.tables e below (s₁.setTop (mkF m 3 #[.val (.ref a1), .val (.long (0 : Int64)), .second, .unset, .unset, .unset, .unset] [(.ref a1)])) _
    refine st3 _ ?_
    show Steps p.tables e below (T3.setTop (mkF m 6 #[.val (.ref a1), .val (.long (0 : Int64)), .second, .unset, .unset, .unset, .unset] [(.ref w2)])) _
    refine XS.astoreN X3.here hx rfl (hb hby d4_6) rfl rfl (l' := #[.val (.ref a1), .val (.long (0 : Int64)), .second, .val (.ref w2), .unset, .unset, .unset]) rfl ?_
    show Steps p.tables e below (T3.setTop (mkF m 7 #[.val (.ref a1), .val (.long (0 : Int64)), .second, .val (.ref w2), .unset, .unset, .unset] [])) _
    refine XS.aloadN X3.here hx rfl (hb hby d4_7) rfl rfl ?_
    show Steps p.tables e below (T3.setTop (mkF m 8 #[.val (.ref a1), .val (.long (0 : Int64)), .second, .val (.ref w2), .unset, .unset, .unset] [(.ref w2)])) _
    refine X3.arraylength hx (by rw [e3]; exact Ar_w2.1) (State.isArrayOf_alike hZ.alike Ar_w2.2.1) (g := (mkF m 8 #[.val (.ref a1), .val (.long (0 : Int64)), .second, .val (.ref w2), .unset, .unset, .unset] [(.ref w2)])) rfl rfl (hb hby d4_8) _ ?_
    rw [len_of S_w2 N_w2]
    show Steps p.tables e below (T3.setTop (mkF m 9 #[.val (.ref a1), .val (.long (0 : Int64)), .second, .val (.ref w2), .unset, .unset, .unset] [(.int (Int32.ofNat n))])) _
    refine XS.istore X3.here hx rfl (hb hby d4_9) rfl (l' := #[.val (.ref a1), .val (.long (0 : Int64)), .second, .val (.ref w2), .val (.int (Int32.ofNat n)), .unset, .unset]) rfl ?_
    show Steps p.tables e below (T3.setTop (mkF m 11 #[.val (.ref a1), .val (.long (0 : Int64)), .second, .val (.ref w2), .val (.int (Int32.ofNat n)), .unset, .unset] [])) _
    refine XS.iconst X3.here hx rfl (hb hby d4_11) ?_
    show Steps p.tables e below (T3.setTop (mkF m 12 #[.val (.ref a1), .val (.long (0 : Int64)), .second, .val (.ref w2), .val (.int (Int32.ofNat n)), .unset, .unset] [(.int (0 : Int32))])) _
    refine XS.istore X3.here hx rfl (hb hby d4_12) rfl (l' := #[.val (.ref a1), .val (.long (0 : Int64)), .second, .val (.ref w2), .val (.int (Int32.ofNat n)), .val (.int (0 : Int32)), .unset]) rfl ?_
    show Steps p.tables e below (T3.setTop (mkF m 14 #[.val (.ref a1), .val (.long (0 : Int64)), .second, .val (.ref w2), .val (.int (Int32.ofNat n)), .val (.int (0 : Int32)), .unset] [])) _
    refine st9 _ ?_
    show Steps p.tables e below (T9.setTop (mkF m 39 #[.val (.ref a1), .val (.long (own_sum f n)), .second, .val (.ref w2), .val (.int (Int32.ofNat n)), .val (.int (Int32.ofNat n)), s9] [])) _
    refine XS.lloadN X9.here hx rfl (hb hby d4_39) rfl ?_
    show Steps p.tables e below (T9.setTop (mkF m 40 #[.val (.ref a1), .val (.long (own_sum f n)), .second, .val (.ref w2), .val (.int (Int32.ofNat n)), .val (.int (Int32.ofNat n)), s9] [(.long (own_sum f n))])) _
    jvm_step X9.here [X9.here.top, hx, (hb hby d4_40), X9.method', Bd.returns, narrow]
    first | (intro acts; rw [hr _ acts rfl rfl rfl]) | rw [hr _ _ rfl rfl rfl]
    exact Steps.refl _
  · show Q4 f n h0 n0 _ T9.heap _
    rw [e9]
    exact ⟨rfl, N0, rfl⟩
def own_f (x y z : Int32) (i : Nat) : Int32 := if i = 0 then x else if i = 1 then y else z
set_option maxRecDepth 65536 in
set_option maxHeartbeats 40000000 in
theorem own_arr0 {p : Program} {l : Launch} {e : Env} {s : State} {m : MethodId} {args : Array Value} {below : List Frame} {meth : Method} {c : Code} {T : State} {Z : State} {a0 : Array Value} {h0 : Heap} (i0 i1 i2 i3 x y z : Int32) (X : Stand p l e room_1 s m args below meth c T [] 0 0) (hx : p.tables.exec = Jvm.exec) (hZ : Z.Warmed39 s.vm) (hw : ∀ d ∈ tables_1, d.before a0 Z = true) (hby : c.code = code) (hown : s.vm.findClass "com/example/tracewarden/tracewarden/net/MarkingTokenTotalPinLaw" = some m.cls) (e0 : T.heap = h0) {n0 : Nat} (Z0 : n0 ≤ h0.size) :
    ∃ (T' : State) (h' : Heap) (L' : List Loc) (b : Addr) (E : Int64), E = own_sum (own_f x y z) 0 ∧ Stand p l e room_1 s m args below meth c T' L' 1 3 ∧ T'.heap = h' ∧ Fr n0 L' ∧ n0 ≤ h'.size ∧ own_IA Z h' b 0 (own_f x y z) ∧
      ∀ target, Steps p.tables e below (T'.setTop (mkF m 129 #[.val (.int i0), .val (.int i1), .val (.int i2), .val (.int i3), .val (.int (Int32.ofNat 0)), .val (.int x), .val (.int y), .val (.int z), .val (.ref b), .val (.long E), .second, .unset] [])) target → Steps p.tables e below (T.setTop (mkF m 23 #[.val (.int i0), .val (.int i1), .val (.int i2), .val (.int i3), .val (.int (Int32.ofNat 0)), .val (.int x), .val (.int y), .val (.int z), .unset, .unset, .unset, .unset] [])) target := by
  obtain ⟨T1, h1, X1, e1, E1, A1, st1⟩ := own_newI X hx hZ (hw _ (List.mem_of_getElem? (i := 1) rfl)) e0 (n := 0) (by decide) (g := (mkF m 29 #[.val (.int i0), .val (.int i1), .val (.int i2), .val (.int i3), .val (.int (Int32.ofNat 0)), .val (.int x), .val (.int y), .val (.int z), .unset, .unset, .unset, .unset] [(.int (0 : Int32))])) rfl (hb hby at_29) rfl (cap := 3) (by decide) (by decide) (by decide)
  obtain ⟨b, gb⟩ : ∃ z, z = h0.size := ⟨_, rfl⟩
  rw [← gb] at A1 st1
  have g_b : n0 ≤ b := Nat.le_trans Z0 (Nat.le_of_eq gb.symm)
  have Z1 : n0 ≤ h1.size := Nat.le_trans Z0 E1.1
  have N1 := Fr.nil n0
  have AF : own_IA Z h1 b 0 (own_f x y z) := A1.fn fun i hi => by
    exact absurd hi (Nat.not_lt_zero _)
  refine ⟨T1, h1, _, b, _, rfl, X1, e1, N1, Z1, AF, fun target kt => ?_⟩
  show Steps p.tables e below (T.setTop (mkF m 23 #[.val (.int i0), .val (.int i1), .val (.int i2), .val (.int i3), .val (.int (Int32.ofNat 0)), .val (.int x), .val (.int y), .val (.int z), .unset, .unset, .unset, .unset] [])) _
  refine XS.iload X.here hx rfl (hb hby at_23) rfl ?_
  show Steps p.tables e below (T.setTop (mkF m 25 #[.val (.int i0), .val (.int i1), .val (.int i2), .val (.int i3), .val (.int (Int32.ofNat 0)), .val (.int x), .val (.int y), .val (.int z), .unset, .unset, .unset, .unset] [(.int (Int32.ofNat 0))])) _
  refine XS.ifNo X.here hx rfl (hb hby at_25) rfl ((if0 _ _).trans (teq (by decide : (Int32.ofNat 0) = (0 : Int32))).2) ?_
  show Steps p.tables e below (T.setTop (mkF m 28 #[.val (.int i0), .val (.int i1), .val (.int i2), .val (.int i3), .val (.int (Int32.ofNat 0)), .val (.int x), .val (.int y), .val (.int z), .unset, .unset, .unset, .unset] [])) _
  refine XS.iconst X.here hx rfl (hb hby at_28) ?_
  refine st1 _ ?_
  show Steps p.tables e below (T1.setTop (mkF m 31 #[.val (.int i0), .val (.int i1), .val (.int i2), .val (.int i3), .val (.int (Int32.ofNat 0)), .val (.int x), .val (.int y), .val (.int z), .unset, .unset, .unset, .unset] [(.ref b)])) _
  refine XS.astore X1.here hx rfl (hb hby at_31) rfl rfl (l' := #[.val (.int i0), .val (.int i1), .val (.int i2), .val (.int i3), .val (.int (Int32.ofNat 0)), .val (.int x), .val (.int y), .val (.int z), .val (.ref b), .unset, .unset, .unset]) rfl ?_
  show Steps p.tables e below (T1.setTop (mkF m 33 #[.val (.int i0), .val (.int i1), .val (.int i2), .val (.int i3), .val (.int (Int32.ofNat 0)), .val (.int x), .val (.int y), .val (.int z), .val (.ref b), .unset, .unset, .unset] [])) _
  refine XS.lconst X1.here hx rfl (hb hby at_33) ?_
  show Steps p.tables e below (T1.setTop (mkF m 34 #[.val (.int i0), .val (.int i1), .val (.int i2), .val (.int i3), .val (.int (Int32.ofNat 0)), .val (.int x), .val (.int y), .val (.int z), .val (.ref b), .unset, .unset, .unset] [(.long (0 : Int64))])) _
  refine XS.lstore X1.here hx rfl (hb hby at_34) rfl (l' := #[.val (.int i0), .val (.int i1), .val (.int i2), .val (.int i3), .val (.int (Int32.ofNat 0)), .val (.int x), .val (.int y), .val (.int z), .val (.ref b), .val (.long (0 : Int64)), .second, .unset]) rfl ?_
  show Steps p.tables e below (T1.setTop (mkF m 36 #[.val (.int i0), .val (.int i1), .val (.int i2), .val (.int i3), .val (.int (Int32.ofNat 0)), .val (.int x), .val (.int y), .val (.int z), .val (.ref b), .val (.long (0 : Int64)), .second, .unset] [])) _
  refine XS.goto X1.here hx rfl (pc0 := 36) (pc' := 129) rfl (hb hby at_36) (by decide) (by decide) ?_
  rw [show own_sum (own_f x y z) 0 = (0 : Int64) from by simp [own_sum, own_f]] at kt
  exact kt
set_option maxRecDepth 65536 in
set_option maxHeartbeats 40000000 in
theorem own_arr1 {p : Program} {l : Launch} {e : Env} {s : State} {m : MethodId} {args : Array Value} {below : List Frame} {meth : Method} {c : Code} {T : State} {Z : State} {a0 : Array Value} {h0 : Heap} (i0 i1 i2 i3 x y z : Int32) (X : Stand p l e room_1 s m args below meth c T [] 0 0) (hx : p.tables.exec = Jvm.exec) (hZ : Z.Warmed39 s.vm) (hw : ∀ d ∈ tables_1, d.before a0 Z = true) (hby : c.code = code) (hown : s.vm.findClass "com/example/tracewarden/tracewarden/net/MarkingTokenTotalPinLaw" = some m.cls) (e0 : T.heap = h0) {n0 : Nat} (Z0 : n0 ≤ h0.size) :
    ∃ (T' : State) (h' : Heap) (L' : List Loc) (b : Addr) (E : Int64), E = own_sum (own_f x y z) 1 ∧ Stand p l e room_1 s m args below meth c T' L' 1 3 ∧ T'.heap = h' ∧ Fr n0 L' ∧ n0 ≤ h'.size ∧ own_IA Z h' b 1 (own_f x y z) ∧
      ∀ target, Steps p.tables e below (T'.setTop (mkF m 129 #[.val (.int i0), .val (.int i1), .val (.int i2), .val (.int i3), .val (.int (Int32.ofNat 1)), .val (.int x), .val (.int y), .val (.int z), .val (.ref b), .val (.long E), .second, .unset] [])) target → Steps p.tables e below (T.setTop (mkF m 23 #[.val (.int i0), .val (.int i1), .val (.int i2), .val (.int i3), .val (.int (Int32.ofNat 1)), .val (.int x), .val (.int y), .val (.int z), .unset, .unset, .unset, .unset] [])) target := by
  obtain ⟨T1, h1, X1, e1, E1, A1, st1⟩ := own_newI X hx hZ (hw _ (List.mem_of_getElem? (i := 1) rfl)) e0 (n := 1) (by decide) (g := (mkF m 46 #[.val (.int i0), .val (.int i1), .val (.int i2), .val (.int i3), .val (.int (Int32.ofNat 1)), .val (.int x), .val (.int y), .val (.int z), .unset, .unset, .unset, .unset] [(.int (1 : Int32))])) rfl (hb hby at_46) rfl (cap := 3) (by decide) (by decide) (by decide)
  obtain ⟨b, gb⟩ : ∃ z, z = h0.size := ⟨_, rfl⟩
  rw [← gb] at A1 st1
  have g_b : n0 ≤ b := Nat.le_trans Z0 (Nat.le_of_eq gb.symm)
  have Z1 : n0 ≤ h1.size := Nat.le_trans Z0 E1.1
  have N1 := Fr.nil n0
  obtain ⟨T2, h2, X2, e2, K2, A2, st2⟩ := own_stI X1 hx hZ e1 (by decide) A1 (i := 0) (by decide) (g := (mkF m 52 #[.val (.int i0), .val (.int i1), .val (.int i2), .val (.int i3), .val (.int (Int32.ofNat 1)), .val (.int x), .val (.int y), .val (.int z), .unset, .unset, .unset, .unset] [(.int x), (.int (0 : Int32)), (.ref b), (.ref b)])) rfl rfl (hb hby at_52)
  have N2 := Fr.snoc X2 N1 g_b
  have Z2 : n0 ≤ h2.size := Nat.le_trans Z1 K2.1
  have AF : own_IA Z h2 b 1 (own_f x y z) := A2.fn fun i hi => by
    have hi' : i = 0 := by omega
    rcases hi' with rfl <;> simp [own_f]
  refine ⟨T2, h2, _, b, _, rfl, X2, e2, N2, Z2, AF, fun target kt => ?_⟩
  show Steps p.tables e below (T.setTop (mkF m 23 #[.val (.int i0), .val (.int i1), .val (.int i2), .val (.int i3), .val (.int (Int32.ofNat 1)), .val (.int x), .val (.int y), .val (.int z), .unset, .unset, .unset, .unset] [])) _
  refine XS.iload X.here hx rfl (hb hby at_23) rfl ?_
  show Steps p.tables e below (T.setTop (mkF m 25 #[.val (.int i0), .val (.int i1), .val (.int i2), .val (.int i3), .val (.int (Int32.ofNat 1)), .val (.int x), .val (.int y), .val (.int z), .unset, .unset, .unset, .unset] [(.int (Int32.ofNat 1))])) _
  refine XS.ifYes X.here hx rfl (pc0 := 25) (pc' := 39) rfl (hb hby at_25) rfl ((if0 _ _).trans (feq (by decide : ¬ ((Int32.ofNat 1) = (0 : Int32)))).2) (by decide) (by decide) ?_
  show Steps p.tables e below (T.setTop (mkF m 39 #[.val (.int i0), .val (.int i1), .val (.int i2), .val (.int i3), .val (.int (Int32.ofNat 1)), .val (.int x), .val (.int y), .val (.int z), .unset, .unset, .unset, .unset] [])) _
  refine XS.iload X.here hx rfl (hb hby at_39) rfl ?_
  show Steps p.tables e below (T.setTop (mkF m 41 #[.val (.int i0), .val (.int i1), .val (.int i2), .val (.int i3), .val (.int (Int32.ofNat 1)), .val (.int x), .val (.int y), .val (.int z), .unset, .unset, .unset, .unset] [(.int (Int32.ofNat 1))])) _
  refine XS.iconst X.here hx rfl (hb hby at_41) ?_
  show Steps p.tables e below (T.setTop (mkF m 42 #[.val (.int i0), .val (.int i1), .val (.int i2), .val (.int i3), .val (.int (Int32.ofNat 1)), .val (.int x), .val (.int y), .val (.int z), .unset, .unset, .unset, .unset] [(.int (1 : Int32)), (.int (Int32.ofNat 1))])) _
  refine XS.icmpNo X.here hx rfl (hb hby at_42) rfl (teq (by decide : (Int32.ofNat 1) = (1 : Int32))).2 ?_
  show Steps p.tables e below (T.setTop (mkF m 45 #[.val (.int i0), .val (.int i1), .val (.int i2), .val (.int i3), .val (.int (Int32.ofNat 1)), .val (.int x), .val (.int y), .val (.int z), .unset, .unset, .unset, .unset] [])) _
  refine XS.iconst X.here hx rfl (hb hby at_45) ?_
  refine st1 _ ?_
  show Steps p.tables e below (T1.setTop (mkF m 48 #[.val (.int i0), .val (.int i1), .val (.int i2), .val (.int i3), .val (.int (Int32.ofNat 1)), .val (.int x), .val (.int y), .val (.int z), .unset, .unset, .unset, .unset] [(.ref b)])) _
  refine XS.dup X1.here hx rfl (hb hby at_48) rfl rfl ?_
  show Steps p.tables e below (T1.setTop (mkF m 49 #[.val (.int i0), .val (.int i1), .val (.int i2), .val (.int i3), .val (.int (Int32.ofNat 1)), .val (.int x), .val (.int y), .val (.int z), .unset, .unset, .unset, .unset] [(.ref b), (.ref b)])) _
  refine XS.iconst X1.here hx rfl (hb hby at_49) ?_
  show Steps p.tables e below (T1.setTop (mkF m 50 #[.val (.int i0), .val (.int i1), .val (.int i2), .val (.int i3), .val (.int (Int32.ofNat 1)), .val (.int x), .val (.int y), .val (.int z), .unset, .unset, .unset, .unset] [(.int (0 : Int32)), (.ref b), (.ref b)])) _
  refine XS.iload X1.here hx rfl (hb hby at_50) rfl ?_
  refine st2 _ ?_
  show Steps p.tables e below (T2.setTop (mkF m 53 #[.val (.int i0), .val (.int i1), .val (.int i2), .val (.int i3), .val (.int (Int32.ofNat 1)), .val (.int x), .val (.int y), .val (.int z), .unset, .unset, .unset, .unset] [(.ref b)])) _
  refine XS.astore X2.here hx rfl (hb hby at_53) rfl rfl (l' := #[.val (.int i0), .val (.int i1), .val (.int i2), .val (.int i3), .val (.int (Int32.ofNat 1)), .val (.int x), .val (.int y), .val (.int z), .val (.ref b), .unset, .unset, .unset]) rfl ?_
  show Steps p.tables e below (T2.setTop (mkF m 55 #[.val (.int i0), .val (.int i1), .val (.int i2), .val (.int i3), .val (.int (Int32.ofNat 1)), .val (.int x), .val (.int y), .val (.int z), .val (.ref b), .unset, .unset, .unset] [])) _
  refine XS.iload X2.here hx rfl (hb hby at_55) rfl ?_
  show Steps p.tables e below (T2.setTop (mkF m 57 #[.val (.int i0), .val (.int i1), .val (.int i2), .val (.int i3), .val (.int (Int32.ofNat 1)), .val (.int x), .val (.int y), .val (.int z), .val (.ref b), .unset, .unset, .unset] [(.int x)])) _
  refine XS.i2l X2.here hx rfl (hb hby at_57) rfl ?_
  show Steps p.tables e below (T2.setTop (mkF m 58 #[.val (.int i0), .val (.int i1), .val (.int i2), .val (.int i3), .val (.int (Int32.ofNat 1)), .val (.int x), .val (.int y), .val (.int z), .val (.ref b), .unset, .unset, .unset] [(.long (x.toInt64))])) _
  refine XS.lstore X2.here hx rfl (hb hby at_58) rfl (l' := #[.val (.int i0), .val (.int i1), .val (.int i2), .val (.int i3), .val (.int (Int32.ofNat 1)), .val (.int x), .val (.int y), .val (.int z), .val (.ref b), .val (.long (x.toInt64)), .second, .unset]) rfl ?_
  show Steps p.tables e below (T2.setTop (mkF m 60 #[.val (.int i0), .val (.int i1), .val (.int i2), .val (.int i3), .val (.int (Int32.ofNat 1)), .val (.int x), .val (.int y), .val (.int z), .val (.ref b), .val (.long (x.toInt64)), .second, .unset] [])) _
  refine XS.goto X2.here hx rfl (pc0 := 60) (pc' := 129) rfl (hb hby at_60) (by decide) (by decide) ?_
  rw [show own_sum (own_f x y z) 1 = (x.toInt64) from by simp [own_sum, own_f]] at kt
  exact kt
set_option maxRecDepth 65536 in
set_option maxHeartbeats 40000000 in
theorem own_arr2 {p : Program} {l : Launch} {e : Env} {s : State} {m : MethodId} {args : Array Value} {below : List Frame} {meth : Method} {c : Code} {T : State} {Z : State} {a0 : Array Value} {h0 : Heap} (i0 i1 i2 i3 x y z : Int32) (X : Stand p l e room_1 s m args below meth c T [] 0 0) (hx : p.tables.exec = Jvm.exec) (hZ : Z.Warmed39 s.vm) (hw : ∀ d ∈ tables_1, d.before a0 Z = true) (hby : c.code = code) (hown : s.vm.findClass "com/example/tracewarden/tracewarden/net/MarkingTokenTotalPinLaw" = some m.cls) (e0 : T.heap = h0) {n0 : Nat} (Z0 : n0 ≤ h0.size) :
    ∃ (T' : State) (h' : Heap) (L' : List Loc) (b : Addr) (E : Int64), E = own_sum (own_f x y z) 2 ∧ Stand p l e room_1 s m args below meth c T' L' 1 3 ∧ T'.heap = h' ∧ Fr n0 L' ∧ n0 ≤ h'.size ∧ own_IA Z h' b 2 (own_f x y z) ∧
      ∀ target, Steps p.tables e below (T'.setTop (mkF m 129 #[.val (.int i0), .val (.int i1), .val (.int i2), .val (.int i3), .val (.int (Int32.ofNat 2)), .val (.int x), .val (.int y), .val (.int z), .val (.ref b), .val (.long E), .second, .unset] [])) target → Steps p.tables e below (T.setTop (mkF m 23 #[.val (.int i0), .val (.int i1), .val (.int i2), .val (.int i3), .val (.int (Int32.ofNat 2)), .val (.int x), .val (.int y), .val (.int z), .unset, .unset, .unset, .unset] [])) target := by
  obtain ⟨T1, h1, X1, e1, E1, A1, st1⟩ := own_newI X hx hZ (hw _ (List.mem_of_getElem? (i := 1) rfl)) e0 (n := 2) (by decide) (g := (mkF m 70 #[.val (.int i0), .val (.int i1), .val (.int i2), .val (.int i3), .val (.int (Int32.ofNat 2)), .val (.int x), .val (.int y), .val (.int z), .unset, .unset, .unset, .unset] [(.int (2 : Int32))])) rfl (hb hby at_70) rfl (cap := 3) (by decide) (by decide) (by decide)
  obtain ⟨b, gb⟩ : ∃ z, z = h0.size := ⟨_, rfl⟩
  rw [← gb] at A1 st1
  have g_b : n0 ≤ b := Nat.le_trans Z0 (Nat.le_of_eq gb.symm)
  have Z1 : n0 ≤ h1.size := Nat.le_trans Z0 E1.1
  have N1 := Fr.nil n0
  obtain ⟨T2, h2, X2, e2, K2, A2, st2⟩ := own_stI X1 hx hZ e1 (by decide) A1 (i := 0) (by decide) (g := (mkF m 76 #[.val (.int i0), .val (.int i1), .val (.int i2), .val (.int i3), .val (.int (Int32.ofNat 2)), .val (.int x), .val (.int y), .val (.int z), .unset, .unset, .unset, .unset] [(.int x), (.int (0 : Int32)), (.ref b), (.ref b)])) rfl rfl (hb hby at_76)
  have N2 := Fr.snoc X2 N1 g_b
  have Z2 : n0 ≤ h2.size := Nat.le_trans Z1 K2.1
  obtain ⟨T3, h3, X3, e3, K3, A3, st3⟩ := own_stI X2 hx hZ e2 (by decide) A2 (i := 1) (by decide) (g := (mkF m 81 #[.val (.int i0), .val (.int i1), .val (.int i2), .val (.int i3), .val (.int (Int32.ofNat 2)), .val (.int x), .val (.int y), .val (.int z), .unset, .unset, .unset, .unset] [(.int y), (.int (1 : Int32)), (.ref b), (.ref b)])) rfl rfl (hb hby at_81)
  have N3 := Fr.snoc X3 N2 g_b
  have Z3 : n0 ≤ h3.size := Nat.le_trans Z2 K3.1
  have AF : own_IA Z h3 b 2 (own_f x y z) := A3.fn fun i hi => by
    have hi' : i = 0 ∨ i = 1 := by omega
    rcases hi' with rfl | rfl <;> simp [own_f]
  refine ⟨T3, h3, _, b, _, rfl, X3, e3, N3, Z3, AF, fun target kt => ?_⟩
  show Steps p.tables e below (T.setTop (mkF m 23 #[.val (.int i0), .val (.int i1), .val (.int i2), .val (.int i3), .val (.int (Int32.ofNat 2)), .val (.int x), .val (.int y), .val (.int z), .unset, .unset, .unset, .unset] [])) _
  refine XS.iload X.here hx rfl (hb hby at_23) rfl ?_
  show Steps p.tables e below (T.setTop (mkF m 25 #[.val (.int i0), .val (.int i1), .val (.int i2), .val (.int i3), .val (.int (Int32.ofNat 2)), .val (.int x), .val (.int y), .val (.int z), .unset, .unset, .unset, .unset] [(.int (Int32.ofNat 2))])) _
  refine XS.ifYes X.here hx rfl (pc0 := 25) (pc' := 39) rfl (hb hby at_25) rfl ((if0 _ _).trans (feq (by decide : ¬ ((Int32.ofNat 2) = (0 : Int32)))).2) (by decide) (by decide) ?_
  show Steps p.tables e below (T.setTop (mkF m 39 #[.val (.int i0), .val (.int i1), .val (.int i2), .val (.int i3), .val (.int (Int32.ofNat 2)), .val (.int x), .val (.int y), .val (.int z), .unset, .unset, .unset, .unset] [])) _
  refine XS.iload X.here hx rfl (hb hby at_39) rfl ?_
  show Steps p.tables e below (T.setTop (mkF m 41 #[.val (.int i0), .val (.int i1), .val (.int i2), .val (.int i3), .val (.int (Int32.ofNat 2)), .val (.int x), .val (.int y), .val (.int z), .unset, .unset, .unset, .unset] [(.int (Int32.ofNat 2))])) _
  refine XS.iconst X.here hx rfl (hb hby at_41) ?_
  show Steps p.tables e below (T.setTop (mkF m 42 #[.val (.int i0), .val (.int i1), .val (.int i2), .val (.int i3), .val (.int (Int32.ofNat 2)), .val (.int x), .val (.int y), .val (.int z), .unset, .unset, .unset, .unset] [(.int (1 : Int32)), (.int (Int32.ofNat 2))])) _
  refine XS.icmpYes X.here hx rfl (pc0 := 42) (pc' := 63) rfl (hb hby at_42) rfl (feq (by decide : ¬ ((Int32.ofNat 2) = (1 : Int32)))).2 (by decide) (by decide) ?_
  show Steps p.tables e below (T.setTop (mkF m 63 #[.val (.int i0), .val (.int i1), .val (.int i2), .val (.int i3), .val (.int (Int32.ofNat 2)), .val (.int x), .val (.int y), .val (.int z), .unset, .unset, .unset, .unset] [])) _
  refine XS.iload X.here hx rfl (hb hby at_63) rfl ?_
  show Steps p.tables e below (T.setTop (mkF m 65 #[.val (.int i0), .val (.int i1), .val (.int i2), .val (.int i3), .val (.int (Int32.ofNat 2)), .val (.int x), .val (.int y), .val (.int z), .unset, .unset, .unset, .unset] [(.int (Int32.ofNat 2))])) _
  refine XS.iconst X.here hx rfl (hb hby at_65) ?_
  show Steps p.tables e below (T.setTop (mkF m 66 #[.val (.int i0), .val (.int i1), .val (.int i2), .val (.int i3), .val (.int (Int32.ofNat 2)), .val (.int x), .val (.int y), .val (.int z), .unset, .unset, .unset, .unset] [(.int (2 : Int32)), (.int (Int32.ofNat 2))])) _
  refine XS.icmpNo X.here hx rfl (hb hby at_66) rfl (teq (by decide : (Int32.ofNat 2) = (2 : Int32))).2 ?_
  show Steps p.tables e below (T.setTop (mkF m 69 #[.val (.int i0), .val (.int i1), .val (.int i2), .val (.int i3), .val (.int (Int32.ofNat 2)), .val (.int x), .val (.int y), .val (.int z), .unset, .unset, .unset, .unset] [])) _
  refine XS.iconst X.here hx rfl (hb hby at_69) ?_
  refine st1 _ ?_
  show Steps p.tables e below (T1.setTop (mkF m 72 #[.val (.int i0), .val (.int i1), .val (.int i2), .val (.int i3), .val (.int (Int32.ofNat 2)), .val (.int x), .val (.int y), .val (.int z), .unset, .unset, .unset, .unset] [(.ref b)])) _
  refine XS.dup X1.here hx rfl (hb hby at_72) rfl rfl ?_
  show Steps p.tables e below (T1.setTop (mkF m 73 #[.val (.int i0), .val (.int i1), .val (.int i2), .val (.int i3), .val (.int (Int32.ofNat 2)), .val (.int x), .val (.int y), .val (.int z), .unset, .unset, .unset, .unset] [(.ref b), (.ref b)])) _
  refine XS.iconst X1.here hx rfl (hb hby at_73) ?_
  show Steps p.tables e below (T1.setTop (mkF m 74 #[.val (.int i0), .val (.int i1), .val (.int i2), .val (.int i3), .val (.int (Int32.ofNat 2)), .val (.int x), .val (.int y), .val (.int z), .unset, .unset, .unset, .unset] [(.int (0 : Int32)), (.ref b), (.ref b)])) _
  refine XS.iload X1.here hx rfl (hb hby at_74) rfl ?_
  refine st2 _ ?_
  show Steps p.tables e below (T2.setTop (mkF m 77 #[.val (.int i0), .val (.int i1), .val (.int i2), .val (.int i3), .val (.int (Int32.ofNat 2)), .val (.int x), .val (.int y), .val (.int z), .unset, .unset, .unset, .unset] [(.ref b)])) _
  refine XS.dup X2.here hx rfl (hb hby at_77) rfl rfl ?_
  show Steps p.tables e below (T2.setTop (mkF m 78 #[.val (.int i0), .val (.int i1), .val (.int i2), .val (.int i3), .val (.int (Int32.ofNat 2)), .val (.int x), .val (.int y), .val (.int z), .unset, .unset, .unset, .unset] [(.ref b), (.ref b)])) _
  refine XS.iconst X2.here hx rfl (hb hby at_78) ?_
  show Steps p.tables e below (T2.setTop (mkF m 79 #[.val (.int i0), .val (.int i1), .val (.int i2), .val (.int i3), .val (.int (Int32.ofNat 2)), .val (.int x), .val (.int y), .val (.int z), .unset, .unset, .unset, .unset] [(.int (1 : Int32)), (.ref b), (.ref b)])) _
  refine XS.iload X2.here hx rfl (hb hby at_79) rfl ?_
  refine st3 _ ?_
  show Steps p.tables e below (T3.setTop (mkF m 82 #[.val (.int i0), .val (.int i1), .val (.int i2), .val (.int i3), .val (.int (Int32.ofNat 2)), .val (.int x), .val (.int y), .val (.int z), .unset, .unset, .unset, .unset] [(.ref b)])) _
  refine XS.astore X3.here hx rfl (hb hby at_82) rfl rfl (l' := #[.val (.int i0), .val (.int i1), .val (.int i2), .val (.int i3), .val (.int (Int32.ofNat 2)), .val (.int x), .val (.int y), .val (.int z), .val (.ref b), .unset, .unset, .unset]) rfl ?_
  show Steps p.tables e below (T3.setTop (mkF m 84 #[.val (.int i0), .val (.int i1), .val (.int i2), .val (.int i3), .val (.int (Int32.ofNat 2)), .val (.int x), .val (.int y), .val (.int z), .val (.ref b), .unset, .unset, .unset] [])) _
  refine XS.iload X3.here hx rfl (hb hby at_84) rfl ?_
  show Steps p.tables e below (T3.setTop (mkF m 86 #[.val (.int i0), .val (.int i1), .val (.int i2), .val (.int i3), .val (.int (Int32.ofNat 2)), .val (.int x), .val (.int y), .val (.int z), .val (.ref b), .unset, .unset, .unset] [(.int x)])) _
  refine XS.i2l X3.here hx rfl (hb hby at_86) rfl ?_
  show Steps p.tables e below (T3.setTop (mkF m 87 #[.val (.int i0), .val (.int i1), .val (.int i2), .val (.int i3), .val (.int (Int32.ofNat 2)), .val (.int x), .val (.int y), .val (.int z), .val (.ref b), .unset, .unset, .unset] [(.long (x.toInt64))])) _
  refine XS.iload X3.here hx rfl (hb hby at_87) rfl ?_
  show Steps p.tables e below (T3.setTop (mkF m 89 #[.val (.int i0), .val (.int i1), .val (.int i2), .val (.int i3), .val (.int (Int32.ofNat 2)), .val (.int x), .val (.int y), .val (.int z), .val (.ref b), .unset, .unset, .unset] [(.int y), (.long (x.toInt64))])) _
  refine XS.i2l X3.here hx rfl (hb hby at_89) rfl ?_
  show Steps p.tables e below (T3.setTop (mkF m 90 #[.val (.int i0), .val (.int i1), .val (.int i2), .val (.int i3), .val (.int (Int32.ofNat 2)), .val (.int x), .val (.int y), .val (.int z), .val (.ref b), .unset, .unset, .unset] [(.long (y.toInt64)), (.long (x.toInt64))])) _
  refine XS.ladd X3.here hx rfl (hb hby at_90) rfl ?_
  show Steps p.tables e below (T3.setTop (mkF m 91 #[.val (.int i0), .val (.int i1), .val (.int i2), .val (.int i3), .val (.int (Int32.ofNat 2)), .val (.int x), .val (.int y), .val (.int z), .val (.ref b), .unset, .unset, .unset] [(.long ((x.toInt64) + (y.toInt64)))])) _
  refine XS.lstore X3.here hx rfl (hb hby at_91) rfl (l' := #[.val (.int i0), .val (.int i1), .val (.int i2), .val (.int i3), .val (.int (Int32.ofNat 2)), .val (.int x), .val (.int y), .val (.int z), .val (.ref b), .val (.long ((x.toInt64) + (y.toInt64))), .second, .unset]) rfl ?_
  show Steps p.tables e below (T3.setTop (mkF m 93 #[.val (.int i0), .val (.int i1), .val (.int i2), .val (.int i3), .val (.int (Int32.ofNat 2)), .val (.int x), .val (.int y), .val (.int z), .val (.ref b), .val (.long ((x.toInt64) + (y.toInt64))), .second, .unset] [])) _
  refine XS.goto X3.here hx rfl (pc0 := 93) (pc' := 129) rfl (hb hby at_93) (by decide) (by decide) ?_
  rw [show own_sum (own_f x y z) 2 = ((x.toInt64) + (y.toInt64)) from by simp [own_sum, own_f]] at kt
  exact kt
set_option maxRecDepth 65536 in
set_option maxHeartbeats 40000000 in
theorem own_arr3 {p : Program} {l : Launch} {e : Env} {s : State} {m : MethodId} {args : Array Value} {below : List Frame} {meth : Method} {c : Code} {T : State} {Z : State} {a0 : Array Value} {h0 : Heap} (i0 i1 i2 i3 x y z : Int32) (X : Stand p l e room_1 s m args below meth c T [] 0 0) (hx : p.tables.exec = Jvm.exec) (hZ : Z.Warmed39 s.vm) (hw : ∀ d ∈ tables_1, d.before a0 Z = true) (hby : c.code = code) (hown : s.vm.findClass "com/example/tracewarden/tracewarden/net/MarkingTokenTotalPinLaw" = some m.cls) (e0 : T.heap = h0) {n0 : Nat} (Z0 : n0 ≤ h0.size) :
    ∃ (T' : State) (h' : Heap) (L' : List Loc) (b : Addr) (E : Int64), E = own_sum (own_f x y z) 3 ∧ Stand p l e room_1 s m args below meth c T' L' 1 3 ∧ T'.heap = h' ∧ Fr n0 L' ∧ n0 ≤ h'.size ∧ own_IA Z h' b 3 (own_f x y z) ∧
      ∀ target, Steps p.tables e below (T'.setTop (mkF m 129 #[.val (.int i0), .val (.int i1), .val (.int i2), .val (.int i3), .val (.int (Int32.ofNat 3)), .val (.int x), .val (.int y), .val (.int z), .val (.ref b), .val (.long E), .second, .unset] [])) target → Steps p.tables e below (T.setTop (mkF m 23 #[.val (.int i0), .val (.int i1), .val (.int i2), .val (.int i3), .val (.int (Int32.ofNat 3)), .val (.int x), .val (.int y), .val (.int z), .unset, .unset, .unset, .unset] [])) target := by
  obtain ⟨T1, h1, X1, e1, E1, A1, st1⟩ := own_newI X hx hZ (hw _ (List.mem_of_getElem? (i := 1) rfl)) e0 (n := 3) (by decide) (g := (mkF m 97 #[.val (.int i0), .val (.int i1), .val (.int i2), .val (.int i3), .val (.int (Int32.ofNat 3)), .val (.int x), .val (.int y), .val (.int z), .unset, .unset, .unset, .unset] [(.int (3 : Int32))])) rfl (hb hby at_97) rfl (cap := 3) (by decide) (by decide) (by decide)
  obtain ⟨b, gb⟩ : ∃ z, z = h0.size := ⟨_, rfl⟩
  rw [← gb] at A1 st1
  have g_b : n0 ≤ b := Nat.le_trans Z0 (Nat.le_of_eq gb.symm)
  have Z1 : n0 ≤ h1.size := Nat.le_trans Z0 E1.1
  have N1 := Fr.nil n0
  obtain ⟨T2, h2, X2, e2, K2, A2, st2⟩ := own_stI X1 hx hZ e1 (by decide) A1 (i := 0) (by decide) (g := (mkF m 103 #[.val (.int i0), .val (.int i1), .val (.int i2), .val (.int i3), .val (.int (Int32.ofNat 3)), .val (.int x), .val (.int y), .val (.int z), .unset, .unset, .unset, .unset] [(.int x), (.int (0 : Int32)), (.ref b), (.ref b)])) rfl rfl (hb hby at_103)
  have N2 := Fr.snoc X2 N1 g_b
  have Z2 : n0 ≤ h2.size := Nat.le_trans Z1 K2.1
  obtain ⟨T3, h3, X3, e3, K3, A3, st3⟩ := own_stI X2 hx hZ e2 (by decide) A2 (i := 1) (by decide) (g := (mkF m 108 #[.val (.int i0), .val (.int i1), .val (.int i2), .val (.int i3), .val (.int (Int32.ofNat 3)), .val (.int x), .val (.int y), .val (.int z), .unset, .unset, .unset, .unset] [(.int y), (.int (1 : Int32)), (.ref b), (.ref b)])) rfl rfl (hb hby at_108)
  have N3 := Fr.snoc X3 N2 g_b
  have Z3 : n0 ≤ h3.size := Nat.le_trans Z2 K3.1
  obtain ⟨T4, h4, X4, e4, K4, A4, st4⟩ := own_stI X3 hx hZ e3 (by decide) A3 (i := 2) (by decide) (g := (mkF m 113 #[.val (.int i0), .val (.int i1), .val (.int i2), .val (.int i3), .val (.int (Int32.ofNat 3)), .val (.int x), .val (.int y), .val (.int z), .unset, .unset, .unset, .unset] [(.int z), (.int (2 : Int32)), (.ref b), (.ref b)])) rfl rfl (hb hby at_113)
  have N4 := Fr.snoc X4 N3 g_b
  have Z4 : n0 ≤ h4.size := Nat.le_trans Z3 K4.1
  have AF : own_IA Z h4 b 3 (own_f x y z) := A4.fn fun i hi => by
    have hi' : i = 0 ∨ i = 1 ∨ i = 2 := by omega
    rcases hi' with rfl | rfl | rfl <;> simp [own_f]
  refine ⟨T4, h4, _, b, _, rfl, X4, e4, N4, Z4, AF, fun target kt => ?_⟩
  show Steps p.tables e below (T.setTop (mkF m 23 #[.val (.int i0), .val (.int i1), .val (.int i2), .val (.int i3), .val (.int (Int32.ofNat 3)), .val (.int x), .val (.int y), .val (.int z), .unset, .unset, .unset, .unset] [])) _
  refine XS.iload X.here hx rfl (hb hby at_23) rfl ?_
  show Steps p.tables e below (T.setTop (mkF m 25 #[.val (.int i0), .val (.int i1), .val (.int i2), .val (.int i3), .val (.int (Int32.ofNat 3)), .val (.int x), .val (.int y), .val (.int z), .unset, .unset, .unset, .unset] [(.int (Int32.ofNat 3))])) _
  refine XS.ifYes X.here hx rfl (pc0 := 25) (pc' := 39) rfl (hb hby at_25) rfl ((if0 _ _).trans (feq (by decide : ¬ ((Int32.ofNat 3) = (0 : Int32)))).2) (by decide) (by decide) ?_
  show Steps p.tables e below (T.setTop (mkF m 39 #[.val (.int i0), .val (.int i1), .val (.int i2), .val (.int i3), .val (.int (Int32.ofNat 3)), .val (.int x), .val (.int y), .val (.int z), .unset, .unset, .unset, .unset] [])) _
  refine XS.iload X.here hx rfl (hb hby at_39) rfl ?_
  show Steps p.tables e below (T.setTop (mkF m 41 #[.val (.int i0), .val (.int i1), .val (.int i2), .val (.int i3), .val (.int (Int32.ofNat 3)), .val (.int x), .val (.int y), .val (.int z), .unset, .unset, .unset, .unset] [(.int (Int32.ofNat 3))])) _
  refine XS.iconst X.here hx rfl (hb hby at_41) ?_
  show Steps p.tables e below (T.setTop (mkF m 42 #[.val (.int i0), .val (.int i1), .val (.int i2), .val (.int i3), .val (.int (Int32.ofNat 3)), .val (.int x), .val (.int y), .val (.int z), .unset, .unset, .unset, .unset] [(.int (1 : Int32)), (.int (Int32.ofNat 3))])) _
  refine XS.icmpYes X.here hx rfl (pc0 := 42) (pc' := 63) rfl (hb hby at_42) rfl (feq (by decide : ¬ ((Int32.ofNat 3) = (1 : Int32)))).2 (by decide) (by decide) ?_
  show Steps p.tables e below (T.setTop (mkF m 63 #[.val (.int i0), .val (.int i1), .val (.int i2), .val (.int i3), .val (.int (Int32.ofNat 3)), .val (.int x), .val (.int y), .val (.int z), .unset, .unset, .unset, .unset] [])) _
  refine XS.iload X.here hx rfl (hb hby at_63) rfl ?_
  show Steps p.tables e below (T.setTop (mkF m 65 #[.val (.int i0), .val (.int i1), .val (.int i2), .val (.int i3), .val (.int (Int32.ofNat 3)), .val (.int x), .val (.int y), .val (.int z), .unset, .unset, .unset, .unset] [(.int (Int32.ofNat 3))])) _
  refine XS.iconst X.here hx rfl (hb hby at_65) ?_
  show Steps p.tables e below (T.setTop (mkF m 66 #[.val (.int i0), .val (.int i1), .val (.int i2), .val (.int i3), .val (.int (Int32.ofNat 3)), .val (.int x), .val (.int y), .val (.int z), .unset, .unset, .unset, .unset] [(.int (2 : Int32)), (.int (Int32.ofNat 3))])) _
  refine XS.icmpYes X.here hx rfl (pc0 := 66) (pc' := 96) rfl (hb hby at_66) rfl (feq (by decide : ¬ ((Int32.ofNat 3) = (2 : Int32)))).2 (by decide) (by decide) ?_
  show Steps p.tables e below (T.setTop (mkF m 96 #[.val (.int i0), .val (.int i1), .val (.int i2), .val (.int i3), .val (.int (Int32.ofNat 3)), .val (.int x), .val (.int y), .val (.int z), .unset, .unset, .unset, .unset] [])) _
  refine XS.iconst X.here hx rfl (hb hby at_96) ?_
  refine st1 _ ?_
  show Steps p.tables e below (T1.setTop (mkF m 99 #[.val (.int i0), .val (.int i1), .val (.int i2), .val (.int i3), .val (.int (Int32.ofNat 3)), .val (.int x), .val (.int y), .val (.int z), .unset, .unset, .unset, .unset] [(.ref b)])) _
  refine XS.dup X1.here hx rfl (hb hby at_99) rfl rfl ?_
  show Steps p.tables e below (T1.setTop (mkF m 100 #[.val (.int i0), .val (.int i1), .val (.int i2), .val (.int i3), .val (.int (Int32.ofNat 3)), .val (.int x), .val (.int y), .val (.int z), .unset, .unset, .unset, .unset] [(.ref b), (.ref b)])) _
  refine XS.iconst X1.here hx rfl (hb hby at_100) ?_
  show Steps p.tables e below (T1.setTop (mkF m 101 #[.val (.int i0), .val (.int i1), .val (.int i2), .val (.int i3), .val (.int (Int32.ofNat 3)), .val (.int x), .val (.int y), .val (.int z), .unset, .unset, .unset, .unset] [(.int (0 : Int32)), (.ref b), (.ref b)])) _
  refine XS.iload X1.here hx rfl (hb hby at_101) rfl ?_
  refine st2 _ ?_
  show Steps p.tables e below (T2.setTop (mkF m 104 #[.val (.int i0), .val (.int i1), .val (.int i2), .val (.int i3), .val (.int (Int32.ofNat 3)), .val (.int x), .val (.int y), .val (.int z), .unset, .unset, .unset, .unset] [(.ref b)])) _
  refine XS.dup X2.here hx rfl (hb hby at_104) rfl rfl ?_
  show Steps p.tables e below (T2.setTop (mkF m 105 #[.val (.int i0), .val (.int i1), .val (.int i2), .val (.int i3), .val (.int (Int32.ofNat 3)), .val (.int x), .val (.int y), .val (.int z), .unset, .unset, .unset, .unset] [(.ref b), (.ref b)])) _
  refine XS.iconst X2.here hx rfl (hb hby at_105) ?_
  show Steps p.tables e below (T2.setTop (mkF m 106 #[.val (.int i0), .val (.int i1), .val (.int i2), .val (.int i3), .val (.int (Int32.ofNat 3)), .val (.int x), .val (.int y), .val (.int z), .unset, .unset, .unset, .unset] [(.int (1 : Int32)), (.ref b), (.ref b)])) _
  refine XS.iload X2.here hx rfl (hb hby at_106) rfl ?_
  refine st3 _ ?_
  show Steps p.tables e below (T3.setTop (mkF m 109 #[.val (.int i0), .val (.int i1), .val (.int i2), .val (.int i3), .val (.int (Int32.ofNat 3)), .val (.int x), .val (.int y), .val (.int z), .unset, .unset, .unset, .unset] [(.ref b)])) _
  refine XS.dup X3.here hx rfl (hb hby at_109) rfl rfl ?_
  show Steps p.tables e below (T3.setTop (mkF m 110 #[.val (.int i0), .val (.int i1), .val (.int i2), .val (.int i3), .val (.int (Int32.ofNat 3)), .val (.int x), .val (.int y), .val (.int z), .unset, .unset, .unset, .unset] [(.ref b), (.ref b)])) _
  refine XS.iconst X3.here hx rfl (hb hby at_110) ?_
  show Steps p.tables e below (T3.setTop (mkF m 111 #[.val (.int i0), .val (.int i1), .val (.int i2), .val (.int i3), .val (.int (Int32.ofNat 3)), .val (.int x), .val (.int y), .val (.int z), .unset, .unset, .unset, .unset] [(.int (2 : Int32)), (.ref b), (.ref b)])) _
  refine XS.iload X3.here hx rfl (hb hby at_111) rfl ?_
  refine st4 _ ?_
  show Steps p.tables e below (T4.setTop (mkF m 114 #[.val (.int i0), .val (.int i1), .val (.int i2), .val (.int i3), .val (.int (Int32.ofNat 3)), .val (.int x), .val (.int y), .val (.int z), .unset, .unset, .unset, .unset] [(.ref b)])) _
  refine XS.astore X4.here hx rfl (hb hby at_114) rfl rfl (l' := #[.val (.int i0), .val (.int i1), .val (.int i2), .val (.int i3), .val (.int (Int32.ofNat 3)), .val (.int x), .val (.int y), .val (.int z), .val (.ref b), .unset, .unset, .unset]) rfl ?_
  show Steps p.tables e below (T4.setTop (mkF m 116 #[.val (.int i0), .val (.int i1), .val (.int i2), .val (.int i3), .val (.int (Int32.ofNat 3)), .val (.int x), .val (.int y), .val (.int z), .val (.ref b), .unset, .unset, .unset] [])) _
  refine XS.iload X4.here hx rfl (hb hby at_116) rfl ?_
  show Steps p.tables e below (T4.setTop (mkF m 118 #[.val (.int i0), .val (.int i1), .val (.int i2), .val (.int i3), .val (.int (Int32.ofNat 3)), .val (.int x), .val (.int y), .val (.int z), .val (.ref b), .unset, .unset, .unset] [(.int x)])) _
  refine XS.i2l X4.here hx rfl (hb hby at_118) rfl ?_
  show Steps p.tables e below (T4.setTop (mkF m 119 #[.val (.int i0), .val (.int i1), .val (.int i2), .val (.int i3), .val (.int (Int32.ofNat 3)), .val (.int x), .val (.int y), .val (.int z), .val (.ref b), .unset, .unset, .unset] [(.long (x.toInt64))])) _
  refine XS.iload X4.here hx rfl (hb hby at_119) rfl ?_
  show Steps p.tables e below (T4.setTop (mkF m 121 #[.val (.int i0), .val (.int i1), .val (.int i2), .val (.int i3), .val (.int (Int32.ofNat 3)), .val (.int x), .val (.int y), .val (.int z), .val (.ref b), .unset, .unset, .unset] [(.int y), (.long (x.toInt64))])) _
  refine XS.i2l X4.here hx rfl (hb hby at_121) rfl ?_
  show Steps p.tables e below (T4.setTop (mkF m 122 #[.val (.int i0), .val (.int i1), .val (.int i2), .val (.int i3), .val (.int (Int32.ofNat 3)), .val (.int x), .val (.int y), .val (.int z), .val (.ref b), .unset, .unset, .unset] [(.long (y.toInt64)), (.long (x.toInt64))])) _
  refine XS.ladd X4.here hx rfl (hb hby at_122) rfl ?_
  show Steps p.tables e below (T4.setTop (mkF m 123 #[.val (.int i0), .val (.int i1), .val (.int i2), .val (.int i3), .val (.int (Int32.ofNat 3)), .val (.int x), .val (.int y), .val (.int z), .val (.ref b), .unset, .unset, .unset] [(.long ((x.toInt64) + (y.toInt64)))])) _
  refine XS.iload X4.here hx rfl (hb hby at_123) rfl ?_
  show Steps p.tables e below (T4.setTop (mkF m 125 #[.val (.int i0), .val (.int i1), .val (.int i2), .val (.int i3), .val (.int (Int32.ofNat 3)), .val (.int x), .val (.int y), .val (.int z), .val (.ref b), .unset, .unset, .unset] [(.int z), (.long ((x.toInt64) + (y.toInt64)))])) _
  refine XS.i2l X4.here hx rfl (hb hby at_125) rfl ?_
  show Steps p.tables e below (T4.setTop (mkF m 126 #[.val (.int i0), .val (.int i1), .val (.int i2), .val (.int i3), .val (.int (Int32.ofNat 3)), .val (.int x), .val (.int y), .val (.int z), .val (.ref b), .unset, .unset, .unset] [(.long (z.toInt64)), (.long ((x.toInt64) + (y.toInt64)))])) _
  refine XS.ladd X4.here hx rfl (hb hby at_126) rfl ?_
  show Steps p.tables e below (T4.setTop (mkF m 127 #[.val (.int i0), .val (.int i1), .val (.int i2), .val (.int i3), .val (.int (Int32.ofNat 3)), .val (.int x), .val (.int y), .val (.int z), .val (.ref b), .unset, .unset, .unset] [(.long (((x.toInt64) + (y.toInt64)) + (z.toInt64)))])) _
  refine XS.lstore X4.here hx rfl (hb hby at_127) rfl (l' := #[.val (.int i0), .val (.int i1), .val (.int i2), .val (.int i3), .val (.int (Int32.ofNat 3)), .val (.int x), .val (.int y), .val (.int z), .val (.ref b), .val (.long (((x.toInt64) + (y.toInt64)) + (z.toInt64))), .second, .unset]) rfl ?_
  rw [show own_sum (own_f x y z) 3 = (((x.toInt64) + (y.toInt64)) + (z.toInt64)) from by simp [own_sum, own_f]] at kt
  exact kt
theorem pn_0 : plainName "com/example/tracewarden/tracewarden/net/MarkingTokenTotalPinLaw" = true := by first | (simp [plainName, overriddenIn]; done) | decide +kernel
theorem ef_0 (m : MethodId) (i0 : Int32) (i1 : Int32) (i2 : Int32) (i3 : Int32) : entryFrame m #[(.int i0), (.int i1), (.int i2), (.int i3)] maxLocals = (mkF m 0 #[.val (.int i0), .val (.int i1), .val (.int i2), .val (.int i3), .unset, .unset, .unset, .unset, .unset, .unset, .unset, .unset] []) := by first | (simp [entryFrame, mkF, argsToLocals, Value.category, maxLocals]; done) | rfl
def Q0 (n0 : Nat) (v : Option Value) (L : List Loc) : Prop := v = some (.int (1 : Int32)) ∧ Fr n0 L
set_option maxRecDepth 65536 in
set_option maxHeartbeats 40000000 in
theorem rm0 (l : Launch) (Z : State) (a0 : Array Value) (hw : ∀ d ∈ tables_1, d.before a0 Z = true) (ws : List Jvm.Cond) (i0 : Int32) (i1 : Int32) (i2 : Int32) (i3 : Int32) (h0 : Heap) (n0 : Nat) (Z0 : n0 ≤ h0.size) :
    MetFree l x (head1 (Jvm.Cond.code x code maxLocals ret :: ws) room_1) (fun a U => a = #[(.int i0), (.int i1), (.int i2), (.int i3)] ∧ Z.Warmed39 U.vm ∧ U.heap = h0) (fun _ _ _ _ _ => True) (fun _ U o U' => ∃ v L, o = .returned v ∧ Q0 n0 v L ∧ FrameEnd U o U' L room_1.cells room_1.slots) := by
  refine MetFree.of_bodySF (plainFor_of_name pn_0) hisR ?_
  intro p e s m args below meth c s₁ Bd hml0 hP hK
  obtain ⟨rfl, hZ, hh⟩ := hP
  have hx := Bd.exec
  have hby := Bd.bytes
  have hml : c.maxLocals = 12 := hml0
  have hown : s.vm.findClass "com/example/tracewarden/tracewarden/net/MarkingTokenTotalPinLaw" = some m.cls := findClass_of_methodNamed Bd.named
  have X0 : Stand p l e room_1 s m #[(.int i0), (.int i1), (.int i2), (.int i3)] below meth c s₁ [] 0 0 := Stand.of_body Bd
  have e0 : s₁.heap = h0 := by rw [← hh, Bd.state]; rfl
  have N0 := Fr.nil n0
  have pre0 : ∀ t, Steps p.tables e below (s₁.setTop (mkF m 0 #[.val (.int i0), .val (.int i1), .val (.int i2), .val (.int i3), .unset, .unset, .unset, .unset, .unset, .unset, .unset, .unset] [])) t → Steps p.tables e below (s₁.setTop (entryFrame m #[(.int i0), (.int i1), (.int i2), (.int i3)] maxLocals)) t := fun t k => castTop (ef_0 m i0 i1 i2 i3) k
  obtain ⟨n, hn, qn⟩ := own_mask i0
  obtain ⟨x, qx⟩ : ∃ z, z = (i1 &&& (2147483647 : Int32)) := ⟨_, rfl⟩
  obtain ⟨y, qy⟩ : ∃ z, z = (i2 &&& (2147483647 : Int32)) := ⟨_, rfl⟩
  obtain ⟨z, qz⟩ : ∃ z, z = (i3 &&& (2147483647 : Int32)) := ⟨_, rfl⟩
  have st0 : ∀ target, Steps p.tables e below (s₁.setTop (mkF m 23 #[.val (.int i0), .val (.int i1), .val (.int i2), .val (.int i3), .val (.int (Int32.ofNat n)), .val (.int x), .val (.int y), .val (.int z), .unset, .unset, .unset, .unset] [])) target → Steps p.tables e below (s₁.setTop (mkF m 0 #[.val (.int i0), .val (.int i1), .val (.int i2), .val (.int i3), .unset, .unset, .unset, .unset, .unset, .unset, .unset, .unset] [])) target := by
    intro target kt
    rw [← qn, qx, qy, qz] at kt
    show Steps p.tables e below (s₁.setTop (mkF m 0 #[.val (.int i0), .val (.int i1), .val (.int i2), .val (.int i3), .unset, .unset, .unset, .unset, .unset, .unset, .unset, .unset] [])) _
    refine XS.iloadN X0.here hx rfl (hb hby at_0) rfl ?_
    show Steps p.tables e below (s₁.setTop (mkF m 1 #[.val (.int i0), .val (.int i1), .val (.int i2), .val (.int i3), .unset, .unset, .unset, .unset, .unset, .unset, .unset, .unset] [(.int i0)])) _
    refine XS.iconst X0.here hx rfl (hb hby at_1) ?_
    show Steps p.tables e below (s₁.setTop (mkF m 2 #[.val (.int i0), .val (.int i1), .val (.int i2), .val (.int i3), .unset, .unset, .unset, .unset, .unset, .unset, .unset, .unset] [(.int (3 : Int32)), (.int i0)])) _
    refine XS.iand X0.here hx rfl (hb hby at_2) rfl ?_
    show Steps p.tables e below (s₁.setTop (mkF m 3 #[.val (.int i0), .val (.int i1), .val (.int i2), .val (.int i3), .unset, .unset, .unset, .unset, .unset, .unset, .unset, .unset] [(.int (i0 &&& (3 : Int32)))])) _
    refine XS.istore X0.here hx rfl (hb hby at_3) rfl (l' := #[.val (.int i0), .val (.int i1), .val (.int i2), .val (.int i3), .val (.int (i0 &&& (3 : Int32))), .unset, .unset, .unset, .unset, .unset, .unset, .unset]) rfl ?_
    show Steps p.tables e below (s₁.setTop (mkF m 5 #[.val (.int i0), .val (.int i1), .val (.int i2), .val (.int i3), .val (.int (i0 &&& (3 : Int32))), .unset, .unset, .unset, .unset, .unset, .unset, .unset] [])) _
    refine XS.iloadN X0.here hx rfl (hb hby at_5) rfl ?_
    show Steps p.tables e below (s₁.setTop (mkF m 6 #[.val (.int i0), .val (.int i1), .val (.int i2), .val (.int i3), .val (.int (i0 &&& (3 : Int32))), .unset, .unset, .unset, .unset, .unset, .unset, .unset] [(.int i1)])) _
    refine X0.ldcInt hx hown (mvT hZ (hw _ (List.mem_of_getElem? (i := 0) rfl))) (g := (mkF m 6 #[.val (.int i0), .val (.int i1), .val (.int i2), .val (.int i3), .val (.int (i0 &&& (3 : Int32))), .unset, .unset, .unset, .unset, .unset, .unset, .unset] [(.int i1)])) rfl (hb hby at_6) _ ?_
    show Steps p.tables e below (s₁.setTop (mkF m 8 #[.val (.int i0), .val (.int i1), .val (.int i2), .val (.int i3), .val (.int (i0 &&& (3 : Int32))), .unset, .unset, .unset, .unset, .unset, .unset, .unset] [(.int (2147483647 : Int32)), (.int i1)])) _
    refine XS.iand X0.here hx rfl (hb hby at_8) rfl ?_
    show Steps p.tables e below (s₁.setTop (mkF m 9 #[.val (.int i0), .val (.int i1), .val (.int i2), .val (.int i3), .val (.int (i0 &&& (3 : Int32))), .unset, .unset, .unset, .unset, .unset, .unset, .unset] [(.int (i1 &&& (2147483647 : Int32)))])) _
    refine XS.istore X0.here hx rfl (hb hby at_9) rfl (l' := #[.val (.int i0), .val (.int i1), .val (.int i2), .val (.int i3), .val (.int (i0 &&& (3 : Int32))), .val (.int (i1 &&& (2147483647 : Int32))), .unset, .unset, .unset, .unset, .unset, .unset]) rfl ?_
    show Steps p.tables e below (s₁.setTop (mkF m 11 #[.val (.int i0), .val (.int i1), .val (.int i2), .val (.int i3), .val (.int (i0 &&& (3 : Int32))), .val (.int (i1 &&& (2147483647 : Int32))), .unset, .unset, .unset, .unset, .unset, .unset] [])) _
    refine XS.iloadN X0.here hx rfl (hb hby at_11) rfl ?_
    show Steps p.tables e below (s₁.setTop (mkF m 12 #[.val (.int i0), .val (.int i1), .val (.int i2), .val (.int i3), .val (.int (i0 &&& (3 : Int32))), .val (.int (i1 &&& (2147483647 : Int32))), .unset, .unset, .unset, .unset, .unset, .unset] [(.int i2)])) _
    refine X0.ldcInt hx hown (mvT hZ (hw _ (List.mem_of_getElem? (i := 0) rfl))) (g := (mkF m 12 #[.val (.int i0), .val (.int i1), .val (.int i2), .val (.int i3), .val (.int (i0 &&& (3 : Int32))), .val (.int (i1 &&& (2147483647 : Int32))), .unset, .unset, .unset, .unset, .unset, .unset] [(.int i2)])) rfl (hb hby at_12) _ ?_
    show Steps p.tables e below (s₁.setTop (mkF m 14 #[.val (.int i0), .val (.int i1), .val (.int i2), .val (.int i3), .val (.int (i0 &&& (3 : Int32))), .val (.int (i1 &&& (2147483647 : Int32))), .unset, .unset, .unset, .unset, .unset, .unset] [(.int (2147483647 : Int32)), (.int i2)])) _
    refine XS.iand X0.here hx rfl (hb hby at_14) rfl ?_
    show Steps p.tables e below (s₁.setTop (mkF m 15 #[.val (.int i0), .val (.int i1), .val (.int i2), .val (.int i3), .val (.int (i0 &&& (3 : Int32))), .val (.int (i1 &&& (2147483647 : Int32))), .unset, .unset, .unset, .unset, .unset, .unset] [(.int (i2 &&& (2147483647 : Int32)))])) _
    refine XS.istore X0.here hx rfl (hb hby at_15) rfl (l' := #[.val (.int i0), .val (.int i1), .val (.int i2), .val (.int i3), .val (.int (i0 &&& (3 : Int32))), .val (.int (i1 &&& (2147483647 : Int32))), .val (.int (i2 &&& (2147483647 : Int32))), .unset, .unset, .unset, .unset, .unset]) rfl ?_
    show Steps p.tables e below (s₁.setTop (mkF m 17 #[.val (.int i0), .val (.int i1), .val (.int i2), .val (.int i3), .val (.int (i0 &&& (3 : Int32))), .val (.int (i1 &&& (2147483647 : Int32))), .val (.int (i2 &&& (2147483647 : Int32))), .unset, .unset, .unset, .unset, .unset] [])) _
    refine XS.iloadN X0.here hx rfl (hb hby at_17) rfl ?_
    show Steps p.tables e below (s₁.setTop (mkF m 18 #[.val (.int i0), .val (.int i1), .val (.int i2), .val (.int i3), .val (.int (i0 &&& (3 : Int32))), .val (.int (i1 &&& (2147483647 : Int32))), .val (.int (i2 &&& (2147483647 : Int32))), .unset, .unset, .unset, .unset, .unset] [(.int i3)])) _
    refine X0.ldcInt hx hown (mvT hZ (hw _ (List.mem_of_getElem? (i := 0) rfl))) (g := (mkF m 18 #[.val (.int i0), .val (.int i1), .val (.int i2), .val (.int i3), .val (.int (i0 &&& (3 : Int32))), .val (.int (i1 &&& (2147483647 : Int32))), .val (.int (i2 &&& (2147483647 : Int32))), .unset, .unset, .unset, .unset, .unset] [(.int i3)])) rfl (hb hby at_18) _ ?_
    show Steps p.tables e below (s₁.setTop (mkF m 20 #[.val (.int i0), .val (.int i1), .val (.int i2), .val (.int i3), .val (.int (i0 &&& (3 : Int32))), .val (.int (i1 &&& (2147483647 : Int32))), .val (.int (i2 &&& (2147483647 : Int32))), .unset, .unset, .unset, .unset, .unset] [(.int (2147483647 : Int32)), (.int i3)])) _
    refine XS.iand X0.here hx rfl (hb hby at_20) rfl ?_
    show Steps p.tables e below (s₁.setTop (mkF m 21 #[.val (.int i0), .val (.int i1), .val (.int i2), .val (.int i3), .val (.int (i0 &&& (3 : Int32))), .val (.int (i1 &&& (2147483647 : Int32))), .val (.int (i2 &&& (2147483647 : Int32))), .unset, .unset, .unset, .unset, .unset] [(.int (i3 &&& (2147483647 : Int32)))])) _
    refine XS.istore X0.here hx rfl (hb hby at_21) rfl (l' := #[.val (.int i0), .val (.int i1), .val (.int i2), .val (.int i3), .val (.int (i0 &&& (3 : Int32))), .val (.int (i1 &&& (2147483647 : Int32))), .val (.int (i2 &&& (2147483647 : Int32))), .val (.int (i3 &&& (2147483647 : Int32))), .unset, .unset, .unset, .unset]) rfl ?_
    exact kt
  have hn' : n = 0 ∨ n = 1 ∨ n = 2 ∨ n = 3 := by omega
  obtain ⟨T1, h1, M1, b, E, qE, X1, e1, N1, Z1, A1, st1⟩ : ∃ (T' : State) (h' : Heap) (L' : List Loc) (b : Addr) (E : Int64), E = own_sum (own_f x y z) n ∧ Stand p l e room_1 s m #[(.int i0), (.int i1), (.int i2), (.int i3)] below meth c T' L' 1 3 ∧ T'.heap = h' ∧ Fr n0 L' ∧ n0 ≤ h'.size ∧ own_IA Z h' b n (own_f x y z) ∧
      ∀ target, Steps p.tables e below (T'.setTop (mkF m 129 #[.val (.int i0), .val (.int i1), .val (.int i2), .val (.int i3), .val (.int (Int32.ofNat n)), .val (.int x), .val (.int y), .val (.int z), .val (.ref b), .val (.long E), .second, .unset] [])) target → Steps p.tables e below (s₁.setTop (mkF m 23 #[.val (.int i0), .val (.int i1), .val (.int i2), .val (.int i3), .val (.int (Int32.ofNat n)), .val (.int x), .val (.int y), .val (.int z), .unset, .unset, .unset, .unset] [])) target := by
    rcases hn' with rfl | rfl | rfl | rfl
    · exact own_arr0 i0 i1 i2 i3 x y z X0 hx hZ hw hby hown e0 Z0
    · exact own_arr1 i0 i1 i2 i3 x y z X0 hx hZ hw hby hown e0 Z0
    · exact own_arr2 i0 i1 i2 i3 x y z X0 hx hZ hw hby hown e0 Z0
    · exact own_arr3 i0 i1 i2 i3 x y z X0 hx hZ hw hby hown e0 Z0
  obtain ⟨T2, h2, X2, e2, E2, A2, D2, -, st2⟩ := newO X1 hx hZ hown (hw _ (List.mem_of_getElem? (i := 2) rfl)) (hw _ (List.mem_of_getElem? (i := 3) rfl)) (hw _ (List.mem_of_getElem? (i := 4) rfl)) e1 (g := (mkF m 129 #[.val (.int i0), .val (.int i1), .val (.int i2), .val (.int i3), .val (.int (Int32.ofNat n)), .val (.int x), .val (.int y), .val (.int z), .val (.ref b), .val (.long E), .second, .unset] [])) rfl (hb hby at_129) (by decide) (by decide)
  obtain ⟨a1, g1⟩ : ∃ z, z = h1.size := ⟨_, rfl⟩
  rw [← g1] at A2 D2 st2
  have F2 : Fld Z h2 a1 "com/example/tracewarden/tracewarden/net/Marking" "tokens" "[I" .null := D2 (Or.inr (hw _ (List.mem_of_getElem? (i := 12) rfl))) (ty := (.array .int)) (by decide)
  have G2 : Fld Z h2 a1 "com/example/tracewarden/tracewarden/net/Marking" "hash" "I" (.int (0 : Int32)) := D2 (Or.inr (hw _ (List.mem_of_getElem? (i := 18) rfl))) (ty := .int) (by decide)
  have g_a1 : n0 ≤ a1 := Nat.le_trans Z1 (Nat.le_of_eq g1.symm)
  have Z2 : n0 ≤ h2.size := Nat.le_trans Z1 E2.1
  have hne : b ≠ a1 := Nat.ne_of_lt (g1 ▸ A1.lt)
  have pdI : parseMethodDescriptor "([I)V" = some ⟨[(.array .int)], none⟩ := by decide +kernel
  have pdT : parseMethodDescriptor "()J" = some ⟨[], some .long⟩ := by decide +kernel
  obtain ⟨_, _, ⟨T3, L3, k3, n3⟩, -, X3, ⟨Lc3, hQ3, l3, y3, z3⟩, st3⟩ := X2.specialBack hx (y := (⟨"com/example/tracewarden/tracewarden/net/Marking", "<init>", "([I)V"⟩ : MethodName)) rfl hown (mvT hZ (hw _ (List.mem_of_getElem? (i := 5) rfl))) (mvT hZ (hw _ (List.mem_of_getElem? (i := 6) rfl))) (mvT hZ (hw _ (List.mem_of_getElem? (i := 7) rfl))) (by decide) (backOf (W := 1) (rm1 l Z a0 hw [] a1 b .null (.int 0) n (own_f x y z) (by omega) h2 n0 Z2 A2 F2 g_a1 G2 (A1.ext E2) hne) hZ (hw _ (List.mem_of_getElem? (i := 7) rfl)) (hw _ (List.mem_of_getElem? (i := 4) rfl)) (by decide) (by decide)) (g := (mkF m 135 #[.val (.int i0), .val (.int i1), .val (.int i2), .val (.int i3), .val (.int (Int32.ofNat n)), .val (.int x), .val (.int y), .val (.int z), .val (.ref b), .val (.long E), .second, .unset] [(.ref b), (.ref a1), (.ref a1)])) rfl (by rw [hml]; rfl) (Steps.refl _) (a := a1) (argsL := [(.ref b)]) (rest := [(.ref a1)]) (lenOf pdI rfl) rfl (by show 2 * 0 + _ ≤ _; exact Nat.le_of_eq rfl) (hb hby at_135) (fun _ _ => ⟨rfl, e2, (by decide : 2 + 0 ≤ _), (by decide : 5 + 0 ≤ _)⟩)
  dsimp only [Pt.U, Pt.locs, Pt.cells, Pt.slots] at X3 l3 y3 z3 st3 hQ3
  subst l3 y3 z3
  obtain ⟨rfl, N3q, K3, E3, F3⟩ := hQ3
  have N3 := Fr.app N1 N3q
  have Z3 : n0 ≤ T3.heap.size := Nat.le_trans Z2 K3.1
  have A3 : own_IA Z T3.heap b n (own_f x y z) := (A1.ext E2).keep K3 (ninS hne nin0)
  obtain ⟨cq, kq, qa, qb, qc⟩ := isOf hZ rfl E3
  obtain ⟨_, _, ⟨T4, L4, k4, n4⟩, -, X4, ⟨Lc4, hQ4, l4, y4, z4⟩, st4⟩ := X3.virtualBack hx (y := (⟨"com/example/tracewarden/tracewarden/net/Marking", "tokenTotal", "()J"⟩ : MethodName)) (z := (⟨"com/example/tracewarden/tracewarden/net/Marking", "tokenTotal", "()J"⟩ : MethodName)) hown (mvT hZ (hw _ (List.mem_of_getElem? (i := 19) rfl))) (mvT hZ (hw _ (List.mem_of_getElem? (i := 20) rfl))) (notFace_of_selects (args := #[]) (mvT hZ (hw _ (List.mem_of_getElem? (i := 22) rfl)))) (mvT hZ (hw _ (List.mem_of_getElem? (i := 22) rfl))) (mvT hZ (hw _ (List.mem_of_getElem? (i := 21) rfl))) (by decide) (backOf (W := 0) (rm4 l Z a0 hw [] a1 b n (own_f x y z) (by omega) T3.heap n0 Z3 F3 A3) hZ (hw _ (List.mem_of_getElem? (i := 23) rfl)) (hw _ (List.mem_of_getElem? (i := 4) rfl)) (by decide) (by decide)) qa qc (g := (mkF m 142 #[.val (.int i0), .val (.int i1), .val (.int i2), .val (.int i3), .val (.int (Int32.ofNat n)), .val (.int x), .val (.int y), .val (.int z), .val (.ref b), .val (.long E), .second, .val (.ref a1)] [(.ref a1)])) rfl (by rw [hml]; rfl) (Steps.refl _) (argsL := []) (rest := []) (lenOf pdT rfl) rfl (by show 2 * 0 + _ ≤ _; exact Nat.le_of_eq rfl) (hb hby at_142) (fun _ _ => ⟨rfl, rfl, (by decide : 2 + 0 ≤ _), (by decide : 5 + 0 ≤ _)⟩)
  dsimp only [Pt.U, Pt.locs, Pt.cells, Pt.slots] at X4 l4 y4 z4 st4 hQ4
  subst l4 y4 z4
  obtain ⟨rfl, N4q, e4⟩ := hQ4
  have N4 := Fr.app N3 N4q
  obtain ⟨fs, hr, hrun, hended, hW, hsame⟩ := X4.leave (v := some (.int (1 : Int32))) (fun h => by rw [Bd.returns] at h; cases h)
  refine ⟨_, _, pre0 _ ?_, hrun, hended, _, _, rfl, ⟨rfl, N4⟩, ⟨_, rfl⟩, hW, hsame.mono (by decide) (by decide)⟩
  refine st0 _ (st1 _ (st2 _ ?_))
  show Steps p.tables e below (T2.setTop (mkF m 132 #[.val (.int i0), .val (.int i1), .val (.int i2), .val (.int i3), .val (.int (Int32.ofNat n)), .val (.int x), .val (.int y), .val (.int z), .val (.ref b), .val (.long E), .second, .unset] [(.ref a1)])) _
  refine XS.dup X2.here hx rfl (hb hby at_132) rfl rfl ?_
  show Steps p.tables e below (T2.setTop (mkF m 133 #[.val (.int i0), .val (.int i1), .val (.int i2), .val (.int i3), .val (.int (Int32.ofNat n)), .val (.int x), .val (.int y), .val (.int z), .val (.ref b), .val (.long E), .second, .unset] [(.ref a1), (.ref a1)])) _
  refine XS.aload X2.here hx rfl (hb hby at_133) rfl rfl ?_
  refine st3.trans ?_
  show Steps p.tables e below (T3.setTop (mkF m 138 #[.val (.int i0), .val (.int i1), .val (.int i2), .val (.int i3), .val (.int (Int32.ofNat n)), .val (.int x), .val (.int y), .val (.int z), .val (.ref b), .val (.long E), .second, .unset] [(.ref a1)])) _
  refine XS.astore X3.here hx rfl (hb hby at_138) rfl rfl (l' := #[.val (.int i0), .val (.int i1), .val (.int i2), .val (.int i3), .val (.int (Int32.ofNat n)), .val (.int x), .val (.int y), .val (.int z), .val (.ref b), .val (.long E), .second, .val (.ref a1)]) rfl ?_
  show Steps p.tables e below (T3.setTop (mkF m 140 #[.val (.int i0), .val (.int i1), .val (.int i2), .val (.int i3), .val (.int (Int32.ofNat n)), .val (.int x), .val (.int y), .val (.int z), .val (.ref b), .val (.long E), .second, .val (.ref a1)] [])) _
  refine XS.aload X3.here hx rfl (hb hby at_140) rfl rfl ?_
  refine st4.trans ?_
  show Steps p.tables e below (T4.setTop (mkF m 145 #[.val (.int i0), .val (.int i1), .val (.int i2), .val (.int i3), .val (.int (Int32.ofNat n)), .val (.int x), .val (.int y), .val (.int z), .val (.ref b), .val (.long E), .second, .val (.ref a1)] [(.long (own_sum (own_f x y z) n))])) _
  refine XS.lload X4.here hx rfl (hb hby at_145) rfl ?_
  show Steps p.tables e below (T4.setTop (mkF m 147 #[.val (.int i0), .val (.int i1), .val (.int i2), .val (.int i3), .val (.int (Int32.ofNat n)), .val (.int x), .val (.int y), .val (.int z), .val (.ref b), .val (.long E), .second, .val (.ref a1)] [(.long E), (.long (own_sum (own_f x y z) n))])) _
  refine XS.lcmp X4.here hx rfl (hb hby at_147) rfl ?_
  show Steps p.tables e below (T4.setTop (mkF m 148 #[.val (.int i0), .val (.int i1), .val (.int i2), .val (.int i3), .val (.int (Int32.ofNat n)), .val (.int x), .val (.int y), .val (.int z), .val (.ref b), .val (.long E), .second, .val (.ref a1)] [(.int (lcmpW (own_sum (own_f x y z) n) E))])) _
  refine XS.ifNo X4.here hx rfl (hb hby at_148) rfl ((if0 _ _).trans (teq (by rw [qE]; simp [lcmpW] : lcmpW (own_sum (own_f x y z) n) E = (0 : Int32))).2) ?_
  show Steps p.tables e below (T4.setTop (mkF m 151 #[.val (.int i0), .val (.int i1), .val (.int i2), .val (.int i3), .val (.int (Int32.ofNat n)), .val (.int x), .val (.int y), .val (.int z), .val (.ref b), .val (.long E), .second, .val (.ref a1)] [])) _
  refine XS.iconst X4.here hx rfl (hb hby at_151) ?_
  show Steps p.tables e below (T4.setTop (mkF m 152 #[.val (.int i0), .val (.int i1), .val (.int i2), .val (.int i3), .val (.int (Int32.ofNat n)), .val (.int x), .val (.int y), .val (.int z), .val (.ref b), .val (.long E), .second, .val (.ref a1)] [(.int (1 : Int32))])) _
  refine XS.goto X4.here hx rfl (pc0 := 152) (pc' := 156) rfl (hb hby at_152) (by decide) (by decide) ?_
  exact retN X4 hx (t := .boolean) Bd.returns (by simp) (hb hby at_156) hr
set_option maxRecDepth 65536 in
set_option maxHeartbeats 40000000 in
theorem comes_1 {Post : Tables → Env → Array Value → State → Outcome → State → Prop} (hpost : ∀ tb e args s v u, (limb_1_1.after args s (.returned v) u = true ∧ limb_1_2.after args s (.returned v) u = true ∧ True) → FrameEnd s (.returned v) u (Jvm.fieldLocs frame_1_writes args s ++ Jvm.arrayLocs frame_1_arrays args s ++ Jvm.staticLocs frame_1_statics s) 16 128 → Post tb e args s (.returned v) u) :
    ArmFor flags0 classFile x code maxLocals ret World_1 tables_1 room_1 Calls_1 rest_1 Pre_1 Post := by
  intro l hfl _ _ p e ha hc hk s m args below hf hA hF happ hP
  obtain ⟨hcalls, hrest, hpre⟩ := hP
  obtain ⟨-, -, -, hnamed, -, -, -, hat⟩ := (Spec.applies_iff hf).mp happ
  obtain ⟨hg, hn⟩ := and_e (Cond.before_iff.mp (show (Jvm.Cond.and given_1 narrow_1).before args s = true from hpre))
  obtain ⟨h1, g0⟩ := and_e hg
  obtain ⟨w0, w1, w2, w3, rfl⟩ : ∃ w0 w1 w2 w3 : Value, args = #[w0, w1, w2, w3] := by
    have hs : args.size = 4 := by simpa [Cond.value, given_1] using h1
    obtain ⟨L⟩ := args
    match L, hs with
    | [w0, w1, w2, w3], _ => exact ⟨w0, w1, w2, w3, rfl⟩
  have hw := fun d (hd : d ∈ tables_1) => atoms_spec (ws := Jvm.Cond.code x code maxLocals ret :: tables_1) hat d (List.mem_cons_of_mem _ hd)
  obtain ⟨q0, g1⟩ := and_e g0
  obtain ⟨q1, g2⟩ := and_e g1
  obtain ⟨q2, g3⟩ := and_e g2
  have q3 := g3
  obtain ⟨i0, e0⟩ := is_v q0
  obtain rfl : w0 = (.int i0) := Option.some.inj e0
  obtain ⟨i1, e1⟩ := is_v q1
  obtain rfl : w1 = (.int i1) := Option.some.inj e1
  obtain ⟨i2, e2⟩ := is_v q2
  obtain rfl : w2 = (.int i2) := Option.some.inj e2
  obtain ⟨i3, e3⟩ := is_v q3
  obtain rfl : w3 = (.int i3) := Option.some.inj e3
  obtain ⟨n, o, h1, h2, h3, _, L, rfl, ⟨rfl, N⟩, hq⟩ := rm0 l s _ hw tables_1 i0 i1 i2 i3 s.heap s.heap.size (Nat.le_refl _) p e ha hc hk s m _ below hf ((Spec.applies_iff_loose hf).mp happ).1 ⟨rfl, State.Warmed39.refl s, rfl⟩ trivial
  refine ⟨n, _, h1, h2, h3, hpost _ _ _ _ _ _ ⟨Cond.after_iff.mpr rfl, Cond.after_iff.mpr (eq_i res_at (Term.int_eval (1)) rfl), trivial⟩ ⟨hq.1, hq.2.1, (hq.2.2.sift fun y hy => Or.inr (N y hy)).mono (by decide) (by decide)⟩⟩
theorem main_1_1 : Claimed_1_1 := comes_1 fun _ _ _ _ _ _ h hF => ⟨h.1, hF⟩
theorem main_1_2 : Claimed_1_2 := comes_1 fun _ _ _ _ _ _ h hF => ⟨h.2.1, hF⟩
end Jvm.Pilot.@@N@@
namespace Jvm.Pilot.@@N@@
open Jvm Jvm.ClassFile Sem Op Lib Jvm.Free Jvm.Stand Jvm.Pilot.@@N@@.Jvm.D
/-! MADE BY PROGRAM (witnessworld.py) out of the Statement's table words and the real class files: 11 classes; the members and pool entries that the words name. The judged class is class 1, her method 1. -/
namespace start1
open Jvm.ClassFile
def u (s : String) : CpInfo := .utf8 (stringToUtf16 s)
/-- a pool by its gaps: so many unusable entries, then the entry; so many at the end -/
def gap : Nat → List CpInfo → List CpInfo
  | 0, r => r
  | n + 1, r => .unusable :: gap n r
def poolList (es : List (Nat × CpInfo)) (last : Nat) : List CpInfo := es.foldr (fun e r => gap e.1 (e.2 :: r)) (gap last [])
def pool (es : List (Nat × CpInfo)) (last : Nat) : Array CpInfo := ⟨poolList es last⟩
def fileOf (pool : Array CpInfo) (this : Nat) (attrs : Array Attribute := #[]) (ms : Array MethodInfo := #[]) (fl : Nat := 33) (sup : Nat := 0) (ifs : Array Nat := #[]) (fds : Array FieldInfo := #[]) : ClassFile where
  minorVersion := 0
  majorVersion := 65
  constantPool := pool
  accessFlags := fl
  thisClass := this
  superClass := sup
  interfaces := ifs
  fields := fds
  methods := ms
  attributes := attrs
def plain (name : String) (sup : Option ClassId) : Class where
  name := name
  kind := .ordinary
  loader := none
  accessFlags := 33
  super := sup
  interfaces := #[]
  cf := none
  fields := #[]
  methods := #[]
  instanceTypes := #[]
  staticTypes := #[]
  resolved := #[]
  callSites := []
  init := .initialized
  statics := none
  mirror := none

def pool0 : Array CpInfo := pool [(5, u "<init>"), (0, u "()V"), (1, .class_ 10), (1, u "java/lang/Object")] 113

def k0c0 : Code := { maxStack := 0, maxLocals := 1, code := object_method_1_code, exceptionTable := #[], attributes := #[] }
def k0m0 : Method := { name := "<init>", desc := "()V", sig := { parameters := [], returnType := none }, accessFlags := 1, code := some k0c0 }
/-- java/lang/Object -/
def k0 : Class := { plain "java/lang/Object" none with
  accessFlags := 33
  interfaces := #[]
  cf := some (fileOf pool0 8 #[] #[{ accessFlags := 1, nameIndex := 5, descriptorIndex := 6, attributes := #[] }] 33 0 #[] #[])
  fields := #[]
  methods := #[k0m0]
  instanceTypes := #[]
  staticTypes := #[]
  resolved := Array.replicate 124 none
  statics := none }

def pool1 : Array CpInfo := pool [(2, .class_ 4), (1, u "java/lang/Object"), (0, u "<init>"), (0, u "()V"), (0, .integer 2147483647), (0, .class_ 9), (0, u "com/example/tracewarden/tracewarden/net/Marking"), (0, .methodref 8 11), (0, .nameAndType 5 12), (0, u "([I)V"), (0, .methodref 8 14), (0, .nameAndType 15 16), (0, u "tokenTotal"), (0, u "()J"), (0, .class_ 18), (0, u "com/example/tracewarden/tracewarden/net/MarkingTokenTotalPinLaw"), (2, u "law"), (0, u "(IIII)Z")] 5

def k1m0 : Method := { name := "<init>", desc := "()V", sig := { parameters := [], returnType := none }, accessFlags := 1, code := none }
def k1c1 : Code := { maxStack := 4, maxLocals := 12, code := code, exceptionTable := #[], attributes := #[] }
def k1m1 : Method := { name := "law", desc := "(IIII)Z", sig := { parameters := [.int, .int, .int, .int], returnType := some .boolean }, accessFlags := 9, code := some k1c1 }
/-- com/example/tracewarden/tracewarden/net/MarkingTokenTotalPinLaw -/
def k1 : Class := { plain "com/example/tracewarden/tracewarden/net/MarkingTokenTotalPinLaw" (some 0) with
  accessFlags := 49
  interfaces := #[]
  cf := some (fileOf pool1 17 #[] #[{ accessFlags := 1, nameIndex := 5, descriptorIndex := 6, attributes := #[] }, { accessFlags := 9, nameIndex := 21, descriptorIndex := 22, attributes := #[] }] 49 2 #[] #[])
  fields := #[]
  methods := #[k1m0, k1m1]
  instanceTypes := #[]
  staticTypes := #[]
  resolved := Array.replicate 28 none
  statics := none }

def pool2 : Array CpInfo := pool [(3, .class_ 4), (0, u "com/example/tracewarden/tracewarden/net/Marking"), (0, .methodref 6 7), (0, .class_ 8), (0, .nameAndType 9 10), (0, u "java/lang/Object"), (0, u "<init>"), (0, u "()V"), (0, .fieldref 3 12), (0, .nameAndType 13 14), (0, u "tokens"), (0, u "[I"), (0, .methodref 16 17), (0, .class_ 18), (0, .nameAndType 19 20), (0, u "java/util/Arrays"), (0, u "hashCode"), (0, u "([I)I"), (0, .fieldref 3 22), (0, .nameAndType 23 24), (0, u "hash"), (0, u "I"), (7, u "([I)V"), (9, u "UNBOUNDED"), (1, u "MOST_TOKENS"), (15, u "tokenTotal"), (0, u "()J")] 5

def k2c0 : Code := { maxStack := 2, maxLocals := 2, code := prog_27_method_1_code, exceptionTable := #[], attributes := #[] }
def k2m0 : Method := { name := "<init>", desc := "([I)V", sig := { parameters := [(.array .int)], returnType := none }, accessFlags := 0, code := some k2c0 }
def k2c1 : Code := { maxStack := 4, maxLocals := 7, code := prog_27_method_9_code, exceptionTable := #[], attributes := #[] }
def k2m1 : Method := { name := "tokenTotal", desc := "()J", sig := { parameters := [], returnType := some .long }, accessFlags := 1, code := some k2c1 }
/-- com/example/tracewarden/tracewarden/net/Marking -/
def k2 : Class := { plain "com/example/tracewarden/tracewarden/net/Marking" (some 0) with
  accessFlags := 49
  interfaces := #[]
  cf := some (fileOf pool2 3 #[] #[{ accessFlags := 0, nameIndex := 9, descriptorIndex := 32, attributes := #[] }, { accessFlags := 1, nameIndex := 60, descriptorIndex := 61, attributes := #[] }] 49 6 #[] #[{ accessFlags := 24, nameIndex := 42, descriptorIndex := 24, attributes := #[] }, { accessFlags := 24, nameIndex := 44, descriptorIndex := 24, attributes := #[] }, { accessFlags := 18, nameIndex := 13, descriptorIndex := 14, attributes := #[] }, { accessFlags := 18, nameIndex := 23, descriptorIndex := 24, attributes := #[] }])
  fields := #[{ name := "UNBOUNDED", type := .int, accessFlags := 24, slot := 0, constantValue := 0 }, { name := "MOST_TOKENS", type := .int, accessFlags := 24, slot := 1, constantValue := 0 }, { name := "tokens", type := (.array .int), accessFlags := 18, slot := 0, constantValue := 0 }, { name := "hash", type := .int, accessFlags := 18, slot := 1, constantValue := 0 }]
  methods := #[k2m0, k2m1]
  instanceTypes := #[(.array .int), .int]
  staticTypes := #[.int, .int]
  resolved := Array.replicate 67 none
  statics := none }

def pool3 : Array CpInfo := pool [(2, .class_ 4), (1, u "java/lang/Object"), (0, u "<init>"), (0, u "()V"), (7, .class_ 16), (1, u "java/util/Arrays"), (57, .class_ 76), (1, u "java/util/Arrays$NaturalOrder"), (36, .class_ 115), (1, u "java/util/Arrays$LegacyMergeSort"), (1, u "Z"), (128, .class_ 248), (1, u "jdk/internal/util/ArraysSupport"), (126, .class_ 376), (0, u "java/util/Arrays$ArrayList"), (2, .methodref 246 380), (0, .nameAndType 381 382), (0, u "vectorizedHashCode"), (0, u "(Ljava/lang/Object;IIII)I"), (2, u "hashCode"), (22, u "([I)I"), (36, u "$assertionsDisabled"), (269, u "MIN_ARRAY_SORT_GRAN"), (0, u "I"), (2, u "INSERTIONSORT_THRESHOLD"), (255, .class_ 976), (0, u "java/util/Arrays$ArrayItr")] 52

def k3m0 : Method := { name := "<init>", desc := "()V", sig := { parameters := [], returnType := none }, accessFlags := 2, code := none }
def k3c1 : Code := { maxStack := 5, maxLocals := 1, code := jdk_65_method_150_code, exceptionTable := #[], attributes := #[] }
def k3m1 : Method := { name := "hashCode", desc := "([I)I", sig := { parameters := [(.array .int)], returnType := some .int }, accessFlags := 9, code := some k3c1 }
/-- java/util/Arrays -/
def k3 : Class := { plain "java/util/Arrays" (some 0) with
  accessFlags := 49
  interfaces := #[]
  cf := some (fileOf pool3 14 #[.nestMembers #[975, 375, 113, 74]] #[{ accessFlags := 2, nameIndex := 5, descriptorIndex := 6, attributes := #[] }, { accessFlags := 9, nameIndex := 385, descriptorIndex := 408, attributes := #[] }] 49 2 #[] #[{ accessFlags := 26, nameIndex := 715, descriptorIndex := 716, attributes := #[] }, { accessFlags := 26, nameIndex := 719, descriptorIndex := 716, attributes := #[] }, { accessFlags := 4120, nameIndex := 445, descriptorIndex := 117, attributes := #[] }])
  fields := #[{ name := "MIN_ARRAY_SORT_GRAN", type := .int, accessFlags := 26, slot := 0, constantValue := 0 }, { name := "INSERTIONSORT_THRESHOLD", type := .int, accessFlags := 26, slot := 1, constantValue := 0 }, { name := "$assertionsDisabled", type := .boolean, accessFlags := 4120, slot := 2, constantValue := 0 }]
  methods := #[k3m0, k3m1]
  instanceTypes := #[]
  staticTypes := #[.int, .int, .boolean]
  resolved := Array.replicate 1029 none
  statics := none }

def pool4 : Array CpInfo := pool [(9, u "<init>"), (6, .class_ 18), (1, u "java/lang/Object"), (0, u "()V"), (1, .class_ 23), (1, u "jdk/internal/util/ArraysSupport"), (0, u "LOG2_ARRAY_LONG_INDEX_SCALE"), (0, u "I"), (2, u "U"), (0, u "Ljdk/internal/misc/Unsafe;"), (8, u "BIG_ENDIAN"), (0, u "Z"), (8, u "LOG2_BYTE_BIT_SIZE"), (4, u "LOG2_ARRAY_INT_INDEX_SCALE"), (19, u "hashCode"), (8, .class_ 83), (0, u "[I"), (0, .methodref 21 85), (0, .nameAndType 73 86), (0, u "(I[III)I"), (21, u "JLA"), (0, u "Ljdk/internal/access/JavaLangAccess;"), (11, u "LOG2_ARRAY_BOOLEAN_INDEX_SCALE"), (9, u "LOG2_ARRAY_BYTE_INDEX_SCALE"), (5, u "LOG2_ARRAY_CHAR_INDEX_SCALE"), (5, u "LOG2_ARRAY_SHORT_INDEX_SCALE"), (18, u "LOG2_ARRAY_FLOAT_INDEX_SCALE"), (24, u "LOG2_ARRAY_DOUBLE_INDEX_SCALE"), (89, u "T_BOOLEAN"), (2, u "T_CHAR"), (1, u "T_FLOAT"), (1, u "T_DOUBLE"), (1, u "T_BYTE"), (1, u "T_SHORT"), (1, u "T_INT"), (1, u "T_LONG"), (1, u "SOFT_MAX_ARRAY_LENGTH"), (26, u "vectorizedHashCode"), (0, u "(Ljava/lang/Object;IIII)I")] 55

def k4m0 : Method := { name := "<init>", desc := "()V", sig := { parameters := [], returnType := none }, accessFlags := 2, code := none }
def k4c1 : Code := { maxStack := 4, maxLocals := 5, code := jdk_48_method_4_code, exceptionTable := #[], attributes := #[] }
def k4m1 : Method := { name := "vectorizedHashCode", desc := "(Ljava/lang/Object;IIII)I", sig := { parameters := [(.object "java/lang/Object"), .int, .int, .int, .int], returnType := some .int }, accessFlags := 9, code := some k4c1 }
def k4c2 : Code := { maxStack := 3, maxLocals := 6, code := jdk_48_method_9_code, exceptionTable := #[], attributes := #[] }
def k4m2 : Method := { name := "hashCode", desc := "(I[III)I", sig := { parameters := [.int, (.array .int), .int, .int], returnType := some .int }, accessFlags := 10, code := some k4c2 }
/-- jdk/internal/util/ArraysSupport -/
def k4 : Class := { plain "jdk/internal/util/ArraysSupport" (some 0) with
  accessFlags := 33
  interfaces := #[]
  cf := some (fileOf pool4 21 #[] #[{ accessFlags := 2, nameIndex := 9, descriptorIndex := 19, attributes := #[] }, { accessFlags := 9, nameIndex := 321, descriptorIndex := 322, attributes := #[] }, { accessFlags := 10, nameIndex := 73, descriptorIndex := 86, attributes := #[] }] 33 16 #[] #[{ accessFlags := 24, nameIndex := 28, descriptorIndex := 29, attributes := #[] }, { accessFlags := 26, nameIndex := 38, descriptorIndex := 39, attributes := #[] }, { accessFlags := 25, nameIndex := 121, descriptorIndex := 25, attributes := #[] }, { accessFlags := 25, nameIndex := 131, descriptorIndex := 25, attributes := #[] }, { accessFlags := 25, nameIndex := 137, descriptorIndex := 25, attributes := #[] }, { accessFlags := 25, nameIndex := 143, descriptorIndex := 25, attributes := #[] }, { accessFlags := 25, nameIndex := 53, descriptorIndex := 25, attributes := #[] }, { accessFlags := 25, nameIndex := 24, descriptorIndex := 25, attributes := #[] }, { accessFlags := 25, nameIndex := 162, descriptorIndex := 25, attributes := #[] }, { accessFlags := 25, nameIndex := 187, descriptorIndex := 25, attributes := #[] }, { accessFlags := 26, nameIndex := 48, descriptorIndex := 25, attributes := #[] }, { accessFlags := 25, nameIndex := 277, descriptorIndex := 25, attributes := #[] }, { accessFlags := 25, nameIndex := 280, descriptorIndex := 25, attributes := #[] }, { accessFlags := 25, nameIndex := 282, descriptorIndex := 25, attributes := #[] }, { accessFlags := 25, nameIndex := 284, descriptorIndex := 25, attributes := #[] }, { accessFlags := 25, nameIndex := 286, descriptorIndex := 25, attributes := #[] }, { accessFlags := 25, nameIndex := 288, descriptorIndex := 25, attributes := #[] }, { accessFlags := 25, nameIndex := 290, descriptorIndex := 25, attributes := #[] }, { accessFlags := 25, nameIndex := 292, descriptorIndex := 25, attributes := #[] }, { accessFlags := 26, nameIndex := 108, descriptorIndex := 109, attributes := #[] }, { accessFlags := 25, nameIndex := 294, descriptorIndex := 25, attributes := #[] }])
  fields := #[{ name := "U", type := (.object "jdk/internal/misc/Unsafe"), accessFlags := 24, slot := 0, constantValue := 0 }, { name := "BIG_ENDIAN", type := .boolean, accessFlags := 26, slot := 1, constantValue := 0 }, { name := "LOG2_ARRAY_BOOLEAN_INDEX_SCALE", type := .int, accessFlags := 25, slot := 2, constantValue := 0 }, { name := "LOG2_ARRAY_BYTE_INDEX_SCALE", type := .int, accessFlags := 25, slot := 3, constantValue := 0 }, { name := "LOG2_ARRAY_CHAR_INDEX_SCALE", type := .int, accessFlags := 25, slot := 4, constantValue := 0 }, { name := "LOG2_ARRAY_SHORT_INDEX_SCALE", type := .int, accessFlags := 25, slot := 5, constantValue := 0 }, { name := "LOG2_ARRAY_INT_INDEX_SCALE", type := .int, accessFlags := 25, slot := 6, constantValue := 0 }, { name := "LOG2_ARRAY_LONG_INDEX_SCALE", type := .int, accessFlags := 25, slot := 7, constantValue := 0 }, { name := "LOG2_ARRAY_FLOAT_INDEX_SCALE", type := .int, accessFlags := 25, slot := 8, constantValue := 0 }, { name := "LOG2_ARRAY_DOUBLE_INDEX_SCALE", type := .int, accessFlags := 25, slot := 9, constantValue := 0 }, { name := "LOG2_BYTE_BIT_SIZE", type := .int, accessFlags := 26, slot := 10, constantValue := 0 }, { name := "T_BOOLEAN", type := .int, accessFlags := 25, slot := 11, constantValue := 0 }, { name := "T_CHAR", type := .int, accessFlags := 25, slot := 12, constantValue := 0 }, { name := "T_FLOAT", type := .int, accessFlags := 25, slot := 13, constantValue := 0 }, { name := "T_DOUBLE", type := .int, accessFlags := 25, slot := 14, constantValue := 0 }, { name := "T_BYTE", type := .int, accessFlags := 25, slot := 15, constantValue := 0 }, { name := "T_SHORT", type := .int, accessFlags := 25, slot := 16, constantValue := 0 }, { name := "T_INT", type := .int, accessFlags := 25, slot := 17, constantValue := 0 }, { name := "T_LONG", type := .int, accessFlags := 25, slot := 18, constantValue := 0 }, { name := "JLA", type := (.object "jdk/internal/access/JavaLangAccess"), accessFlags := 26, slot := 19, constantValue := 0 }, { name := "SOFT_MAX_ARRAY_LENGTH", type := .int, accessFlags := 25, slot := 20, constantValue := 0 }]
  methods := #[k4m0, k4m1, k4m2]
  instanceTypes := #[]
  staticTypes := #[(.object "jdk/internal/misc/Unsafe"), .boolean, .int, .int, .int, .int, .int, .int, .int, .int, .int, .int, .int, .int, .int, .int, .int, .int, .int, (.object "jdk/internal/access/JavaLangAccess"), .int]
  resolved := Array.replicate 378 none
  statics := none }

def pool5 : Array CpInfo := pool [(1, u "java/lang/Cloneable"), (0, .class_ 1), (0, u "java/lang/Object"), (0, .class_ 3)] 3

/-- java/lang/Cloneable -/
def k5 : Class := { plain "java/lang/Cloneable" (some 0) with
  accessFlags := 1537
  interfaces := #[]
  cf := some (fileOf pool5 2 #[] #[] 1537 4 #[] #[])
  fields := #[]
  methods := #[]
  instanceTypes := #[]
  staticTypes := #[]
  resolved := Array.replicate 8 none
  statics := none }

def pool6 : Array CpInfo := pool [(1, u "java/io/Serializable"), (0, .class_ 1), (0, u "java/lang/Object"), (0, .class_ 3)] 3

/-- java/io/Serializable -/
def k6 : Class := { plain "java/io/Serializable" (some 0) with
  accessFlags := 1537
  interfaces := #[]
  cf := some (fileOf pool6 2 #[] #[] 1537 4 #[] #[])
  fields := #[]
  methods := #[]
  instanceTypes := #[]
  staticTypes := #[]
  resolved := Array.replicate 8 none
  statics := none }

/-- the primitive byte -/
def k7 : Class := { plain "byte" none with kind := .primitive 'B', accessFlags := 0x411 }
/-- [B -/
def k8 : Class := { plain "[B" (some 0) with kind := .array 7 .byte, interfaces := #[5, 6], accessFlags := 1041 }

/-- the primitive int -/
def k9 : Class := { plain "int" none with kind := .primitive 'I', accessFlags := 0x411 }
/-- [I -/
def k10 : Class := { plain "[I" (some 0) with kind := .array 9 .int, interfaces := #[5, 6], accessFlags := 1041 }

def heap : Heap := #[]
def classes : Array Class := #[k0, k1, k2, k3, k4, k5, k6, k7, k8, k9, k10]
def interned : List (Array UInt16 × Addr) := []
def slotsUsed : Nat := 0
def theMethod : MethodId := ⟨1, 1⟩
def args0 : Array Value := #[.int 2, .int 5, .int 7, .int 9]
def aboutOver (below : List Frame) : State where
  vm := { classes := classes, interned := interned.toArray }
  heap := heap
  slotsUsed := slotsUsed
  threads := #[{ frames := .invoking theMethod args0 :: below }]
def below0 : List Frame := [.native { method := ⟨0, 0⟩, args := #[] }]
def about1 : State := aboutOver below0
def p0 : Program := .bare "" "" ""
def e0 : Env := launch0.env 0 0 0
theorem w_frames : about1.frames = Frame.invoking theMethod args0 :: below0 := rfl
set_option maxRecDepth 65536 in
theorem w_args : argsFit about1.vm theMethod args0 = true := by decide +kernel
set_option maxRecDepth 65536 in
theorem w_heap : heapFits about1 = true := by decide +kernel
set_option maxRecDepth 65536 in
theorem w_runnable : about1.curStatus? = some .runnable := by decide +kernel
set_option maxRecDepth 65536 in
theorem w_alone : about1.alone = true := by decide +kernel
set_option maxRecDepth 65536 in
theorem w_named : about1.methodNamed? x = some theMethod := by decide +kernel
set_option maxRecDepth 65536 in
theorem w_hears : about1.hears theMethod below0 = true := by decide +kernel
set_option maxRecDepth 65536 in
theorem w_ripe : about1.ripe theMethod args0 below0 = true := by decide +kernel
theorem w_running : about1.status = .running := rfl
set_option maxRecDepth 65536 in
theorem w_room : about1.hasRoom e0.platform room_1 = true :=
  launch0.hasRoom_least _ room_1 (by decide +kernel) (by decide +kernel) (by decide +kernel) (by decide +kernel) (by decide +kernel) (by decide +kernel)
theorem allAtoms_all (ts : List Jvm.Cond) (a : Array Jvm.Value) (st : Jvm.State) : (allAtoms ts).before a st = ts.all (fun c => c.before a st) := by
  induction ts with
  | nil => rfl
  | cons c t ih =>
    show (Jvm.Cond.and c (allAtoms t)).before a st = _
    rw [Jvm.Cond.before_and, ih, List.all_cons]
def words1 : List Jvm.Cond := Jvm.Cond.code x code maxLocals ret :: tables_1
/-- a 'code' word, met by the world's own term for the bytes: nothing is compared byte by byte -/
theorem code_word {y : MethodName} {bytes : ByteArray} {mx : Nat} {rt : Option FieldType} {a : Array Value} {s : State} {m : MethodId} {meth : Method} {c : Code} (h1 : s.methodNamed? y = some m) (h2 : s.vm.method? m = some meth) (h3 : meth.code = some c) (h4 : c.code = bytes)
    (h5 : (c.maxLocals == mx && c.exceptionTable.isEmpty && decide (c.maxStack ≤ mostOperands) && decide (meth.sig.returnType = rt) && !meth.locks && decide (parseMethodDescriptor y.desc = some meth.sig)) = true) : (Jvm.Cond.code y bytes mx rt).before a s = true := by
  simp only [Bool.and_eq_true, beq_iff_eq, Bool.not_eq_true', decide_eq_true_eq] at h5
  obtain ⟨⟨⟨⟨⟨g1, g2⟩, g3⟩, g4⟩, g5⟩, g6⟩ := h5
  simp [Cond.before, Cond.holds, Cond.value, h1, h2, h3, h4, g1, g2, g3, g4, g5, g6]
def isCode : Jvm.Cond → Bool
  | .code _ _ _ _ => true
  | _ => false
theorem all_split {L : List Jvm.Cond} {P : Jvm.Cond → Bool} (h1 : L.all (fun c => isCode c || P c) = true) (h2 : ∀ c ∈ L.filter isCode, P c = true) : L.all P = true := by
  refine List.all_eq_true.mpr fun c hc => ?_
  have h := List.all_eq_true.mp h1 c hc
  rcases Bool.eq_false_or_eq_true (isCode c) with hi | hi
  · exact h2 c (List.mem_filter.mpr ⟨hc, hi⟩)
  · simpa [hi] using h
set_option maxRecDepth 65536 in
theorem w_c0 : (Jvm.Cond.code x code maxLocals ret).before args0 about1 = true := code_word (m := ⟨1, 1⟩) (meth := k1m1) (c := k1c1) (by decide +kernel) rfl rfl rfl (by decide +kernel)
set_option maxRecDepth 65536 in
theorem w_c1 : (Jvm.Cond.code ({ cls := "com/example/tracewarden/tracewarden/net/Marking", name := "<init>", desc := "([I)V" } : Jvm.MethodName) prog_27_method_1_code (2 : Nat) (Option.none : Option Jvm.ClassFile.FieldType)).before args0 about1 = true := code_word (m := ⟨2, 0⟩) (meth := k2m0) (c := k2c0) (by decide +kernel) rfl rfl rfl (by decide +kernel)
set_option maxRecDepth 65536 in
theorem w_c2 : (Jvm.Cond.code ({ cls := "java/lang/Object", name := "<init>", desc := "()V" } : Jvm.MethodName) object_method_1_code (1 : Nat) (Option.none : Option Jvm.ClassFile.FieldType)).before args0 about1 = true := code_word (m := ⟨0, 0⟩) (meth := k0m0) (c := k0c0) (by decide +kernel) rfl rfl rfl (by decide +kernel)
set_option maxRecDepth 65536 in
theorem w_c3 : (Jvm.Cond.code ({ cls := "java/util/Arrays", name := "hashCode", desc := "([I)I" } : Jvm.MethodName) jdk_65_method_150_code (1 : Nat) (Option.some Jvm.ClassFile.FieldType.int)).before args0 about1 = true := code_word (m := ⟨3, 1⟩) (meth := k3m1) (c := k3c1) (by decide +kernel) rfl rfl rfl (by decide +kernel)
set_option maxRecDepth 65536 in
theorem w_c4 : (Jvm.Cond.code ({ cls := "com/example/tracewarden/tracewarden/net/Marking", name := "tokenTotal", desc := "()J" } : Jvm.MethodName) prog_27_method_9_code (7 : Nat) (Option.some Jvm.ClassFile.FieldType.long)).before args0 about1 = true := code_word (m := ⟨2, 1⟩) (meth := k2m1) (c := k2c1) (by decide +kernel) rfl rfl rfl (by decide +kernel)
set_option maxRecDepth 65536 in
theorem w_c5 : (Jvm.Cond.code ({ cls := "jdk/internal/util/ArraysSupport", name := "vectorizedHashCode", desc := "(Ljava/lang/Object;IIII)I" } : Jvm.MethodName) jdk_48_method_4_code (5 : Nat) (Option.some Jvm.ClassFile.FieldType.int)).before args0 about1 = true := code_word (m := ⟨4, 1⟩) (meth := k4m1) (c := k4c1) (by decide +kernel) rfl rfl rfl (by decide +kernel)
set_option maxRecDepth 65536 in
theorem w_c6 : (Jvm.Cond.code ({ cls := "jdk/internal/util/ArraysSupport", name := "hashCode", desc := "(I[III)I" } : Jvm.MethodName) jdk_48_method_9_code (6 : Nat) (Option.some Jvm.ClassFile.FieldType.int)).before args0 about1 = true := code_word (m := ⟨4, 2⟩) (meth := k4m2) (c := k4c2) (by decide +kernel) rfl rfl rfl (by decide +kernel)
def codes1 : List Jvm.Cond := [Jvm.Cond.code x code maxLocals ret, Jvm.Cond.code ({ cls := "com/example/tracewarden/tracewarden/net/Marking", name := "<init>", desc := "([I)V" } : Jvm.MethodName) prog_27_method_1_code (2 : Nat) (Option.none : Option Jvm.ClassFile.FieldType), Jvm.Cond.code ({ cls := "java/lang/Object", name := "<init>", desc := "()V" } : Jvm.MethodName) object_method_1_code (1 : Nat) (Option.none : Option Jvm.ClassFile.FieldType), Jvm.Cond.code ({ cls := "java/util/Arrays", name := "hashCode", desc := "([I)I" } : Jvm.MethodName) jdk_65_method_150_code (1 : Nat) (Option.some Jvm.ClassFile.FieldType.int), Jvm.Cond.code ({ cls := "com/example/tracewarden/tracewarden/net/Marking", name := "tokenTotal", desc := "()J" } : Jvm.MethodName) prog_27_method_9_code (7 : Nat) (Option.some Jvm.ClassFile.FieldType.long), Jvm.Cond.code ({ cls := "jdk/internal/util/ArraysSupport", name := "vectorizedHashCode", desc := "(Ljava/lang/Object;IIII)I" } : Jvm.MethodName) jdk_48_method_4_code (5 : Nat) (Option.some Jvm.ClassFile.FieldType.int), Jvm.Cond.code ({ cls := "jdk/internal/util/ArraysSupport", name := "hashCode", desc := "(I[III)I" } : Jvm.MethodName) jdk_48_method_9_code (6 : Nat) (Option.some Jvm.ClassFile.FieldType.int)]
set_option maxRecDepth 65536 in
theorem codes_eq : words1.filter isCode = codes1 := rfl
theorem w_codes : ∀ c ∈ words1.filter isCode, c.before args0 about1 = true := by
  rw [codes_eq]
  intro c hc
  simp only [codes1, List.mem_cons, List.not_mem_nil, or_false] at hc
  rcases hc with rfl | rfl | rfl | rfl | rfl | rfl | rfl
  · exact w_c0
  · exact w_c1
  · exact w_c2
  · exact w_c3
  · exact w_c4
  · exact w_c5
  · exact w_c6
set_option maxRecDepth 65536 in
theorem w_t1 : (words1.take 24).all (fun c => isCode c || c.before args0 about1) = true := by decide +kernel
set_option maxRecDepth 65536 in
theorem w_t2 : (words1.drop 24).all (fun c => isCode c || c.before args0 about1) = true := by decide +kernel
theorem w_tables : (allAtoms (Jvm.Cond.code x code maxLocals ret :: tables_1)).before args0 about1 = true := by
  rw [allAtoms_all]
  show words1.all (fun c => c.before args0 about1) = true
  refine all_split ?_ w_codes
  rw [← List.take_append_drop 24 words1, List.all_append, w_t1, w_t2]
  rfl
set_option maxRecDepth 65536 in
theorem w_case : (Jvm.Cond.and given_1 narrow_1).before args0 about1 = true := by decide +kernel
theorem w_applies : (headSpec (Jvm.Cond.code x code maxLocals ret :: tables_1) room_1).applies x e0.platform about1 = true :=
  (Spec.applies_iff w_frames).mpr ⟨w_running, w_runnable, w_alone, w_named, w_hears, w_ripe, w_room, w_tables⟩
theorem atStart : AtStart classFile x code maxLocals ret World_1 tables_1 room_1 Calls_1 rest_1 Pre_1 launch0 p0 e0 about1 theMethod args0 below0 :=
  ⟨lists_1, trivial, launch0.admits_env _ _ _, launch0.least_env, fairChoices_fair.cas, fairChoices_fair.clock, w_frames, w_args, w_heap, w_applies, trivial, trivial, w_case⟩
end start1
theorem witness_1 : WitnessClaimed_1 := ⟨start1.p0, start1.e0, start1.about1, start1.theMethod, start1.args0, start1.below0, start1.atStart⟩
end Jvm.Pilot.@@N@@
