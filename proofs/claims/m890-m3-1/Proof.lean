import JvmDerived
import JvmDerived.Pilot.@@N@@Statement
import JvmDerived.Pilot.@@N@@Code
set_option linter.unusedVariables false
set_option linter.unusedSimpArgs false
@@BLOCK:NumsL.lean.txt@@
@@BLOCK:Masks.lean.txt@@
namespace Jvm.RoadKit
open Sem ClassFile Op Lib Jvm.Stand Jvm.Free Jvm.LawKit
section New
variable {p : Program} {l : Launch} {e : Env} {R : Room} {s : State} {m : MethodId} {args : Array Value} {below : List Frame} {meth : Method} {c : Code} {T : State} {locs : List Loc} {cells slots : Nat}
theorem retI (X : Stand p l e R s m args below meth c T locs cells slots) (hx : p.tables.exec = Jvm.exec) {pc : Nat} {Ls : Array Slot} {z : Int32} {rest : List Value} (hret : meth.sig.returnType = some .int) (hd : decode c.code pc = .ok (.ireturn, 1)) {fs : List Frame}
    (hl : ∀ (f : JFrame) (acts : List Action), f.method = m → f.locked = none → f.entered = [] → (doReturn e (T.setTop f) acts (some (.int z))).1 = T.setFrames fs) : Steps p.tables e below (T.setTop (mkF m pc Ls (.int z :: rest))) (T.setFrames fs) := by
  have hm' : T.vm.method? m = some meth := X.method'
  have hn : narrow .int (.int z) = .int z := rfl
  show Steps p.tables e below (T.setTop { method := m, pc := pc, locals := Ls, stack := _ :: rest, locked := none }) _
  jvm_step X.here [X.here.top, hx, hd, hm', hret, hn]
  first | (intro acts; rw [hl _ acts rfl rfl rfl]) | rw [hl _ _ rfl rfl rfl]
  exact Steps.refl _
end New
end Jvm.RoadKit
namespace Jvm.Pilot.@@N@@
open Jvm Jvm.ClassFile Sem Op Lib Jvm.Free Jvm.Stand Jvm.LawKit Jvm.RoadKit Bundle Jvm.Pilot.@@N@@.Jvm.D

/-! numbers -/
theorem own_lt {i n : Nat} (h : i < n) (hn : n < 2147483648) : Int32.ofNat i < Int32.ofNat n := by
  rw [Int32.lt_iff_toInt_lt, Int32.toInt_ofNat_of_lt (by omega), Int32.toInt_ofNat_of_lt (by omega)]
  omega
theorem own_nlt {i n : Nat} (h : n ≤ i) (hi : i < 2147483648) : ¬ Int32.ofNat i < Int32.ofNat n := by
  rw [Int32.lt_iff_toInt_lt, Int32.toInt_ofNat_of_lt (by omega), Int32.toInt_ofNat_of_lt (by omega)]
  omega
theorem own_nn {n : Nat} (hn : n < 2147483648) : ¬ Int32.ofNat n < 0 := by
  rw [Int32.lt_iff_toInt_lt, Int32.toInt_ofNat_of_lt (by omega), show (0 : Int32).toInt = 0 from rfl]
  omega
theorem own_n32 {n : Nat} (hn : n < 2147483648) : (Int32.ofNat n).toNatClampNeg = n := by
  rw [Int32.toNatClampNeg, Int32.toInt_ofNat_of_lt (by omega)]; rfl
theorem own_ne {i n : Nat} (h : i ≠ n) (hi : i < 2147483648) (hn : n < 2147483648) : ¬ (Int32.ofNat i = Int32.ofNat n) := fun q => by
  have := congrArg Int32.toNatClampNeg q
  rw [own_n32 hi, own_n32 hn] at this
  exact h this
theorem own_one (i : Nat) : Int32.ofNat i + (1 : Int32) = Int32.ofNat (i + 1) := (Int32.ofNat_add i 1).symm
theorem own_add (i j : Nat) : Int32.ofNat i + Int32.ofNat j = Int32.ofNat (i + j) := (Int32.ofNat_add i j).symm
theorem own_sub {i j : Nat} (h : j ≤ i) : Int32.ofNat i - Int32.ofNat j = Int32.ofNat (i - j) := by
  have q : Int32.ofNat i = Int32.ofNat (i - j) + Int32.ofNat j := by rw [own_add]; congr 1; omega
  rw [q, Int32.add_sub_cancel]
theorem own_nat {v : Int32} (h : 0 ≤ v) : ∃ n : Nat, n < 2147483648 ∧ v = Int32.ofNat n ∧ v.toInt = n := by
  have h0 := Jvm.Kit.i32_nonneg.mp h
  have h1 := Int32.toInt_lt v
  refine ⟨v.toInt.toNat, by omega, ?_, by omega⟩
  apply Int32.toInt_inj.mp
  rw [Int32.toInt_ofNat_of_lt (by omega)]
  omega
theorem own_rem6 (x : Int32) : ∃ n : Nat, n ≤ 5 ∧ (x &&& (2147483647 : Int32)) % (6 : Int32) = Int32.ofNat n := by
  have e1 : (x &&& (2147483647 : Int32)).toInt = x.toInt % 2 ^ 31 := Jvm.Kit.i32_mask x 2147483647 (k := 31) (by decide) (by decide)
  have e2 : ((x &&& (2147483647 : Int32)) % (6 : Int32)).toInt = (x &&& (2147483647 : Int32)).toInt % (6 : Int32).toInt := Jvm.Kit.i32_rem_nonneg (by omega)
  rw [show (6 : Int32).toInt = 6 from rfl] at e2
  obtain ⟨n, h1, h2, h3⟩ := own_nat (v := (x &&& (2147483647 : Int32)) % (6 : Int32)) (Jvm.Kit.i32_nonneg.mpr (by omega))
  exact ⟨n, by omega, h2⟩
def own_mx (x : Int32) : Int32 := if (x &&& (16 : Int32)) = 0 then (x &&& (7 : Int32)) else ((x.toUInt32 >>> ((1 : Int32) &&& 31).toUInt32).toInt32)
theorem own_mx_nat (x : Int32) : ∃ n : Nat, n < 2147483648 ∧ own_mx x = Int32.ofNat n := by
  have h : 0 ≤ own_mx x := by
    unfold own_mx
    split
    · exact (Jvm.Kit.i32_and_bounds x (m := 7) (by decide)).1
    · exact Jvm.Kit.i32_iushr_nonneg x (k := 1) (by decide) (by decide) (by decide)
  obtain ⟨n, h1, h2, -⟩ := own_nat h
  exact ⟨n, h1, h2⟩
def own_z (b : Bool) : Int32 := if b then 1 else 0
def own_c (b : Int32) : Bool := decide ((b &&& (192 : Int32)) = (128 : Int32))
theorem own_nar2 (x : Int32) : nar .byte (nar .byte x) = nar .byte x := by
  show (x.toInt8.toInt32).toInt8.toInt32 = x.toInt8.toInt32
  rw [Int8.toInt8_toInt32]
/-! byte arrays: n places, place i holds f i -/
def own_BA (Z : State) (h : Heap) (a : Addr) (n : Nat) (f : Nat → Int32) : Prop := ∃ c : Cell, Arr Z h a c .byte ∧ Z.vm.findClass "[B" = some c.cls ∧ c.slots.size = n ∧ (∀ i, i < n → c.slots[i]? = some (.int (f i))) ∧ ∀ i, i < n → fits .byte (.int (f i)) = true
theorem own_BA.keep {Z : State} {h h' : Heap} {a : Addr} {ws : List Addr} {n : Nat} {f : Nat → Int32} (F : own_BA Z h a n f) (K : Keep h h' ws) (q : a ∉ ws) : own_BA Z h' a n f := by
  obtain ⟨c, A, r⟩ := F; exact ⟨c, ⟨K.2.1 a c A.1 q, A.2⟩, r⟩
theorem own_BA.lt {Z : State} {h : Heap} {a : Addr} {n : Nat} {f : Nat → Int32} (F : own_BA Z h a n f) : a < h.size := by
  obtain ⟨c, A, -⟩ := F; exact A.lt
theorem own_BA.fn {Z : State} {h : Heap} {a : Addr} {n : Nat} {f g : Nat → Int32} (F : own_BA Z h a n f) (q : ∀ i, i < n → f i = g i) : own_BA Z h a n g := by
  obtain ⟨c, A, r, s, H, G⟩ := F; exact ⟨c, A, r, s, fun i hi => by rw [H i hi, q i hi], fun i hi => by rw [← q i hi]; exact G i hi⟩
theorem own_inb {c : Cell} {n i : Nat} (S : c.slots.size = n) (hn : n < 2147483648) (hi : i < n) : ¬ (Int32.ofNat i < 0 ∨ c.slots.size ≤ (Int32.ofNat i).toNatClampNeg) := by
  rw [S, own_n32 (by omega)]
  exact fun q => q.elim (own_nn (by omega)) (fun q => by omega)
theorem own_size {c : Cell} {n : Nat} (S : c.slots.size = n) (hn : n < 2147483648) : c.slots.size = (Int32.ofNat n).toNatClampNeg := by rw [S, own_n32 hn]
section OwnNew
variable {p : Program} {l : Launch} {e : Env} {R : Room} {s : State} {m : MethodId} {args : Array Value} {below : List Frame} {meth : Method} {c : Code} {T : State} {locs : List Loc} {cells slots : Nat} {Z : State} {a0 : Array Value} {h : Heap}
/-- newarray of n bytes, n a small natural: the fresh array of zeros, its class known -/
theorem own_newB (X : Stand p l e R s m args below meth c T locs cells slots) (hx : p.tables.exec = Jvm.exec) (hZ : Z.Warmed39 s.vm) (w : (Cond.arrayClass .byte).before a0 Z = true) (eT : T.heap = h) {n : Nat} (hn : n ≤ 255) {g : JFrame} (hg : g.method = m) (hd : decode c.code g.pc = .ok (.newarray .byte, 2)) {rest : List Value} (hs : g.stack = .int (Int32.ofNat n) :: rest)
    {cap : Nat} (hcap : n ≤ cap) (hc : cells + 1 ≤ R.cells) (hl : slots + cap ≤ R.slots) :
    ∃ T' h', Stand p l e R s m args below meth c T' locs (cells + 1) (slots + cap) ∧ T'.heap = h' ∧ Ext h h' ∧ own_BA Z h' h.size n (fun _ => 0) ∧
      ∀ target, Steps p.tables e below (T'.setTop { g with pc := g.pc + 2, stack := .ref h.size :: rest }) target → Steps p.tables e below (T.setTop g) target := by
  have e1 := own_n32 (show n < 2147483648 by omega)
  obtain ⟨cA, kA, comp, h1, h2, h3, X', st⟩ := X.newarrayPrim (atype := .byte) hx (mvA hZ w) hg hd hs (own_nn (by omega)) (by rw [e1]; show n * 1 ≤ _; omega) hc (by rw [e1]; omega)
  subst eT
  have f1 : Z.vm.findClass "[B" = some cA := by rw [← hZ.alike.findClass]; exact h1
  obtain ⟨kZ, z1, -⟩ := Vm.findClass_spec f1
  obtain ⟨k', z2, z3⟩ := hZ.alike.2.2 _ _ z1
  cases h2.symm.trans z2
  refine ⟨_, _, X'.more (Nat.le_refl _) (by rw [e1]; omega), rfl, ⟨?_, fun a c q => ?_⟩, ⟨{ cls := cA, slots := Array.replicate (Int32.ofNat n).toNatClampNeg (defaultValue (newarray.typeOf .byte)), vm := .none }, ⟨?_, ⟨?_, kZ, z1, comp, ?_⟩, ?_⟩, f1, ?_, fun i hi => ?_, fun i hi => ?_⟩, st⟩
  · show T.heap.size ≤ (T.heap.push _).size; simp
  · show (T.heap.push _)[a]? = _
    rw [Array.getElem?_push_lt (Array.getElem?_eq_some_iff.mp q).1]; exact (Array.getElem?_eq_getElem _).symm.trans q
  · show (T.heap.push _)[T.heap.size]? = some _; exact Array.getElem?_push_size
  · intro q; simp
  · exact (congrArg Class.kind z3).symm.trans h3
  · simp
  · show (Array.replicate _ _).size = n; rw [Array.size_replicate, e1]
  · show (Array.replicate _ _)[i]? = _
    rw [Array.getElem?_replicate, if_pos (by rw [e1]; exact hi)]; rfl
  · rfl
/-- bastore into it -/
theorem own_stB (X : Stand p l e R s m args below meth c T locs cells slots) (hx : p.tables.exec = Jvm.exec) (hZ : Z.Warmed39 s.vm) (eT : T.heap = h) {a : Addr} {n : Nat} {f : Nat → Int32} (hn : n ≤ 255) (F : own_BA Z h a n f) {i : Nat} (hi : i < n) {z : Int32} {g : JFrame} (hg : g.method = m) {rest : List Value} (hs : g.stack = .int z :: .int (Int32.ofNat i) :: .ref a :: rest) (hd : decode c.code g.pc = .ok (.bastore, 1)) :
    ∃ T' h', Stand p l e R s m args below meth c T' (locs ++ [⟨a, i⟩]) cells slots ∧ T'.heap = h' ∧ Keep h h' [a] ∧ own_BA Z h' a n (fun j => if j = i then nar .byte z else f j) ∧
      ∀ target, Steps p.tables e below (T'.setTop { g with pc := g.pc + 1, stack := rest }) target → Steps p.tables e below (T.setTop g) target := by
  obtain ⟨cl, Ar, q1, S, H, G⟩ := F
  obtain ⟨T', h', X', e', W, st⟩ := stB X hx hZ eT Ar (j := Int32.ofNat i) (own_inb S (by omega) hi) hg hs hd
  rw [own_n32 (show i < 2147483648 by omega)] at X' W
  refine ⟨T', h', X', e', Keep.of_wr W, ⟨_, Ar.same W, q1, by rw [sz_set]; exact S, fun j hj => ?_, fun j hj => ?_⟩, st⟩
  · by_cases q : j = i
    · subst q; show (cl.setSlot j (.int (nar .byte z))).slots[j]? = some (.int (if j = j then nar .byte z else f j)); rw [if_pos rfl]; simp [Cell.setSlot, S, hi]
    · show (cl.setSlot i (.int (nar .byte z))).slots[j]? = some (.int (if j = i then nar .byte z else f j)); rw [if_neg q, ← H j hj]; simp only [Cell.setSlot]; exact Array.getElem?_setIfInBounds_ne (fun z => q z.symm)
  · show fits .byte (.int (if j = i then nar .byte z else f j)) = true
    by_cases q : j = i
    · rw [if_pos q]; exact fits_nar_byte _
    · rw [if_neg q]; exact G j hj
end OwnNew
theorem own_ext {h h' : Heap} (q : ∀ (a : Addr) (c : Cell), h[a]? = some c → h'[a]? = some c) : Ext h h' := by
  refine ⟨?_, q⟩
  by_cases r : h.size ≤ h'.size
  · exact r
  · have q1 := q h'.size _ (Array.getElem?_eq_getElem (show h'.size < h.size by omega))
    have := (Array.getElem?_eq_some_iff.mp q1).1
    omega
theorem own_andb {a b : Jvm.Cond} {args : Array Value} {s : State} (h1 : a.before args s = true) (h2 : b.before args s = true) : (Jvm.Cond.and a b).before args s = true := by rw [Cond.before_and, h1, h2]; rfl
def QP (z : Int32) (h0 : Heap) (n0 : Nat) (v : Option Value) (h : Heap) (L : List Loc) : Prop := v = some (.int z) ∧ Fr n0 L ∧ h = h0
theorem pn_l : plainName "com/example/tend/tend/protocol/Utf8TailPinLaw" = true := by first | (simp [plainName, overriddenIn]; done) | decide +kernel
theorem pn_u : plainName "com/example/tend/tend/protocol/Utf8" = true := by first | (simp [plainName, overriddenIn]; done) | decide +kernel
theorem pn_a : plainName "java/util/Arrays" = true := by first | (simp [plainName, overriddenIn]; done) | decide +kernel
theorem pd_bk : parseMethodDescriptor "(JI)B" = some ⟨[.long, .int], some .byte⟩ := by decide +kernel
theorem pd_c : parseMethodDescriptor "(B)Z" = some ⟨[.byte], some .boolean⟩ := by decide +kernel
theorem pd_make : parseMethodDescriptor "(IJ)[B" = some ⟨[.int, .long], some (.array .byte)⟩ := by decide +kernel
theorem pd_tail : parseMethodDescriptor "([BI)[B" = some ⟨[(.array .byte), .int], some (.array .byte)⟩ := by decide +kernel
theorem pd_same : parseMethodDescriptor "([B[BIII)Z" = some ⟨[(.array .byte), (.array .byte), .int, .int, .int], some .boolean⟩ := by decide +kernel
theorem pd_skip : parseMethodDescriptor "([BIIII)Z" = some ⟨[(.array .byte), .int, .int, .int, .int], some .boolean⟩ := by decide +kernel
theorem pd_cor : parseMethodDescriptor "([BII)[B" = some ⟨[(.array .byte), .int, .int], some (.array .byte)⟩ := by decide +kernel
theorem dbk_0 : decode method_6_code 0 = .ok (.lload_n 0, 1) := by decide +kernel
theorem dbk_1 : decode method_6_code 1 = .ok (.bipush 8, 2) := by decide +kernel
theorem dbk_3 : decode method_6_code 3 = .ok (.iload_n 2, 1) := by decide +kernel
theorem dbk_4 : decode method_6_code 4 = .ok (.imul, 1) := by decide +kernel
theorem dbk_5 : decode method_6_code 5 = .ok (.lushr, 1) := by decide +kernel
theorem dbk_6 : decode method_6_code 6 = .ok (.l2i, 1) := by decide +kernel
theorem dbk_7 : decode method_6_code 7 = .ok (.i2b, 1) := by decide +kernel
theorem dbk_8 : decode method_6_code 8 = .ok (.ireturn, 1) := by decide +kernel
theorem dcont_0 : decode method_3_code 0 = .ok (.iload_n 0, 1) := by decide +kernel
theorem dcont_1 : decode method_3_code 1 = .ok (.sipush 192, 3) := by decide +kernel
theorem dcont_4 : decode method_3_code 4 = .ok (.iand, 1) := by decide +kernel
theorem dcont_5 : decode method_3_code 5 = .ok (.sipush 128, 3) := by decide +kernel
theorem dcont_8 : decode method_3_code 8 = .ok (.if_icmp .ne 7, 3) := by decide +kernel
theorem dcont_11 : decode method_3_code 11 = .ok (.iconst 1, 1) := by decide +kernel
theorem dcont_12 : decode method_3_code 12 = .ok (.goto 4, 3) := by decide +kernel
theorem dcont_15 : decode method_3_code 15 = .ok (.iconst 0, 1) := by decide +kernel
theorem dcont_16 : decode method_3_code 16 = .ok (.ireturn, 1) := by decide +kernel
theorem dmake_0 : decode method_7_code 0 = .ok (.iload_n 0, 1) := by decide +kernel
theorem dmake_1 : decode method_7_code 1 = .ok (.ifCond .ne 7, 3) := by decide +kernel
theorem dmake_4 : decode method_7_code 4 = .ok (.iconst 0, 1) := by decide +kernel
theorem dmake_5 : decode method_7_code 5 = .ok (.newarray .byte, 2) := by decide +kernel
theorem dmake_7 : decode method_7_code 7 = .ok (.areturn, 1) := by decide +kernel
theorem dmake_8 : decode method_7_code 8 = .ok (.iload_n 0, 1) := by decide +kernel
theorem dmake_9 : decode method_7_code 9 = .ok (.iconst 1, 1) := by decide +kernel
theorem dmake_10 : decode method_7_code 10 = .ok (.if_icmp .ne 15, 3) := by decide +kernel
theorem dmake_13 : decode method_7_code 13 = .ok (.iconst 1, 1) := by decide +kernel
theorem dmake_14 : decode method_7_code 14 = .ok (.newarray .byte, 2) := by decide +kernel
theorem dmake_16 : decode method_7_code 16 = .ok (.dup, 1) := by decide +kernel
theorem dmake_17 : decode method_7_code 17 = .ok (.iconst 0, 1) := by decide +kernel
theorem dmake_18 : decode method_7_code 18 = .ok (.lload_n 1, 1) := by decide +kernel
theorem dmake_19 : decode method_7_code 19 = .ok (.iconst 0, 1) := by decide +kernel
theorem dmake_20 : decode method_7_code 20 = .ok (.invokestatic 32, 3) := by decide +kernel
theorem dmake_23 : decode method_7_code 23 = .ok (.bastore, 1) := by decide +kernel
theorem dmake_24 : decode method_7_code 24 = .ok (.areturn, 1) := by decide +kernel
theorem dmake_25 : decode method_7_code 25 = .ok (.iload_n 0, 1) := by decide +kernel
theorem dmake_26 : decode method_7_code 26 = .ok (.iconst 2, 1) := by decide +kernel
theorem dmake_27 : decode method_7_code 27 = .ok (.if_icmp .ne 23, 3) := by decide +kernel
theorem dmake_30 : decode method_7_code 30 = .ok (.iconst 2, 1) := by decide +kernel
theorem dmake_31 : decode method_7_code 31 = .ok (.newarray .byte, 2) := by decide +kernel
theorem dmake_33 : decode method_7_code 33 = .ok (.dup, 1) := by decide +kernel
theorem dmake_34 : decode method_7_code 34 = .ok (.iconst 0, 1) := by decide +kernel
theorem dmake_35 : decode method_7_code 35 = .ok (.lload_n 1, 1) := by decide +kernel
theorem dmake_36 : decode method_7_code 36 = .ok (.iconst 0, 1) := by decide +kernel
theorem dmake_37 : decode method_7_code 37 = .ok (.invokestatic 32, 3) := by decide +kernel
theorem dmake_40 : decode method_7_code 40 = .ok (.bastore, 1) := by decide +kernel
theorem dmake_41 : decode method_7_code 41 = .ok (.dup, 1) := by decide +kernel
theorem dmake_42 : decode method_7_code 42 = .ok (.iconst 1, 1) := by decide +kernel
theorem dmake_43 : decode method_7_code 43 = .ok (.lload_n 1, 1) := by decide +kernel
theorem dmake_44 : decode method_7_code 44 = .ok (.iconst 1, 1) := by decide +kernel
theorem dmake_45 : decode method_7_code 45 = .ok (.invokestatic 32, 3) := by decide +kernel
theorem dmake_48 : decode method_7_code 48 = .ok (.bastore, 1) := by decide +kernel
theorem dmake_49 : decode method_7_code 49 = .ok (.areturn, 1) := by decide +kernel
theorem dmake_50 : decode method_7_code 50 = .ok (.iload_n 0, 1) := by decide +kernel
theorem dmake_51 : decode method_7_code 51 = .ok (.iconst 3, 1) := by decide +kernel
theorem dmake_52 : decode method_7_code 52 = .ok (.if_icmp .ne 31, 3) := by decide +kernel
theorem dmake_55 : decode method_7_code 55 = .ok (.iconst 3, 1) := by decide +kernel
theorem dmake_56 : decode method_7_code 56 = .ok (.newarray .byte, 2) := by decide +kernel
theorem dmake_58 : decode method_7_code 58 = .ok (.dup, 1) := by decide +kernel
theorem dmake_59 : decode method_7_code 59 = .ok (.iconst 0, 1) := by decide +kernel
theorem dmake_60 : decode method_7_code 60 = .ok (.lload_n 1, 1) := by decide +kernel
theorem dmake_61 : decode method_7_code 61 = .ok (.iconst 0, 1) := by decide +kernel
theorem dmake_62 : decode method_7_code 62 = .ok (.invokestatic 32, 3) := by decide +kernel
theorem dmake_65 : decode method_7_code 65 = .ok (.bastore, 1) := by decide +kernel
theorem dmake_66 : decode method_7_code 66 = .ok (.dup, 1) := by decide +kernel
theorem dmake_67 : decode method_7_code 67 = .ok (.iconst 1, 1) := by decide +kernel
theorem dmake_68 : decode method_7_code 68 = .ok (.lload_n 1, 1) := by decide +kernel
theorem dmake_69 : decode method_7_code 69 = .ok (.iconst 1, 1) := by decide +kernel
theorem dmake_70 : decode method_7_code 70 = .ok (.invokestatic 32, 3) := by decide +kernel
theorem dmake_73 : decode method_7_code 73 = .ok (.bastore, 1) := by decide +kernel
theorem dmake_74 : decode method_7_code 74 = .ok (.dup, 1) := by decide +kernel
theorem dmake_75 : decode method_7_code 75 = .ok (.iconst 2, 1) := by decide +kernel
theorem dmake_76 : decode method_7_code 76 = .ok (.lload_n 1, 1) := by decide +kernel
theorem dmake_77 : decode method_7_code 77 = .ok (.iconst 2, 1) := by decide +kernel
theorem dmake_78 : decode method_7_code 78 = .ok (.invokestatic 32, 3) := by decide +kernel
theorem dmake_81 : decode method_7_code 81 = .ok (.bastore, 1) := by decide +kernel
theorem dmake_82 : decode method_7_code 82 = .ok (.areturn, 1) := by decide +kernel
theorem dmake_83 : decode method_7_code 83 = .ok (.iload_n 0, 1) := by decide +kernel
theorem dmake_84 : decode method_7_code 84 = .ok (.iconst 4, 1) := by decide +kernel
theorem dmake_85 : decode method_7_code 85 = .ok (.if_icmp .ne 39, 3) := by decide +kernel
theorem dmake_88 : decode method_7_code 88 = .ok (.iconst 4, 1) := by decide +kernel
theorem dmake_89 : decode method_7_code 89 = .ok (.newarray .byte, 2) := by decide +kernel
theorem dmake_91 : decode method_7_code 91 = .ok (.dup, 1) := by decide +kernel
theorem dmake_92 : decode method_7_code 92 = .ok (.iconst 0, 1) := by decide +kernel
theorem dmake_93 : decode method_7_code 93 = .ok (.lload_n 1, 1) := by decide +kernel
theorem dmake_94 : decode method_7_code 94 = .ok (.iconst 0, 1) := by decide +kernel
theorem dmake_95 : decode method_7_code 95 = .ok (.invokestatic 32, 3) := by decide +kernel
theorem dmake_98 : decode method_7_code 98 = .ok (.bastore, 1) := by decide +kernel
theorem dmake_99 : decode method_7_code 99 = .ok (.dup, 1) := by decide +kernel
theorem dmake_100 : decode method_7_code 100 = .ok (.iconst 1, 1) := by decide +kernel
theorem dmake_101 : decode method_7_code 101 = .ok (.lload_n 1, 1) := by decide +kernel
theorem dmake_102 : decode method_7_code 102 = .ok (.iconst 1, 1) := by decide +kernel
theorem dmake_103 : decode method_7_code 103 = .ok (.invokestatic 32, 3) := by decide +kernel
theorem dmake_106 : decode method_7_code 106 = .ok (.bastore, 1) := by decide +kernel
theorem dmake_107 : decode method_7_code 107 = .ok (.dup, 1) := by decide +kernel
theorem dmake_108 : decode method_7_code 108 = .ok (.iconst 2, 1) := by decide +kernel
theorem dmake_109 : decode method_7_code 109 = .ok (.lload_n 1, 1) := by decide +kernel
theorem dmake_110 : decode method_7_code 110 = .ok (.iconst 2, 1) := by decide +kernel
theorem dmake_111 : decode method_7_code 111 = .ok (.invokestatic 32, 3) := by decide +kernel
theorem dmake_114 : decode method_7_code 114 = .ok (.bastore, 1) := by decide +kernel
theorem dmake_115 : decode method_7_code 115 = .ok (.dup, 1) := by decide +kernel
theorem dmake_116 : decode method_7_code 116 = .ok (.iconst 3, 1) := by decide +kernel
theorem dmake_117 : decode method_7_code 117 = .ok (.lload_n 1, 1) := by decide +kernel
theorem dmake_118 : decode method_7_code 118 = .ok (.iconst 3, 1) := by decide +kernel
theorem dmake_119 : decode method_7_code 119 = .ok (.invokestatic 32, 3) := by decide +kernel
theorem dmake_122 : decode method_7_code 122 = .ok (.bastore, 1) := by decide +kernel
theorem dmake_123 : decode method_7_code 123 = .ok (.areturn, 1) := by decide +kernel
theorem dmake_124 : decode method_7_code 124 = .ok (.iconst 5, 1) := by decide +kernel
theorem dmake_125 : decode method_7_code 125 = .ok (.newarray .byte, 2) := by decide +kernel
theorem dmake_127 : decode method_7_code 127 = .ok (.dup, 1) := by decide +kernel
theorem dmake_128 : decode method_7_code 128 = .ok (.iconst 0, 1) := by decide +kernel
theorem dmake_129 : decode method_7_code 129 = .ok (.lload_n 1, 1) := by decide +kernel
theorem dmake_130 : decode method_7_code 130 = .ok (.iconst 0, 1) := by decide +kernel
theorem dmake_131 : decode method_7_code 131 = .ok (.invokestatic 32, 3) := by decide +kernel
theorem dmake_134 : decode method_7_code 134 = .ok (.bastore, 1) := by decide +kernel
theorem dmake_135 : decode method_7_code 135 = .ok (.dup, 1) := by decide +kernel
theorem dmake_136 : decode method_7_code 136 = .ok (.iconst 1, 1) := by decide +kernel
theorem dmake_137 : decode method_7_code 137 = .ok (.lload_n 1, 1) := by decide +kernel
theorem dmake_138 : decode method_7_code 138 = .ok (.iconst 1, 1) := by decide +kernel
theorem dmake_139 : decode method_7_code 139 = .ok (.invokestatic 32, 3) := by decide +kernel
theorem dmake_142 : decode method_7_code 142 = .ok (.bastore, 1) := by decide +kernel
theorem dmake_143 : decode method_7_code 143 = .ok (.dup, 1) := by decide +kernel
theorem dmake_144 : decode method_7_code 144 = .ok (.iconst 2, 1) := by decide +kernel
theorem dmake_145 : decode method_7_code 145 = .ok (.lload_n 1, 1) := by decide +kernel
theorem dmake_146 : decode method_7_code 146 = .ok (.iconst 2, 1) := by decide +kernel
theorem dmake_147 : decode method_7_code 147 = .ok (.invokestatic 32, 3) := by decide +kernel
theorem dmake_150 : decode method_7_code 150 = .ok (.bastore, 1) := by decide +kernel
theorem dmake_151 : decode method_7_code 151 = .ok (.dup, 1) := by decide +kernel
theorem dmake_152 : decode method_7_code 152 = .ok (.iconst 3, 1) := by decide +kernel
theorem dmake_153 : decode method_7_code 153 = .ok (.lload_n 1, 1) := by decide +kernel
theorem dmake_154 : decode method_7_code 154 = .ok (.iconst 3, 1) := by decide +kernel
theorem dmake_155 : decode method_7_code 155 = .ok (.invokestatic 32, 3) := by decide +kernel
theorem dmake_158 : decode method_7_code 158 = .ok (.bastore, 1) := by decide +kernel
theorem dmake_159 : decode method_7_code 159 = .ok (.dup, 1) := by decide +kernel
theorem dmake_160 : decode method_7_code 160 = .ok (.iconst 4, 1) := by decide +kernel
theorem dmake_161 : decode method_7_code 161 = .ok (.lload_n 1, 1) := by decide +kernel
theorem dmake_162 : decode method_7_code 162 = .ok (.iconst 4, 1) := by decide +kernel
theorem dmake_163 : decode method_7_code 163 = .ok (.invokestatic 32, 3) := by decide +kernel
theorem dmake_166 : decode method_7_code 166 = .ok (.bastore, 1) := by decide +kernel
theorem dmake_167 : decode method_7_code 167 = .ok (.areturn, 1) := by decide +kernel
theorem dsame_0 : decode method_4_code 0 = .ok (.iload 4, 2) := by decide +kernel
theorem dsame_2 : decode method_4_code 2 = .ok (.iload_n 3, 1) := by decide +kernel
theorem dsame_3 : decode method_4_code 3 = .ok (.if_icmp .lt 5, 3) := by decide +kernel
theorem dsame_6 : decode method_4_code 6 = .ok (.iconst 1, 1) := by decide +kernel
theorem dsame_7 : decode method_4_code 7 = .ok (.ireturn, 1) := by decide +kernel
theorem dsame_8 : decode method_4_code 8 = .ok (.aload_n 0, 1) := by decide +kernel
theorem dsame_9 : decode method_4_code 9 = .ok (.iload 4, 2) := by decide +kernel
theorem dsame_11 : decode method_4_code 11 = .ok (.baload, 1) := by decide +kernel
theorem dsame_12 : decode method_4_code 12 = .ok (.aload_n 1, 1) := by decide +kernel
theorem dsame_13 : decode method_4_code 13 = .ok (.iload_n 2, 1) := by decide +kernel
theorem dsame_14 : decode method_4_code 14 = .ok (.iload_n 3, 1) := by decide +kernel
theorem dsame_15 : decode method_4_code 15 = .ok (.isub, 1) := by decide +kernel
theorem dsame_16 : decode method_4_code 16 = .ok (.iload 4, 2) := by decide +kernel
theorem dsame_18 : decode method_4_code 18 = .ok (.iadd, 1) := by decide +kernel
theorem dsame_19 : decode method_4_code 19 = .ok (.baload, 1) := by decide +kernel
theorem dsame_20 : decode method_4_code 20 = .ok (.if_icmp .ne 7, 3) := by decide +kernel
theorem dsame_23 : decode method_4_code 23 = .ok (.iconst 1, 1) := by decide +kernel
theorem dsame_24 : decode method_4_code 24 = .ok (.goto 4, 3) := by decide +kernel
theorem dsame_27 : decode method_4_code 27 = .ok (.iconst 0, 1) := by decide +kernel
theorem dsame_28 : decode method_4_code 28 = .ok (.ireturn, 1) := by decide +kernel
theorem dskip_0 : decode method_5_code 0 = .ok (.iload 4, 2) := by decide +kernel
theorem dskip_2 : decode method_5_code 2 = .ok (.iload_n 1, 1) := by decide +kernel
theorem dskip_3 : decode method_5_code 3 = .ok (.iload_n 2, 1) := by decide +kernel
theorem dskip_4 : decode method_5_code 4 = .ok (.isub, 1) := by decide +kernel
theorem dskip_5 : decode method_5_code 5 = .ok (.if_icmp .lt 11, 3) := by decide +kernel
theorem dskip_8 : decode method_5_code 8 = .ok (.iload 4, 2) := by decide +kernel
theorem dskip_10 : decode method_5_code 10 = .ok (.iload_n 1, 1) := by decide +kernel
theorem dskip_11 : decode method_5_code 11 = .ok (.iload_n 3, 1) := by decide +kernel
theorem dskip_12 : decode method_5_code 12 = .ok (.isub, 1) := by decide +kernel
theorem dskip_13 : decode method_5_code 13 = .ok (.if_icmp .lt 5, 3) := by decide +kernel
theorem dskip_16 : decode method_5_code 16 = .ok (.iconst 1, 1) := by decide +kernel
theorem dskip_17 : decode method_5_code 17 = .ok (.ireturn, 1) := by decide +kernel
theorem dskip_18 : decode method_5_code 18 = .ok (.aload_n 0, 1) := by decide +kernel
theorem dskip_19 : decode method_5_code 19 = .ok (.iload 4, 2) := by decide +kernel
theorem dskip_21 : decode method_5_code 21 = .ok (.baload, 1) := by decide +kernel
theorem dskip_22 : decode method_5_code 22 = .ok (.invokestatic 24, 3) := by decide +kernel
theorem dskip_25 : decode method_5_code 25 = .ok (.ireturn, 1) := by decide +kernel
theorem dtail_0 : decode prog_29_method_4_code 0 = .ok (.aload_n 0, 1) := by decide +kernel
theorem dtail_1 : decode prog_29_method_4_code 1 = .ok (.arraylength, 1) := by decide +kernel
theorem dtail_2 : decode prog_29_method_4_code 2 = .ok (.iload_n 1, 1) := by decide +kernel
theorem dtail_3 : decode prog_29_method_4_code 3 = .ok (.if_icmp .gt 5, 3) := by decide +kernel
theorem dtail_6 : decode prog_29_method_4_code 6 = .ok (.aload_n 0, 1) := by decide +kernel
theorem dtail_7 : decode prog_29_method_4_code 7 = .ok (.areturn, 1) := by decide +kernel
theorem dtail_8 : decode prog_29_method_4_code 8 = .ok (.aload_n 0, 1) := by decide +kernel
theorem dtail_9 : decode prog_29_method_4_code 9 = .ok (.arraylength, 1) := by decide +kernel
theorem dtail_10 : decode prog_29_method_4_code 10 = .ok (.iload_n 1, 1) := by decide +kernel
theorem dtail_11 : decode prog_29_method_4_code 11 = .ok (.isub, 1) := by decide +kernel
theorem dtail_12 : decode prog_29_method_4_code 12 = .ok (.istore_n 2, 1) := by decide +kernel
theorem dtail_13 : decode prog_29_method_4_code 13 = .ok (.iload_n 2, 1) := by decide +kernel
theorem dtail_14 : decode prog_29_method_4_code 14 = .ok (.aload_n 0, 1) := by decide +kernel
theorem dtail_15 : decode prog_29_method_4_code 15 = .ok (.arraylength, 1) := by decide +kernel
theorem dtail_16 : decode prog_29_method_4_code 16 = .ok (.if_icmp .ge 18, 3) := by decide +kernel
theorem dtail_19 : decode prog_29_method_4_code 19 = .ok (.aload_n 0, 1) := by decide +kernel
theorem dtail_20 : decode prog_29_method_4_code 20 = .ok (.iload_n 2, 1) := by decide +kernel
theorem dtail_21 : decode prog_29_method_4_code 21 = .ok (.baload, 1) := by decide +kernel
theorem dtail_22 : decode prog_29_method_4_code 22 = .ok (.invokestatic 29, 3) := by decide +kernel
theorem dtail_25 : decode prog_29_method_4_code 25 = .ok (.ifCond .eq 9, 3) := by decide +kernel
theorem dtail_28 : decode prog_29_method_4_code 28 = .ok (.iinc 2 1, 3) := by decide +kernel
theorem dtail_31 : decode prog_29_method_4_code 31 = .ok (.goto (-18), 3) := by decide +kernel
theorem dtail_34 : decode prog_29_method_4_code 34 = .ok (.aload_n 0, 1) := by decide +kernel
theorem dtail_35 : decode prog_29_method_4_code 35 = .ok (.iload_n 2, 1) := by decide +kernel
theorem dtail_36 : decode prog_29_method_4_code 36 = .ok (.aload_n 0, 1) := by decide +kernel
theorem dtail_37 : decode prog_29_method_4_code 37 = .ok (.arraylength, 1) := by decide +kernel
theorem dtail_38 : decode prog_29_method_4_code 38 = .ok (.invokestatic 41, 3) := by decide +kernel
theorem dtail_41 : decode prog_29_method_4_code 41 = .ok (.areturn, 1) := by decide +kernel
theorem dconts_0 : decode prog_29_method_5_code 0 = .ok (.iload_n 0, 1) := by decide +kernel
theorem dconts_1 : decode prog_29_method_5_code 1 = .ok (.sipush 192, 3) := by decide +kernel
theorem dconts_4 : decode prog_29_method_5_code 4 = .ok (.iand, 1) := by decide +kernel
theorem dconts_5 : decode prog_29_method_5_code 5 = .ok (.sipush 128, 3) := by decide +kernel
theorem dconts_8 : decode prog_29_method_5_code 8 = .ok (.if_icmp .ne 7, 3) := by decide +kernel
theorem dconts_11 : decode prog_29_method_5_code 11 = .ok (.iconst 1, 1) := by decide +kernel
theorem dconts_12 : decode prog_29_method_5_code 12 = .ok (.goto 4, 3) := by decide +kernel
theorem dconts_15 : decode prog_29_method_5_code 15 = .ok (.iconst 0, 1) := by decide +kernel
theorem dconts_16 : decode prog_29_method_5_code 16 = .ok (.ireturn, 1) := by decide +kernel
theorem dcor_0 : decode jdk_65_method_132_code 0 = .ok (.iload_n 1, 1) := by decide +kernel
theorem dcor_1 : decode jdk_65_method_132_code 1 = .ok (.ifCond .ne 9, 3) := by decide +kernel
theorem dcor_10 : decode jdk_65_method_132_code 10 = .ok (.aload_n 0, 1) := by decide +kernel
theorem dcor_11 : decode jdk_65_method_132_code 11 = .ok (.iload_n 1, 1) := by decide +kernel
theorem dcor_12 : decode jdk_65_method_132_code 12 = .ok (.iload_n 2, 1) := by decide +kernel
theorem dcor_13 : decode jdk_65_method_132_code 13 = .ok (.invokestatic 339, 3) := by decide +kernel
theorem dcor_16 : decode jdk_65_method_132_code 16 = .ok (.areturn, 1) := by decide +kernel
def own_bv (b : Int64) (k : Int32) : Int32 := nar .byte ((((b.toUInt64 >>> (((8 : Int32) * k) &&& 0x3f).toInt64.toUInt64).toInt64).toInt32).toInt8.toInt32)
theorem ef_rmBk (m : MethodId) (x0 : Int64) (x1 : Int32) : entryFrame m #[(.long x0), (.int x1)] 3 = (mkF m 0 #[.val (.long x0), .second, .val (.int x1)] []) := by first | (simp [entryFrame, mkF, argsToLocals, Value.category]; done) | rfl
set_option maxRecDepth 65536 in
set_option maxHeartbeats 40000000 in
theorem rmBk (l : Launch) (Z : State) (a0 : Array Value) (hw : ∀ d ∈ tables_1, d.before a0 Z = true) (ws : List Jvm.Cond) (b : Int64) (k : Int32) (h0 : Heap) (n0 : Nat) (Z0 : n0 ≤ h0.size) :
    MetFree l (⟨"com/example/tend/tend/protocol/Utf8TailPinLaw", "bk", "(JI)B"⟩ : MethodName) (head1 (Jvm.Cond.code (⟨"com/example/tend/tend/protocol/Utf8TailPinLaw", "bk", "(JI)B"⟩ : MethodName) method_6_code 3 (some .byte) :: ws) ({ frames := 0, cells := 0, slots := 0, locals := 0 } : Room)) (fun a U => a = #[(.long b), (.int k)] ∧ Z.Warmed39 U.vm ∧ U.heap = h0) (fun _ _ _ _ _ => True) (fun _ U o U' => ∃ v L, o = .returned v ∧ QP (own_bv b k) h0 n0 v U'.heap L ∧ FrameEnd U o U' L ({ frames := 0, cells := 0, slots := 0, locals := 0 } : Room).cells ({ frames := 0, cells := 0, slots := 0, locals := 0 } : Room).slots) := by
  refine MetFree.of_bodySF (plainFor_of_name pn_l) hisR ?_
  intro p e s m args below meth c s₁ Bd hml0 hP hK
  obtain ⟨rfl, hZ, hh⟩ := hP
  have hx := Bd.exec
  have hby := Bd.bytes
  have hml : c.maxLocals = 3 := hml0
  have hown : s.vm.findClass "com/example/tend/tend/protocol/Utf8TailPinLaw" = some m.cls := findClass_of_methodNamed Bd.named
  have X0 : Stand p l e ({ frames := 0, cells := 0, slots := 0, locals := 0 } : Room) s m #[(.long b), (.int k)] below meth c s₁ [] 0 0 := Stand.of_body Bd
  have e0 : s₁.heap = h0 := by rw [← hh, Bd.state]; rfl
  have N0 := Fr.nil n0
  have pre0 : ∀ t, Steps p.tables e below (s₁.setTop (mkF m 0 #[.val (.long b), .second, .val (.int k)] [])) t → Steps p.tables e below (s₁.setTop (entryFrame m #[(.long b), (.int k)] 3)) t := fun t kq => castTop (ef_rmBk m b k) kq
  obtain ⟨fs, hr, hrun, hended, hW, hsame⟩ := X0.leave (v := some (.int (own_bv b k))) (fun h => by rw [Bd.returns] at h; cases h)
  refine ⟨_, _, pre0 _ ?_, hrun, hended, _, _, rfl, ⟨rfl, N0, e0⟩, ⟨_, rfl⟩, hW, hsame.mono (by decide) (by decide)⟩
  show Steps p.tables e below (s₁.setTop (mkF m 0 #[.val (.long b), .second, .val (.int k)] [])) _
  refine XS.lloadN X0.here hx rfl (hb hby dbk_0) rfl ?_
  show Steps p.tables e below (s₁.setTop (mkF m 1 #[.val (.long b), .second, .val (.int k)] [(.long b)])) _
  refine XS.bipush X0.here hx rfl (hb hby dbk_1) ?_
  show Steps p.tables e below (s₁.setTop (mkF m 3 #[.val (.long b), .second, .val (.int k)] [(.int (8 : Int32)), (.long b)])) _
  refine XS.iloadN X0.here hx rfl (hb hby dbk_3) rfl ?_
  show Steps p.tables e below (s₁.setTop (mkF m 4 #[.val (.long b), .second, .val (.int k)] [(.int k), (.int (8 : Int32)), (.long b)])) _
  refine XS.imul X0.here hx rfl (hb hby dbk_4) rfl ?_
  show Steps p.tables e below (s₁.setTop (mkF m 5 #[.val (.long b), .second, .val (.int k)] [(.int ((8 : Int32) * k)), (.long b)])) _
  refine XS.lushr X0.here hx rfl (hb hby dbk_5) rfl ?_
  show Steps p.tables e below (s₁.setTop (mkF m 6 #[.val (.long b), .second, .val (.int k)] [(.long ((b.toUInt64 >>> (((8 : Int32) * k) &&& 0x3f).toInt64.toUInt64).toInt64))])) _
  refine XS.l2i X0.here hx rfl (hb hby dbk_6) rfl ?_
  show Steps p.tables e below (s₁.setTop (mkF m 7 #[.val (.long b), .second, .val (.int k)] [(.int (((b.toUInt64 >>> (((8 : Int32) * k) &&& 0x3f).toInt64.toUInt64).toInt64).toInt32))])) _
  refine XS.i2b X0.here hx rfl (hb hby dbk_7) rfl ?_
  exact retN X0 hx (t := .byte) Bd.returns (by simp) (hb hby dbk_8) hr
theorem ef_rmCont (m : MethodId) (x0 : Int32) : entryFrame m #[(.int x0)] 1 = (mkF m 0 #[.val (.int x0)] []) := by first | (simp [entryFrame, mkF, argsToLocals, Value.category]; done) | rfl
set_option maxRecDepth 65536 in
set_option maxHeartbeats 40000000 in
theorem rmCont (l : Launch) (Z : State) (a0 : Array Value) (hw : ∀ d ∈ tables_1, d.before a0 Z = true) (ws : List Jvm.Cond) (b : Int32) (h0 : Heap) (n0 : Nat) (Z0 : n0 ≤ h0.size) :
    MetFree l (⟨"com/example/tend/tend/protocol/Utf8TailPinLaw", "cont", "(B)Z"⟩ : MethodName) (head1 (Jvm.Cond.code (⟨"com/example/tend/tend/protocol/Utf8TailPinLaw", "cont", "(B)Z"⟩ : MethodName) method_3_code 1 (some .boolean) :: ws) ({ frames := 0, cells := 0, slots := 0, locals := 0 } : Room)) (fun a U => a = #[(.int b)] ∧ Z.Warmed39 U.vm ∧ U.heap = h0) (fun _ _ _ _ _ => True) (fun _ U o U' => ∃ v L, o = .returned v ∧ QP (own_z (own_c b)) h0 n0 v U'.heap L ∧ FrameEnd U o U' L ({ frames := 0, cells := 0, slots := 0, locals := 0 } : Room).cells ({ frames := 0, cells := 0, slots := 0, locals := 0 } : Room).slots) := by
  refine MetFree.of_bodySF (plainFor_of_name pn_l) hisR ?_
  intro p e s m args below meth c s₁ Bd hml0 hP hK
  obtain ⟨rfl, hZ, hh⟩ := hP
  have hx := Bd.exec
  have hby := Bd.bytes
  have hml : c.maxLocals = 1 := hml0
  have hown : s.vm.findClass "com/example/tend/tend/protocol/Utf8TailPinLaw" = some m.cls := findClass_of_methodNamed Bd.named
  have X0 : Stand p l e ({ frames := 0, cells := 0, slots := 0, locals := 0 } : Room) s m #[(.int b)] below meth c s₁ [] 0 0 := Stand.of_body Bd
  have e0 : s₁.heap = h0 := by rw [← hh, Bd.state]; rfl
  have N0 := Fr.nil n0
  have pre0 : ∀ t, Steps p.tables e below (s₁.setTop (mkF m 0 #[.val (.int b)] [])) t → Steps p.tables e below (s₁.setTop (entryFrame m #[(.int b)] 1)) t := fun t kq => castTop (ef_rmCont m b) kq
  obtain ⟨fs, hr, hrun, hended, hW, hsame⟩ := X0.leave (v := some (.int (own_z (own_c b)))) (fun h => by rw [Bd.returns] at h; cases h)
  refine ⟨_, _, pre0 _ ?_, hrun, hended, _, _, rfl, ⟨rfl, N0, e0⟩, ⟨_, rfl⟩, hW, hsame.mono (by decide) (by decide)⟩
  show Steps p.tables e below (s₁.setTop (mkF m 0 #[.val (.int b)] [])) _
  refine XS.iloadN X0.here hx rfl (hb hby dcont_0) rfl ?_
  show Steps p.tables e below (s₁.setTop (mkF m 1 #[.val (.int b)] [(.int b)])) _
  refine XS.sipush X0.here hx rfl (hb hby dcont_1) ?_
  show Steps p.tables e below (s₁.setTop (mkF m 4 #[.val (.int b)] [(.int (192 : Int32)), (.int b)])) _
  refine XS.iand X0.here hx rfl (hb hby dcont_4) rfl ?_
  show Steps p.tables e below (s₁.setTop (mkF m 5 #[.val (.int b)] [(.int (b &&& (192 : Int32)))])) _
  refine XS.sipush X0.here hx rfl (hb hby dcont_5) ?_
  show Steps p.tables e below (s₁.setTop (mkF m 8 #[.val (.int b)] [(.int (128 : Int32)), (.int (b &&& (192 : Int32)))])) _
  by_cases hc8 : (b &&& (192 : Int32)) = (128 : Int32)
  · refine XS.icmpNo X0.here hx rfl (hb hby dcont_8) rfl (teq hc8).2 ?_
    show Steps p.tables e below (s₁.setTop (mkF m 11 #[.val (.int b)] [])) _
    refine XS.iconst X0.here hx rfl (hb hby dcont_11) ?_
    show Steps p.tables e below (s₁.setTop (mkF m 12 #[.val (.int b)] [(.int (1 : Int32))])) _
    refine XS.goto X0.here hx rfl (pc0 := 12) (pc' := 16) rfl (hb hby dcont_12) (by decide) (by decide) ?_
    rw [show own_z (own_c b) = (1 : Int32) from by simp [own_z, own_c, hc8]] at hr
    exact retN X0 hx (t := .boolean) Bd.returns (by simp) (hb hby dcont_16) hr
  · refine XS.icmpYes X0.here hx rfl (pc0 := 8) (pc' := 15) rfl (hb hby dcont_8) rfl (feq hc8).2 (by decide) (by decide) ?_
    show Steps p.tables e below (s₁.setTop (mkF m 15 #[.val (.int b)] [])) _
    refine XS.iconst X0.here hx rfl (hb hby dcont_15) ?_
    rw [show own_z (own_c b) = (0 : Int32) from by simp [own_z, own_c, hc8]] at hr
    exact retN X0 hx (t := .boolean) Bd.returns (by simp) (hb hby dcont_16) hr
theorem ef_rmConts (m : MethodId) (x0 : Int32) : entryFrame m #[(.int x0)] 1 = (mkF m 0 #[.val (.int x0)] []) := by first | (simp [entryFrame, mkF, argsToLocals, Value.category]; done) | rfl
set_option maxRecDepth 65536 in
set_option maxHeartbeats 40000000 in
theorem rmConts (l : Launch) (Z : State) (a0 : Array Value) (hw : ∀ d ∈ tables_1, d.before a0 Z = true) (ws : List Jvm.Cond) (b : Int32) (h0 : Heap) (n0 : Nat) (Z0 : n0 ≤ h0.size) :
    MetFree l (⟨"com/example/tend/tend/protocol/Utf8", "continues", "(B)Z"⟩ : MethodName) (head1 (Jvm.Cond.code (⟨"com/example/tend/tend/protocol/Utf8", "continues", "(B)Z"⟩ : MethodName) prog_29_method_5_code 1 (some .boolean) :: ws) ({ frames := 0, cells := 0, slots := 0, locals := 0 } : Room)) (fun a U => a = #[(.int b)] ∧ Z.Warmed39 U.vm ∧ U.heap = h0) (fun _ _ _ _ _ => True) (fun _ U o U' => ∃ v L, o = .returned v ∧ QP (own_z (own_c b)) h0 n0 v U'.heap L ∧ FrameEnd U o U' L ({ frames := 0, cells := 0, slots := 0, locals := 0 } : Room).cells ({ frames := 0, cells := 0, slots := 0, locals := 0 } : Room).slots) := by
  refine MetFree.of_bodySF (plainFor_of_name pn_u) hisR ?_
  intro p e s m args below meth c s₁ Bd hml0 hP hK
  obtain ⟨rfl, hZ, hh⟩ := hP
  have hx := Bd.exec
  have hby := Bd.bytes
  have hml : c.maxLocals = 1 := hml0
  have hown : s.vm.findClass "com/example/tend/tend/protocol/Utf8" = some m.cls := findClass_of_methodNamed Bd.named
  have X0 : Stand p l e ({ frames := 0, cells := 0, slots := 0, locals := 0 } : Room) s m #[(.int b)] below meth c s₁ [] 0 0 := Stand.of_body Bd
  have e0 : s₁.heap = h0 := by rw [← hh, Bd.state]; rfl
  have N0 := Fr.nil n0
  have pre0 : ∀ t, Steps p.tables e below (s₁.setTop (mkF m 0 #[.val (.int b)] [])) t → Steps p.tables e below (s₁.setTop (entryFrame m #[(.int b)] 1)) t := fun t kq => castTop (ef_rmConts m b) kq
  obtain ⟨fs, hr, hrun, hended, hW, hsame⟩ := X0.leave (v := some (.int (own_z (own_c b)))) (fun h => by rw [Bd.returns] at h; cases h)
  refine ⟨_, _, pre0 _ ?_, hrun, hended, _, _, rfl, ⟨rfl, N0, e0⟩, ⟨_, rfl⟩, hW, hsame.mono (by decide) (by decide)⟩
  show Steps p.tables e below (s₁.setTop (mkF m 0 #[.val (.int b)] [])) _
  refine XS.iloadN X0.here hx rfl (hb hby dconts_0) rfl ?_
  show Steps p.tables e below (s₁.setTop (mkF m 1 #[.val (.int b)] [(.int b)])) _
  refine XS.sipush X0.here hx rfl (hb hby dconts_1) ?_
  show Steps p.tables e below (s₁.setTop (mkF m 4 #[.val (.int b)] [(.int (192 : Int32)), (.int b)])) _
  refine XS.iand X0.here hx rfl (hb hby dconts_4) rfl ?_
  show Steps p.tables e below (s₁.setTop (mkF m 5 #[.val (.int b)] [(.int (b &&& (192 : Int32)))])) _
  refine XS.sipush X0.here hx rfl (hb hby dconts_5) ?_
  show Steps p.tables e below (s₁.setTop (mkF m 8 #[.val (.int b)] [(.int (128 : Int32)), (.int (b &&& (192 : Int32)))])) _
  by_cases hc8 : (b &&& (192 : Int32)) = (128 : Int32)
  · refine XS.icmpNo X0.here hx rfl (hb hby dconts_8) rfl (teq hc8).2 ?_
    show Steps p.tables e below (s₁.setTop (mkF m 11 #[.val (.int b)] [])) _
    refine XS.iconst X0.here hx rfl (hb hby dconts_11) ?_
    show Steps p.tables e below (s₁.setTop (mkF m 12 #[.val (.int b)] [(.int (1 : Int32))])) _
    refine XS.goto X0.here hx rfl (pc0 := 12) (pc' := 16) rfl (hb hby dconts_12) (by decide) (by decide) ?_
    rw [show own_z (own_c b) = (1 : Int32) from by simp [own_z, own_c, hc8]] at hr
    exact retN X0 hx (t := .boolean) Bd.returns (by simp) (hb hby dconts_16) hr
  · refine XS.icmpYes X0.here hx rfl (pc0 := 8) (pc' := 15) rfl (hb hby dconts_8) rfl (feq hc8).2 (by decide) (by decide) ?_
    show Steps p.tables e below (s₁.setTop (mkF m 15 #[.val (.int b)] [])) _
    refine XS.iconst X0.here hx rfl (hb hby dconts_15) ?_
    rw [show own_z (own_c b) = (0 : Int32) from by simp [own_z, own_c, hc8]] at hr
    exact retN X0 hx (t := .boolean) Bd.returns (by simp) (hb hby dconts_16) hr
def QM (Z : State) (b : Int64) (n : Nat) (h0 : Heap) (n0 : Nat) (v : Option Value) (h : Heap) (L : List Loc) : Prop := ∃ r, v = some (.ref r) ∧ Fr n0 L ∧ n0 ≤ r ∧ Keep h0 h [] ∧ own_BA Z h r n (fun i => own_bv b (Int32.ofNat i))
theorem ef_rmMake0 (m : MethodId) (x0 : Int32) (x1 : Int64) : entryFrame m #[(.int x0), (.long x1)] 3 = (mkF m 0 #[.val (.int x0), .val (.long x1), .second] []) := by first | (simp [entryFrame, mkF, argsToLocals, Value.category]; done) | rfl
set_option maxRecDepth 65536 in
set_option maxHeartbeats 40000000 in
theorem rmMake0 (l : Launch) (Z : State) (a0 : Array Value) (hw : ∀ d ∈ tables_1, d.before a0 Z = true) (ws : List Jvm.Cond) (b : Int64) (h0 : Heap) (n0 : Nat) (Z0 : n0 ≤ h0.size) :
    MetFree l (⟨"com/example/tend/tend/protocol/Utf8TailPinLaw", "make", "(IJ)[B"⟩ : MethodName) (head1 (Jvm.Cond.code (⟨"com/example/tend/tend/protocol/Utf8TailPinLaw", "make", "(IJ)[B"⟩ : MethodName) method_7_code 3 (some (.array .byte)) :: ws) ({ frames := 1, cells := 1, slots := 5, locals := 17 } : Room)) (fun a U => a = #[(.int (0 : Int32)), (.long b)] ∧ Z.Warmed39 U.vm ∧ U.heap = h0) (fun _ _ _ _ _ => True) (fun _ U o U' => ∃ v L, o = .returned v ∧ QM Z b 0 h0 n0 v U'.heap L ∧ FrameEnd U o U' L ({ frames := 1, cells := 1, slots := 5, locals := 17 } : Room).cells ({ frames := 1, cells := 1, slots := 5, locals := 17 } : Room).slots) := by
  refine MetFree.of_bodySF (plainFor_of_name pn_l) hisR ?_
  intro p e s m args below meth c s₁ Bd hml0 hP hK
  obtain ⟨rfl, hZ, hh⟩ := hP
  have hx := Bd.exec
  have hby := Bd.bytes
  have hml : c.maxLocals = 3 := hml0
  have hown : s.vm.findClass "com/example/tend/tend/protocol/Utf8TailPinLaw" = some m.cls := findClass_of_methodNamed Bd.named
  have X0 : Stand p l e ({ frames := 1, cells := 1, slots := 5, locals := 17 } : Room) s m #[(.int (0 : Int32)), (.long b)] below meth c s₁ [] 0 0 := Stand.of_body Bd
  have e0 : s₁.heap = h0 := by rw [← hh, Bd.state]; rfl
  have N0 := Fr.nil n0
  have pre0 : ∀ t, Steps p.tables e below (s₁.setTop (mkF m 0 #[.val (.int (0 : Int32)), .val (.long b), .second] [])) t → Steps p.tables e below (s₁.setTop (entryFrame m #[(.int (0 : Int32)), (.long b)] 3)) t := fun t kq => castTop (ef_rmMake0 m (0 : Int32) b) kq
  obtain ⟨T1, h1, X1, e1, E1, A1, st1⟩ := own_newB X0 hx hZ (hw _ (List.mem_of_getElem? (i := 5) rfl)) e0 (n := 0) (by decide) (g := (mkF m 5 #[.val (.int (0 : Int32)), .val (.long b), .second] [(.int (0 : Int32))])) rfl (hb hby dmake_5) rfl (cap := 5) (by decide) (by decide) (by decide)
  obtain ⟨r, gr⟩ : ∃ z, z = h0.size := ⟨_, rfl⟩
  rw [← gr] at A1 st1
  have g_r : n0 ≤ r := Nat.le_trans Z0 (Nat.le_of_eq gr.symm)
  have Z1 : n0 ≤ h1.size := Nat.le_trans Z0 E1.1
  have K1 : Keep h0 h1 [] := (Keep.refl h0 []).ext E1
  have N1 := N0
  have AF : own_BA Z h1 r 0 (fun i => own_bv b (Int32.ofNat i)) := A1.fn fun i hi => by
    exact absurd hi (Nat.not_lt_zero _)
  obtain ⟨fs, hr, hrun, hended, hW, hsame⟩ := X1.leave (v := some (.ref r)) (fun h => by rw [Bd.returns] at h; cases h)
  refine ⟨_, _, pre0 _ ?_, hrun, hended, _, _, rfl, ⟨r, rfl, N1, g_r, (by show Keep h0 T1.heap []; rw [e1]; exact K1), (by show own_BA Z T1.heap r 0 _; rw [e1]; exact AF)⟩, ⟨_, rfl⟩, hW, hsame.mono (by decide) (by decide)⟩
  show Steps p.tables e below (s₁.setTop (mkF m 0 #[.val (.int (0 : Int32)), .val (.long b), .second] [])) _
  refine XS.iloadN X0.here hx rfl (hb hby dmake_0) rfl ?_
  show Steps p.tables e below (s₁.setTop (mkF m 1 #[.val (.int (0 : Int32)), .val (.long b), .second] [(.int (0 : Int32))])) _
  refine XS.ifNo X0.here hx rfl (hb hby dmake_1) rfl ((if0 _ _).trans (teq (by decide : (0 : Int32) = (0 : Int32))).2) ?_
  show Steps p.tables e below (s₁.setTop (mkF m 4 #[.val (.int (0 : Int32)), .val (.long b), .second] [])) _
  refine XS.iconst X0.here hx rfl (hb hby dmake_4) ?_
  refine st1 _ ?_
  show Steps p.tables e below (T1.setTop (mkF m 7 #[.val (.int (0 : Int32)), .val (.long b), .second] [(.ref r)])) _
  jvm_step X1.here [X1.here.top, hx, (hb hby dmake_7), X1.method', Bd.returns, Value.isRef, FieldType.isReference]
  first | (intro acts; rw [hr _ acts rfl rfl rfl]) | rw [hr _ _ rfl rfl rfl]
  exact Steps.refl _
theorem ef_rmMake1 (m : MethodId) (x0 : Int32) (x1 : Int64) : entryFrame m #[(.int x0), (.long x1)] 3 = (mkF m 0 #[.val (.int x0), .val (.long x1), .second] []) := by first | (simp [entryFrame, mkF, argsToLocals, Value.category]; done) | rfl
set_option maxRecDepth 65536 in
set_option maxHeartbeats 40000000 in
theorem rmMake1 (l : Launch) (Z : State) (a0 : Array Value) (hw : ∀ d ∈ tables_1, d.before a0 Z = true) (ws : List Jvm.Cond) (b : Int64) (h0 : Heap) (n0 : Nat) (Z0 : n0 ≤ h0.size) :
    MetFree l (⟨"com/example/tend/tend/protocol/Utf8TailPinLaw", "make", "(IJ)[B"⟩ : MethodName) (head1 (Jvm.Cond.code (⟨"com/example/tend/tend/protocol/Utf8TailPinLaw", "make", "(IJ)[B"⟩ : MethodName) method_7_code 3 (some (.array .byte)) :: ws) ({ frames := 1, cells := 1, slots := 5, locals := 17 } : Room)) (fun a U => a = #[(.int (1 : Int32)), (.long b)] ∧ Z.Warmed39 U.vm ∧ U.heap = h0) (fun _ _ _ _ _ => True) (fun _ U o U' => ∃ v L, o = .returned v ∧ QM Z b 1 h0 n0 v U'.heap L ∧ FrameEnd U o U' L ({ frames := 1, cells := 1, slots := 5, locals := 17 } : Room).cells ({ frames := 1, cells := 1, slots := 5, locals := 17 } : Room).slots) := by
  refine MetFree.of_bodySF (plainFor_of_name pn_l) hisR ?_
  intro p e s m args below meth c s₁ Bd hml0 hP hK
  obtain ⟨rfl, hZ, hh⟩ := hP
  have hx := Bd.exec
  have hby := Bd.bytes
  have hml : c.maxLocals = 3 := hml0
  have hown : s.vm.findClass "com/example/tend/tend/protocol/Utf8TailPinLaw" = some m.cls := findClass_of_methodNamed Bd.named
  have X0 : Stand p l e ({ frames := 1, cells := 1, slots := 5, locals := 17 } : Room) s m #[(.int (1 : Int32)), (.long b)] below meth c s₁ [] 0 0 := Stand.of_body Bd
  have e0 : s₁.heap = h0 := by rw [← hh, Bd.state]; rfl
  have N0 := Fr.nil n0
  have pre0 : ∀ t, Steps p.tables e below (s₁.setTop (mkF m 0 #[.val (.int (1 : Int32)), .val (.long b), .second] [])) t → Steps p.tables e below (s₁.setTop (entryFrame m #[(.int (1 : Int32)), (.long b)] 3)) t := fun t kq => castTop (ef_rmMake1 m (1 : Int32) b) kq
  obtain ⟨T1, h1, X1, e1, E1, A1, st1⟩ := own_newB X0 hx hZ (hw _ (List.mem_of_getElem? (i := 5) rfl)) e0 (n := 1) (by decide) (g := (mkF m 14 #[.val (.int (1 : Int32)), .val (.long b), .second] [(.int (1 : Int32))])) rfl (hb hby dmake_14) rfl (cap := 5) (by decide) (by decide) (by decide)
  obtain ⟨r, gr⟩ : ∃ z, z = h0.size := ⟨_, rfl⟩
  rw [← gr] at A1 st1
  have g_r : n0 ≤ r := Nat.le_trans Z0 (Nat.le_of_eq gr.symm)
  have Z1 : n0 ≤ h1.size := Nat.le_trans Z0 E1.1
  have K1 : Keep h0 h1 [] := (Keep.refl h0 []).ext E1
  have N1 := N0
  obtain ⟨_, _, ⟨Tc1, Lc1, kc1, nc1⟩, -, Xc1, ⟨Lcc1, hQc1, lc1, yc1, zc1⟩, stc1⟩ := Jvm.LawKit.callS X1 hx (y := (⟨"com/example/tend/tend/protocol/Utf8TailPinLaw", "bk", "(JI)B"⟩ : MethodName)) hown (mvT hZ (hw _ (List.mem_of_getElem? (i := 13) rfl))) (mvT hZ (hw _ (List.mem_of_getElem? (i := 14) rfl))) (mvT hZ (hw _ (List.mem_of_getElem? (i := 3) rfl))) (mvT hZ (hw _ (List.mem_of_getElem? (i := 15) rfl))) (by decide) (backOf (W := 3) (rmBk l Z a0 hw [] b (0 : Int32) h1 n0 Z1) hZ (hw _ (List.mem_of_getElem? (i := 15) rfl)) (hw _ (List.mem_of_getElem? (i := 3) rfl)) (by decide) (by decide)) (g := (mkF m 20 #[.val (.int (1 : Int32)), .val (.long b), .second] [(.int (0 : Int32)), (.long b), (.int (0 : Int32)), (.ref r), (.ref r)])) rfl (by rw [hml]; rfl) (argsL := [(.long b), (.int (0 : Int32))]) (rest := [(.int (0 : Int32)), (.ref r), (.ref r)]) (lenOf pd_bk rfl) rfl (by show 2 * 0 + _ ≤ _; exact Nat.le_of_eq rfl) (hb hby dmake_20) (fun _ _ => ⟨rfl, e1, (by decide : 1 + 0 ≤ _), (by decide : 5 + 0 ≤ _)⟩)
  dsimp only [Pt.U, Pt.locs, Pt.cells, Pt.slots] at Xc1 lc1 yc1 zc1 stc1 hQc1
  subst lc1 yc1 zc1
  obtain ⟨rfl, Nq1, ec1⟩ := hQc1
  have Nc1 := Fr.app N1 Nq1
  obtain ⟨T2, h2, X2, e2, K2', A2, st2⟩ := own_stB Xc1 hx hZ ec1 (by decide) A1 (i := 0) (by decide) (g := (mkF m 23 #[.val (.int (1 : Int32)), .val (.long b), .second] [(.int (own_bv b (0 : Int32))), (.int (0 : Int32)), (.ref r), (.ref r)])) rfl rfl (hb hby dmake_23)
  have N2 := Fr.snoc X2 Nc1 g_r
  have Z2 : n0 ≤ h2.size := Nat.le_trans Z1 K2'.1
  have K2 : Keep h0 h2 [] := K1.trans K2' (allS (Or.inr (Nat.le_of_eq gr.symm)) all0)
  have AF : own_BA Z h2 r 1 (fun i => own_bv b (Int32.ofNat i)) := A2.fn fun i hi => by
    have hi' : i = 0 := by omega
    rcases hi' with rfl
    · exact own_nar2 _
  obtain ⟨fs, hr, hrun, hended, hW, hsame⟩ := X2.leave (v := some (.ref r)) (fun h => by rw [Bd.returns] at h; cases h)
  refine ⟨_, _, pre0 _ ?_, hrun, hended, _, _, rfl, ⟨r, rfl, N2, g_r, (by show Keep h0 T2.heap []; rw [e2]; exact K2), (by show own_BA Z T2.heap r 1 _; rw [e2]; exact AF)⟩, ⟨_, rfl⟩, hW, hsame.mono (by decide) (by decide)⟩
  show Steps p.tables e below (s₁.setTop (mkF m 0 #[.val (.int (1 : Int32)), .val (.long b), .second] [])) _
  refine XS.iloadN X0.here hx rfl (hb hby dmake_0) rfl ?_
  show Steps p.tables e below (s₁.setTop (mkF m 1 #[.val (.int (1 : Int32)), .val (.long b), .second] [(.int (1 : Int32))])) _
  refine XS.ifYes X0.here hx rfl (pc0 := 1) (pc' := 8) rfl (hb hby dmake_1) rfl ((if0 _ _).trans (feq (by decide : ¬ ((1 : Int32) = (0 : Int32)))).2) (by decide) (by decide) ?_
  show Steps p.tables e below (s₁.setTop (mkF m 8 #[.val (.int (1 : Int32)), .val (.long b), .second] [])) _
  refine XS.iloadN X0.here hx rfl (hb hby dmake_8) rfl ?_
  show Steps p.tables e below (s₁.setTop (mkF m 9 #[.val (.int (1 : Int32)), .val (.long b), .second] [(.int (1 : Int32))])) _
  refine XS.iconst X0.here hx rfl (hb hby dmake_9) ?_
  show Steps p.tables e below (s₁.setTop (mkF m 10 #[.val (.int (1 : Int32)), .val (.long b), .second] [(.int (1 : Int32)), (.int (1 : Int32))])) _
  refine XS.icmpNo X0.here hx rfl (hb hby dmake_10) rfl (teq (by decide : (1 : Int32) = (1 : Int32))).2 ?_
  show Steps p.tables e below (s₁.setTop (mkF m 13 #[.val (.int (1 : Int32)), .val (.long b), .second] [])) _
  refine XS.iconst X0.here hx rfl (hb hby dmake_13) ?_
  refine st1 _ ?_
  show Steps p.tables e below (T1.setTop (mkF m 16 #[.val (.int (1 : Int32)), .val (.long b), .second] [(.ref r)])) _
  refine XS.dup X1.here hx rfl (hb hby dmake_16) rfl rfl ?_
  show Steps p.tables e below (T1.setTop (mkF m 17 #[.val (.int (1 : Int32)), .val (.long b), .second] [(.ref r), (.ref r)])) _
  refine XS.iconst X1.here hx rfl (hb hby dmake_17) ?_
  show Steps p.tables e below (T1.setTop (mkF m 18 #[.val (.int (1 : Int32)), .val (.long b), .second] [(.int (0 : Int32)), (.ref r), (.ref r)])) _
  refine XS.lloadN X1.here hx rfl (hb hby dmake_18) rfl ?_
  show Steps p.tables e below (T1.setTop (mkF m 19 #[.val (.int (1 : Int32)), .val (.long b), .second] [(.long b), (.int (0 : Int32)), (.ref r), (.ref r)])) _
  refine XS.iconst X1.here hx rfl (hb hby dmake_19) ?_
  refine stc1 _ (st2 _ ?_)
  show Steps p.tables e below (T2.setTop (mkF m 24 #[.val (.int (1 : Int32)), .val (.long b), .second] [(.ref r)])) _
  jvm_step X2.here [X2.here.top, hx, (hb hby dmake_24), X2.method', Bd.returns, Value.isRef, FieldType.isReference]
  first | (intro acts; rw [hr _ acts rfl rfl rfl]) | rw [hr _ _ rfl rfl rfl]
  exact Steps.refl _
theorem ef_rmMake2 (m : MethodId) (x0 : Int32) (x1 : Int64) : entryFrame m #[(.int x0), (.long x1)] 3 = (mkF m 0 #[.val (.int x0), .val (.long x1), .second] []) := by first | (simp [entryFrame, mkF, argsToLocals, Value.category]; done) | rfl
set_option maxRecDepth 65536 in
set_option maxHeartbeats 40000000 in
theorem rmMake2 (l : Launch) (Z : State) (a0 : Array Value) (hw : ∀ d ∈ tables_1, d.before a0 Z = true) (ws : List Jvm.Cond) (b : Int64) (h0 : Heap) (n0 : Nat) (Z0 : n0 ≤ h0.size) :
    MetFree l (⟨"com/example/tend/tend/protocol/Utf8TailPinLaw", "make", "(IJ)[B"⟩ : MethodName) (head1 (Jvm.Cond.code (⟨"com/example/tend/tend/protocol/Utf8TailPinLaw", "make", "(IJ)[B"⟩ : MethodName) method_7_code 3 (some (.array .byte)) :: ws) ({ frames := 1, cells := 1, slots := 5, locals := 17 } : Room)) (fun a U => a = #[(.int (2 : Int32)), (.long b)] ∧ Z.Warmed39 U.vm ∧ U.heap = h0) (fun _ _ _ _ _ => True) (fun _ U o U' => ∃ v L, o = .returned v ∧ QM Z b 2 h0 n0 v U'.heap L ∧ FrameEnd U o U' L ({ frames := 1, cells := 1, slots := 5, locals := 17 } : Room).cells ({ frames := 1, cells := 1, slots := 5, locals := 17 } : Room).slots) := by
  refine MetFree.of_bodySF (plainFor_of_name pn_l) hisR ?_
  intro p e s m args below meth c s₁ Bd hml0 hP hK
  obtain ⟨rfl, hZ, hh⟩ := hP
  have hx := Bd.exec
  have hby := Bd.bytes
  have hml : c.maxLocals = 3 := hml0
  have hown : s.vm.findClass "com/example/tend/tend/protocol/Utf8TailPinLaw" = some m.cls := findClass_of_methodNamed Bd.named
  have X0 : Stand p l e ({ frames := 1, cells := 1, slots := 5, locals := 17 } : Room) s m #[(.int (2 : Int32)), (.long b)] below meth c s₁ [] 0 0 := Stand.of_body Bd
  have e0 : s₁.heap = h0 := by rw [← hh, Bd.state]; rfl
  have N0 := Fr.nil n0
  have pre0 : ∀ t, Steps p.tables e below (s₁.setTop (mkF m 0 #[.val (.int (2 : Int32)), .val (.long b), .second] [])) t → Steps p.tables e below (s₁.setTop (entryFrame m #[(.int (2 : Int32)), (.long b)] 3)) t := fun t kq => castTop (ef_rmMake2 m (2 : Int32) b) kq
  obtain ⟨T1, h1, X1, e1, E1, A1, st1⟩ := own_newB X0 hx hZ (hw _ (List.mem_of_getElem? (i := 5) rfl)) e0 (n := 2) (by decide) (g := (mkF m 31 #[.val (.int (2 : Int32)), .val (.long b), .second] [(.int (2 : Int32))])) rfl (hb hby dmake_31) rfl (cap := 5) (by decide) (by decide) (by decide)
  obtain ⟨r, gr⟩ : ∃ z, z = h0.size := ⟨_, rfl⟩
  rw [← gr] at A1 st1
  have g_r : n0 ≤ r := Nat.le_trans Z0 (Nat.le_of_eq gr.symm)
  have Z1 : n0 ≤ h1.size := Nat.le_trans Z0 E1.1
  have K1 : Keep h0 h1 [] := (Keep.refl h0 []).ext E1
  have N1 := N0
  obtain ⟨_, _, ⟨Tc1, Lc1, kc1, nc1⟩, -, Xc1, ⟨Lcc1, hQc1, lc1, yc1, zc1⟩, stc1⟩ := Jvm.LawKit.callS X1 hx (y := (⟨"com/example/tend/tend/protocol/Utf8TailPinLaw", "bk", "(JI)B"⟩ : MethodName)) hown (mvT hZ (hw _ (List.mem_of_getElem? (i := 13) rfl))) (mvT hZ (hw _ (List.mem_of_getElem? (i := 14) rfl))) (mvT hZ (hw _ (List.mem_of_getElem? (i := 3) rfl))) (mvT hZ (hw _ (List.mem_of_getElem? (i := 15) rfl))) (by decide) (backOf (W := 3) (rmBk l Z a0 hw [] b (0 : Int32) h1 n0 Z1) hZ (hw _ (List.mem_of_getElem? (i := 15) rfl)) (hw _ (List.mem_of_getElem? (i := 3) rfl)) (by decide) (by decide)) (g := (mkF m 37 #[.val (.int (2 : Int32)), .val (.long b), .second] [(.int (0 : Int32)), (.long b), (.int (0 : Int32)), (.ref r), (.ref r)])) rfl (by rw [hml]; rfl) (argsL := [(.long b), (.int (0 : Int32))]) (rest := [(.int (0 : Int32)), (.ref r), (.ref r)]) (lenOf pd_bk rfl) rfl (by show 2 * 0 + _ ≤ _; exact Nat.le_of_eq rfl) (hb hby dmake_37) (fun _ _ => ⟨rfl, e1, (by decide : 1 + 0 ≤ _), (by decide : 5 + 0 ≤ _)⟩)
  dsimp only [Pt.U, Pt.locs, Pt.cells, Pt.slots] at Xc1 lc1 yc1 zc1 stc1 hQc1
  subst lc1 yc1 zc1
  obtain ⟨rfl, Nq1, ec1⟩ := hQc1
  have Nc1 := Fr.app N1 Nq1
  obtain ⟨T2, h2, X2, e2, K2', A2, st2⟩ := own_stB Xc1 hx hZ ec1 (by decide) A1 (i := 0) (by decide) (g := (mkF m 40 #[.val (.int (2 : Int32)), .val (.long b), .second] [(.int (own_bv b (0 : Int32))), (.int (0 : Int32)), (.ref r), (.ref r)])) rfl rfl (hb hby dmake_40)
  have N2 := Fr.snoc X2 Nc1 g_r
  have Z2 : n0 ≤ h2.size := Nat.le_trans Z1 K2'.1
  have K2 : Keep h0 h2 [] := K1.trans K2' (allS (Or.inr (Nat.le_of_eq gr.symm)) all0)
  obtain ⟨_, _, ⟨Tc2, Lc2, kc2, nc2⟩, -, Xc2, ⟨Lcc2, hQc2, lc2, yc2, zc2⟩, stc2⟩ := Jvm.LawKit.callS X2 hx (y := (⟨"com/example/tend/tend/protocol/Utf8TailPinLaw", "bk", "(JI)B"⟩ : MethodName)) hown (mvT hZ (hw _ (List.mem_of_getElem? (i := 13) rfl))) (mvT hZ (hw _ (List.mem_of_getElem? (i := 14) rfl))) (mvT hZ (hw _ (List.mem_of_getElem? (i := 3) rfl))) (mvT hZ (hw _ (List.mem_of_getElem? (i := 15) rfl))) (by decide) (backOf (W := 3) (rmBk l Z a0 hw [] b (1 : Int32) h2 n0 Z2) hZ (hw _ (List.mem_of_getElem? (i := 15) rfl)) (hw _ (List.mem_of_getElem? (i := 3) rfl)) (by decide) (by decide)) (g := (mkF m 45 #[.val (.int (2 : Int32)), .val (.long b), .second] [(.int (1 : Int32)), (.long b), (.int (1 : Int32)), (.ref r), (.ref r)])) rfl (by rw [hml]; rfl) (argsL := [(.long b), (.int (1 : Int32))]) (rest := [(.int (1 : Int32)), (.ref r), (.ref r)]) (lenOf pd_bk rfl) rfl (by show 2 * 0 + _ ≤ _; exact Nat.le_of_eq rfl) (hb hby dmake_45) (fun _ _ => ⟨rfl, e2, (by decide : 1 + 0 ≤ _), (by decide : 5 + 0 ≤ _)⟩)
  dsimp only [Pt.U, Pt.locs, Pt.cells, Pt.slots] at Xc2 lc2 yc2 zc2 stc2 hQc2
  subst lc2 yc2 zc2
  obtain ⟨rfl, Nq2, ec2⟩ := hQc2
  have Nc2 := Fr.app N2 Nq2
  obtain ⟨T3, h3, X3, e3, K3', A3, st3⟩ := own_stB Xc2 hx hZ ec2 (by decide) A2 (i := 1) (by decide) (g := (mkF m 48 #[.val (.int (2 : Int32)), .val (.long b), .second] [(.int (own_bv b (1 : Int32))), (.int (1 : Int32)), (.ref r), (.ref r)])) rfl rfl (hb hby dmake_48)
  have N3 := Fr.snoc X3 Nc2 g_r
  have Z3 : n0 ≤ h3.size := Nat.le_trans Z2 K3'.1
  have K3 : Keep h0 h3 [] := K2.trans K3' (allS (Or.inr (Nat.le_of_eq gr.symm)) all0)
  have AF : own_BA Z h3 r 2 (fun i => own_bv b (Int32.ofNat i)) := A3.fn fun i hi => by
    have hi' : i = 0 ∨ i = 1 := by omega
    rcases hi' with rfl | rfl
    · exact own_nar2 _
    · exact own_nar2 _
  obtain ⟨fs, hr, hrun, hended, hW, hsame⟩ := X3.leave (v := some (.ref r)) (fun h => by rw [Bd.returns] at h; cases h)
  refine ⟨_, _, pre0 _ ?_, hrun, hended, _, _, rfl, ⟨r, rfl, N3, g_r, (by show Keep h0 T3.heap []; rw [e3]; exact K3), (by show own_BA Z T3.heap r 2 _; rw [e3]; exact AF)⟩, ⟨_, rfl⟩, hW, hsame.mono (by decide) (by decide)⟩
  show Steps p.tables e below (s₁.setTop (mkF m 0 #[.val (.int (2 : Int32)), .val (.long b), .second] [])) _
  refine XS.iloadN X0.here hx rfl (hb hby dmake_0) rfl ?_
  show Steps p.tables e below (s₁.setTop (mkF m 1 #[.val (.int (2 : Int32)), .val (.long b), .second] [(.int (2 : Int32))])) _
  refine XS.ifYes X0.here hx rfl (pc0 := 1) (pc' := 8) rfl (hb hby dmake_1) rfl ((if0 _ _).trans (feq (by decide : ¬ ((2 : Int32) = (0 : Int32)))).2) (by decide) (by decide) ?_
  show Steps p.tables e below (s₁.setTop (mkF m 8 #[.val (.int (2 : Int32)), .val (.long b), .second] [])) _
  refine XS.iloadN X0.here hx rfl (hb hby dmake_8) rfl ?_
  show Steps p.tables e below (s₁.setTop (mkF m 9 #[.val (.int (2 : Int32)), .val (.long b), .second] [(.int (2 : Int32))])) _
  refine XS.iconst X0.here hx rfl (hb hby dmake_9) ?_
  show Steps p.tables e below (s₁.setTop (mkF m 10 #[.val (.int (2 : Int32)), .val (.long b), .second] [(.int (1 : Int32)), (.int (2 : Int32))])) _
  refine XS.icmpYes X0.here hx rfl (pc0 := 10) (pc' := 25) rfl (hb hby dmake_10) rfl (feq (by decide : ¬ ((2 : Int32) = (1 : Int32)))).2 (by decide) (by decide) ?_
  show Steps p.tables e below (s₁.setTop (mkF m 25 #[.val (.int (2 : Int32)), .val (.long b), .second] [])) _
  refine XS.iloadN X0.here hx rfl (hb hby dmake_25) rfl ?_
  show Steps p.tables e below (s₁.setTop (mkF m 26 #[.val (.int (2 : Int32)), .val (.long b), .second] [(.int (2 : Int32))])) _
  refine XS.iconst X0.here hx rfl (hb hby dmake_26) ?_
  show Steps p.tables e below (s₁.setTop (mkF m 27 #[.val (.int (2 : Int32)), .val (.long b), .second] [(.int (2 : Int32)), (.int (2 : Int32))])) _
  refine XS.icmpNo X0.here hx rfl (hb hby dmake_27) rfl (teq (by decide : (2 : Int32) = (2 : Int32))).2 ?_
  show Steps p.tables e below (s₁.setTop (mkF m 30 #[.val (.int (2 : Int32)), .val (.long b), .second] [])) _
  refine XS.iconst X0.here hx rfl (hb hby dmake_30) ?_
  refine st1 _ ?_
  show Steps p.tables e below (T1.setTop (mkF m 33 #[.val (.int (2 : Int32)), .val (.long b), .second] [(.ref r)])) _
  refine XS.dup X1.here hx rfl (hb hby dmake_33) rfl rfl ?_
  show Steps p.tables e below (T1.setTop (mkF m 34 #[.val (.int (2 : Int32)), .val (.long b), .second] [(.ref r), (.ref r)])) _
  refine XS.iconst X1.here hx rfl (hb hby dmake_34) ?_
  show Steps p.tables e below (T1.setTop (mkF m 35 #[.val (.int (2 : Int32)), .val (.long b), .second] [(.int (0 : Int32)), (.ref r), (.ref r)])) _
  refine XS.lloadN X1.here hx rfl (hb hby dmake_35) rfl ?_
  show Steps p.tables e below (T1.setTop (mkF m 36 #[.val (.int (2 : Int32)), .val (.long b), .second] [(.long b), (.int (0 : Int32)), (.ref r), (.ref r)])) _
  refine XS.iconst X1.here hx rfl (hb hby dmake_36) ?_
  refine stc1 _ (st2 _ ?_)
  show Steps p.tables e below (T2.setTop (mkF m 41 #[.val (.int (2 : Int32)), .val (.long b), .second] [(.ref r)])) _
  refine XS.dup X2.here hx rfl (hb hby dmake_41) rfl rfl ?_
  show Steps p.tables e below (T2.setTop (mkF m 42 #[.val (.int (2 : Int32)), .val (.long b), .second] [(.ref r), (.ref r)])) _
  refine XS.iconst X2.here hx rfl (hb hby dmake_42) ?_
  show Steps p.tables e below (T2.setTop (mkF m 43 #[.val (.int (2 : Int32)), .val (.long b), .second] [(.int (1 : Int32)), (.ref r), (.ref r)])) _
  refine XS.lloadN X2.here hx rfl (hb hby dmake_43) rfl ?_
  show Steps p.tables e below (T2.setTop (mkF m 44 #[.val (.int (2 : Int32)), .val (.long b), .second] [(.long b), (.int (1 : Int32)), (.ref r), (.ref r)])) _
  refine XS.iconst X2.here hx rfl (hb hby dmake_44) ?_
  refine stc2 _ (st3 _ ?_)
  show Steps p.tables e below (T3.setTop (mkF m 49 #[.val (.int (2 : Int32)), .val (.long b), .second] [(.ref r)])) _
  jvm_step X3.here [X3.here.top, hx, (hb hby dmake_49), X3.method', Bd.returns, Value.isRef, FieldType.isReference]
  first | (intro acts; rw [hr _ acts rfl rfl rfl]) | rw [hr _ _ rfl rfl rfl]
  exact Steps.refl _
theorem ef_rmMake3 (m : MethodId) (x0 : Int32) (x1 : Int64) : entryFrame m #[(.int x0), (.long x1)] 3 = (mkF m 0 #[.val (.int x0), .val (.long x1), .second] []) := by first | (simp [entryFrame, mkF, argsToLocals, Value.category]; done) | rfl
set_option maxRecDepth 65536 in
set_option maxHeartbeats 40000000 in
theorem rmMake3 (l : Launch) (Z : State) (a0 : Array Value) (hw : ∀ d ∈ tables_1, d.before a0 Z = true) (ws : List Jvm.Cond) (b : Int64) (h0 : Heap) (n0 : Nat) (Z0 : n0 ≤ h0.size) :
    MetFree l (⟨"com/example/tend/tend/protocol/Utf8TailPinLaw", "make", "(IJ)[B"⟩ : MethodName) (head1 (Jvm.Cond.code (⟨"com/example/tend/tend/protocol/Utf8TailPinLaw", "make", "(IJ)[B"⟩ : MethodName) method_7_code 3 (some (.array .byte)) :: ws) ({ frames := 1, cells := 1, slots := 5, locals := 17 } : Room)) (fun a U => a = #[(.int (3 : Int32)), (.long b)] ∧ Z.Warmed39 U.vm ∧ U.heap = h0) (fun _ _ _ _ _ => True) (fun _ U o U' => ∃ v L, o = .returned v ∧ QM Z b 3 h0 n0 v U'.heap L ∧ FrameEnd U o U' L ({ frames := 1, cells := 1, slots := 5, locals := 17 } : Room).cells ({ frames := 1, cells := 1, slots := 5, locals := 17 } : Room).slots) := by
  refine MetFree.of_bodySF (plainFor_of_name pn_l) hisR ?_
  intro p e s m args below meth c s₁ Bd hml0 hP hK
  obtain ⟨rfl, hZ, hh⟩ := hP
  have hx := Bd.exec
  have hby := Bd.bytes
  have hml : c.maxLocals = 3 := hml0
  have hown : s.vm.findClass "com/example/tend/tend/protocol/Utf8TailPinLaw" = some m.cls := findClass_of_methodNamed Bd.named
  have X0 : Stand p l e ({ frames := 1, cells := 1, slots := 5, locals := 17 } : Room) s m #[(.int (3 : Int32)), (.long b)] below meth c s₁ [] 0 0 := Stand.of_body Bd
  have e0 : s₁.heap = h0 := by rw [← hh, Bd.state]; rfl
  have N0 := Fr.nil n0
  have pre0 : ∀ t, Steps p.tables e below (s₁.setTop (mkF m 0 #[.val (.int (3 : Int32)), .val (.long b), .second] [])) t → Steps p.tables e below (s₁.setTop (entryFrame m #[(.int (3 : Int32)), (.long b)] 3)) t := fun t kq => castTop (ef_rmMake3 m (3 : Int32) b) kq
  obtain ⟨T1, h1, X1, e1, E1, A1, st1⟩ := own_newB X0 hx hZ (hw _ (List.mem_of_getElem? (i := 5) rfl)) e0 (n := 3) (by decide) (g := (mkF m 56 #[.val (.int (3 : Int32)), .val (.long b), .second] [(.int (3 : Int32))])) rfl (hb hby dmake_56) rfl (cap := 5) (by decide) (by decide) (by decide)
  obtain ⟨r, gr⟩ : ∃ z, z = h0.size := ⟨_, rfl⟩
  rw [← gr] at A1 st1
  have g_r : n0 ≤ r := Nat.le_trans Z0 (Nat.le_of_eq gr.symm)
  have Z1 : n0 ≤ h1.size := Nat.le_trans Z0 E1.1
  have K1 : Keep h0 h1 [] := (Keep.refl h0 []).ext E1
  have N1 := N0
  obtain ⟨_, _, ⟨Tc1, Lc1, kc1, nc1⟩, -, Xc1, ⟨Lcc1, hQc1, lc1, yc1, zc1⟩, stc1⟩ := Jvm.LawKit.callS X1 hx (y := (⟨"com/example/tend/tend/protocol/Utf8TailPinLaw", "bk", "(JI)B"⟩ : MethodName)) hown (mvT hZ (hw _ (List.mem_of_getElem? (i := 13) rfl))) (mvT hZ (hw _ (List.mem_of_getElem? (i := 14) rfl))) (mvT hZ (hw _ (List.mem_of_getElem? (i := 3) rfl))) (mvT hZ (hw _ (List.mem_of_getElem? (i := 15) rfl))) (by decide) (backOf (W := 3) (rmBk l Z a0 hw [] b (0 : Int32) h1 n0 Z1) hZ (hw _ (List.mem_of_getElem? (i := 15) rfl)) (hw _ (List.mem_of_getElem? (i := 3) rfl)) (by decide) (by decide)) (g := (mkF m 62 #[.val (.int (3 : Int32)), .val (.long b), .second] [(.int (0 : Int32)), (.long b), (.int (0 : Int32)), (.ref r), (.ref r)])) rfl (by rw [hml]; rfl) (argsL := [(.long b), (.int (0 : Int32))]) (rest := [(.int (0 : Int32)), (.ref r), (.ref r)]) (lenOf pd_bk rfl) rfl (by show 2 * 0 + _ ≤ _; exact Nat.le_of_eq rfl) (hb hby dmake_62) (fun _ _ => ⟨rfl, e1, (by decide : 1 + 0 ≤ _), (by decide : 5 + 0 ≤ _)⟩)
  dsimp only [Pt.U, Pt.locs, Pt.cells, Pt.slots] at Xc1 lc1 yc1 zc1 stc1 hQc1
  subst lc1 yc1 zc1
  obtain ⟨rfl, Nq1, ec1⟩ := hQc1
  have Nc1 := Fr.app N1 Nq1
  obtain ⟨T2, h2, X2, e2, K2', A2, st2⟩ := own_stB Xc1 hx hZ ec1 (by decide) A1 (i := 0) (by decide) (g := (mkF m 65 #[.val (.int (3 : Int32)), .val (.long b), .second] [(.int (own_bv b (0 : Int32))), (.int (0 : Int32)), (.ref r), (.ref r)])) rfl rfl (hb hby dmake_65)
  have N2 := Fr.snoc X2 Nc1 g_r
  have Z2 : n0 ≤ h2.size := Nat.le_trans Z1 K2'.1
  have K2 : Keep h0 h2 [] := K1.trans K2' (allS (Or.inr (Nat.le_of_eq gr.symm)) all0)
  obtain ⟨_, _, ⟨Tc2, Lc2, kc2, nc2⟩, -, Xc2, ⟨Lcc2, hQc2, lc2, yc2, zc2⟩, stc2⟩ := Jvm.LawKit.callS X2 hx (y := (⟨"com/example/tend/tend/protocol/Utf8TailPinLaw", "bk", "(JI)B"⟩ : MethodName)) hown (mvT hZ (hw _ (List.mem_of_getElem? (i := 13) rfl))) (mvT hZ (hw _ (List.mem_of_getElem? (i := 14) rfl))) (mvT hZ (hw _ (List.mem_of_getElem? (i := 3) rfl))) (mvT hZ (hw _ (List.mem_of_getElem? (i := 15) rfl))) (by decide) (backOf (W := 3) (rmBk l Z a0 hw [] b (1 : Int32) h2 n0 Z2) hZ (hw _ (List.mem_of_getElem? (i := 15) rfl)) (hw _ (List.mem_of_getElem? (i := 3) rfl)) (by decide) (by decide)) (g := (mkF m 70 #[.val (.int (3 : Int32)), .val (.long b), .second] [(.int (1 : Int32)), (.long b), (.int (1 : Int32)), (.ref r), (.ref r)])) rfl (by rw [hml]; rfl) (argsL := [(.long b), (.int (1 : Int32))]) (rest := [(.int (1 : Int32)), (.ref r), (.ref r)]) (lenOf pd_bk rfl) rfl (by show 2 * 0 + _ ≤ _; exact Nat.le_of_eq rfl) (hb hby dmake_70) (fun _ _ => ⟨rfl, e2, (by decide : 1 + 0 ≤ _), (by decide : 5 + 0 ≤ _)⟩)
  dsimp only [Pt.U, Pt.locs, Pt.cells, Pt.slots] at Xc2 lc2 yc2 zc2 stc2 hQc2
  subst lc2 yc2 zc2
  obtain ⟨rfl, Nq2, ec2⟩ := hQc2
  have Nc2 := Fr.app N2 Nq2
  obtain ⟨T3, h3, X3, e3, K3', A3, st3⟩ := own_stB Xc2 hx hZ ec2 (by decide) A2 (i := 1) (by decide) (g := (mkF m 73 #[.val (.int (3 : Int32)), .val (.long b), .second] [(.int (own_bv b (1 : Int32))), (.int (1 : Int32)), (.ref r), (.ref r)])) rfl rfl (hb hby dmake_73)
  have N3 := Fr.snoc X3 Nc2 g_r
  have Z3 : n0 ≤ h3.size := Nat.le_trans Z2 K3'.1
  have K3 : Keep h0 h3 [] := K2.trans K3' (allS (Or.inr (Nat.le_of_eq gr.symm)) all0)
  obtain ⟨_, _, ⟨Tc3, Lc3, kc3, nc3⟩, -, Xc3, ⟨Lcc3, hQc3, lc3, yc3, zc3⟩, stc3⟩ := Jvm.LawKit.callS X3 hx (y := (⟨"com/example/tend/tend/protocol/Utf8TailPinLaw", "bk", "(JI)B"⟩ : MethodName)) hown (mvT hZ (hw _ (List.mem_of_getElem? (i := 13) rfl))) (mvT hZ (hw _ (List.mem_of_getElem? (i := 14) rfl))) (mvT hZ (hw _ (List.mem_of_getElem? (i := 3) rfl))) (mvT hZ (hw _ (List.mem_of_getElem? (i := 15) rfl))) (by decide) (backOf (W := 3) (rmBk l Z a0 hw [] b (2 : Int32) h3 n0 Z3) hZ (hw _ (List.mem_of_getElem? (i := 15) rfl)) (hw _ (List.mem_of_getElem? (i := 3) rfl)) (by decide) (by decide)) (g := (mkF m 78 #[.val (.int (3 : Int32)), .val (.long b), .second] [(.int (2 : Int32)), (.long b), (.int (2 : Int32)), (.ref r), (.ref r)])) rfl (by rw [hml]; rfl) (argsL := [(.long b), (.int (2 : Int32))]) (rest := [(.int (2 : Int32)), (.ref r), (.ref r)]) (lenOf pd_bk rfl) rfl (by show 2 * 0 + _ ≤ _; exact Nat.le_of_eq rfl) (hb hby dmake_78) (fun _ _ => ⟨rfl, e3, (by decide : 1 + 0 ≤ _), (by decide : 5 + 0 ≤ _)⟩)
  dsimp only [Pt.U, Pt.locs, Pt.cells, Pt.slots] at Xc3 lc3 yc3 zc3 stc3 hQc3
  subst lc3 yc3 zc3
  obtain ⟨rfl, Nq3, ec3⟩ := hQc3
  have Nc3 := Fr.app N3 Nq3
  obtain ⟨T4, h4, X4, e4, K4', A4, st4⟩ := own_stB Xc3 hx hZ ec3 (by decide) A3 (i := 2) (by decide) (g := (mkF m 81 #[.val (.int (3 : Int32)), .val (.long b), .second] [(.int (own_bv b (2 : Int32))), (.int (2 : Int32)), (.ref r), (.ref r)])) rfl rfl (hb hby dmake_81)
  have N4 := Fr.snoc X4 Nc3 g_r
  have Z4 : n0 ≤ h4.size := Nat.le_trans Z3 K4'.1
  have K4 : Keep h0 h4 [] := K3.trans K4' (allS (Or.inr (Nat.le_of_eq gr.symm)) all0)
  have AF : own_BA Z h4 r 3 (fun i => own_bv b (Int32.ofNat i)) := A4.fn fun i hi => by
    have hi' : i = 0 ∨ i = 1 ∨ i = 2 := by omega
    rcases hi' with rfl | rfl | rfl
    · exact own_nar2 _
    · exact own_nar2 _
    · exact own_nar2 _
  obtain ⟨fs, hr, hrun, hended, hW, hsame⟩ := X4.leave (v := some (.ref r)) (fun h => by rw [Bd.returns] at h; cases h)
  refine ⟨_, _, pre0 _ ?_, hrun, hended, _, _, rfl, ⟨r, rfl, N4, g_r, (by show Keep h0 T4.heap []; rw [e4]; exact K4), (by show own_BA Z T4.heap r 3 _; rw [e4]; exact AF)⟩, ⟨_, rfl⟩, hW, hsame.mono (by decide) (by decide)⟩
  show Steps p.tables e below (s₁.setTop (mkF m 0 #[.val (.int (3 : Int32)), .val (.long b), .second] [])) _
  refine XS.iloadN X0.here hx rfl (hb hby dmake_0) rfl ?_
  show Steps p.tables e below (s₁.setTop (mkF m 1 #[.val (.int (3 : Int32)), .val (.long b), .second] [(.int (3 : Int32))])) _
  refine XS.ifYes X0.here hx rfl (pc0 := 1) (pc' := 8) rfl (hb hby dmake_1) rfl ((if0 _ _).trans (feq (by decide : ¬ ((3 : Int32) = (0 : Int32)))).2) (by decide) (by decide) ?_
  show Steps p.tables e below (s₁.setTop (mkF m 8 #[.val (.int (3 : Int32)), .val (.long b), .second] [])) _
  refine XS.iloadN X0.here hx rfl (hb hby dmake_8) rfl ?_
  show Steps p.tables e below (s₁.setTop (mkF m 9 #[.val (.int (3 : Int32)), .val (.long b), .second] [(.int (3 : Int32))])) _
  refine XS.iconst X0.here hx rfl (hb hby dmake_9) ?_
  show Steps p.tables e below (s₁.setTop (mkF m 10 #[.val (.int (3 : Int32)), .val (.long b), .second] [(.int (1 : Int32)), (.int (3 : Int32))])) _
  refine XS.icmpYes X0.here hx rfl (pc0 := 10) (pc' := 25) rfl (hb hby dmake_10) rfl (feq (by decide : ¬ ((3 : Int32) = (1 : Int32)))).2 (by decide) (by decide) ?_
  show Steps p.tables e below (s₁.setTop (mkF m 25 #[.val (.int (3 : Int32)), .val (.long b), .second] [])) _
  refine XS.iloadN X0.here hx rfl (hb hby dmake_25) rfl ?_
  show Steps p.tables e below (s₁.setTop (mkF m 26 #[.val (.int (3 : Int32)), .val (.long b), .second] [(.int (3 : Int32))])) _
  refine XS.iconst X0.here hx rfl (hb hby dmake_26) ?_
  show Steps p.tables e below (s₁.setTop (mkF m 27 #[.val (.int (3 : Int32)), .val (.long b), .second] [(.int (2 : Int32)), (.int (3 : Int32))])) _
  refine XS.icmpYes X0.here hx rfl (pc0 := 27) (pc' := 50) rfl (hb hby dmake_27) rfl (feq (by decide : ¬ ((3 : Int32) = (2 : Int32)))).2 (by decide) (by decide) ?_
  show Steps p.tables e below (s₁.setTop (mkF m 50 #[.val (.int (3 : Int32)), .val (.long b), .second] [])) _
  refine XS.iloadN X0.here hx rfl (hb hby dmake_50) rfl ?_
  show Steps p.tables e below (s₁.setTop (mkF m 51 #[.val (.int (3 : Int32)), .val (.long b), .second] [(.int (3 : Int32))])) _
  refine XS.iconst X0.here hx rfl (hb hby dmake_51) ?_
  show Steps p.tables e below (s₁.setTop (mkF m 52 #[.val (.int (3 : Int32)), .val (.long b), .second] [(.int (3 : Int32)), (.int (3 : Int32))])) _
  refine XS.icmpNo X0.here hx rfl (hb hby dmake_52) rfl (teq (by decide : (3 : Int32) = (3 : Int32))).2 ?_
  show Steps p.tables e below (s₁.setTop (mkF m 55 #[.val (.int (3 : Int32)), .val (.long b), .second] [])) _
  refine XS.iconst X0.here hx rfl (hb hby dmake_55) ?_
  refine st1 _ ?_
  show Steps p.tables e below (T1.setTop (mkF m 58 #[.val (.int (3 : Int32)), .val (.long b), .second] [(.ref r)])) _
  refine XS.dup X1.here hx rfl (hb hby dmake_58) rfl rfl ?_
  show Steps p.tables e below (T1.setTop (mkF m 59 #[.val (.int (3 : Int32)), .val (.long b), .second] [(.ref r), (.ref r)])) _
  refine XS.iconst X1.here hx rfl (hb hby dmake_59) ?_
  show Steps p.tables e below (T1.setTop (mkF m 60 #[.val (.int (3 : Int32)), .val (.long b), .second] [(.int (0 : Int32)), (.ref r), (.ref r)])) _
  refine XS.lloadN X1.here hx rfl (hb hby dmake_60) rfl ?_
  show Steps p.tables e below (T1.setTop (mkF m 61 #[.val (.int (3 : Int32)), .val (.long b), .second] [(.long b), (.int (0 : Int32)), (.ref r), (.ref r)])) _
  refine XS.iconst X1.here hx rfl (hb hby dmake_61) ?_
  refine stc1 _ (st2 _ ?_)
  show Steps p.tables e below (T2.setTop (mkF m 66 #[.val (.int (3 : Int32)), .val (.long b), .second] [(.ref r)])) _
  refine XS.dup X2.here hx rfl (hb hby dmake_66) rfl rfl ?_
  show Steps p.tables e below (T2.setTop (mkF m 67 #[.val (.int (3 : Int32)), .val (.long b), .second] [(.ref r), (.ref r)])) _
  refine XS.iconst X2.here hx rfl (hb hby dmake_67) ?_
  show Steps p.tables e below (T2.setTop (mkF m 68 #[.val (.int (3 : Int32)), .val (.long b), .second] [(.int (1 : Int32)), (.ref r), (.ref r)])) _
  refine XS.lloadN X2.here hx rfl (hb hby dmake_68) rfl ?_
  show Steps p.tables e below (T2.setTop (mkF m 69 #[.val (.int (3 : Int32)), .val (.long b), .second] [(.long b), (.int (1 : Int32)), (.ref r), (.ref r)])) _
  refine XS.iconst X2.here hx rfl (hb hby dmake_69) ?_
  refine stc2 _ (st3 _ ?_)
  show Steps p.tables e below (T3.setTop (mkF m 74 #[.val (.int (3 : Int32)), .val (.long b), .second] [(.ref r)])) _
  refine XS.dup X3.here hx rfl (hb hby dmake_74) rfl rfl ?_
  show Steps p.tables e below (T3.setTop (mkF m 75 #[.val (.int (3 : Int32)), .val (.long b), .second] [(.ref r), (.ref r)])) _
  refine XS.iconst X3.here hx rfl (hb hby dmake_75) ?_
  show Steps p.tables e below (T3.setTop (mkF m 76 #[.val (.int (3 : Int32)), .val (.long b), .second] [(.int (2 : Int32)), (.ref r), (.ref r)])) _
  refine XS.lloadN X3.here hx rfl (hb hby dmake_76) rfl ?_
  show Steps p.tables e below (T3.setTop (mkF m 77 #[.val (.int (3 : Int32)), .val (.long b), .second] [(.long b), (.int (2 : Int32)), (.ref r), (.ref r)])) _
  refine XS.iconst X3.here hx rfl (hb hby dmake_77) ?_
  refine stc3 _ (st4 _ ?_)
  show Steps p.tables e below (T4.setTop (mkF m 82 #[.val (.int (3 : Int32)), .val (.long b), .second] [(.ref r)])) _
  jvm_step X4.here [X4.here.top, hx, (hb hby dmake_82), X4.method', Bd.returns, Value.isRef, FieldType.isReference]
  first | (intro acts; rw [hr _ acts rfl rfl rfl]) | rw [hr _ _ rfl rfl rfl]
  exact Steps.refl _
theorem ef_rmMake4 (m : MethodId) (x0 : Int32) (x1 : Int64) : entryFrame m #[(.int x0), (.long x1)] 3 = (mkF m 0 #[.val (.int x0), .val (.long x1), .second] []) := by first | (simp [entryFrame, mkF, argsToLocals, Value.category]; done) | rfl
set_option maxRecDepth 65536 in
set_option maxHeartbeats 40000000 in
theorem rmMake4 (l : Launch) (Z : State) (a0 : Array Value) (hw : ∀ d ∈ tables_1, d.before a0 Z = true) (ws : List Jvm.Cond) (b : Int64) (h0 : Heap) (n0 : Nat) (Z0 : n0 ≤ h0.size) :
    MetFree l (⟨"com/example/tend/tend/protocol/Utf8TailPinLaw", "make", "(IJ)[B"⟩ : MethodName) (head1 (Jvm.Cond.code (⟨"com/example/tend/tend/protocol/Utf8TailPinLaw", "make", "(IJ)[B"⟩ : MethodName) method_7_code 3 (some (.array .byte)) :: ws) ({ frames := 1, cells := 1, slots := 5, locals := 17 } : Room)) (fun a U => a = #[(.int (4 : Int32)), (.long b)] ∧ Z.Warmed39 U.vm ∧ U.heap = h0) (fun _ _ _ _ _ => True) (fun _ U o U' => ∃ v L, o = .returned v ∧ QM Z b 4 h0 n0 v U'.heap L ∧ FrameEnd U o U' L ({ frames := 1, cells := 1, slots := 5, locals := 17 } : Room).cells ({ frames := 1, cells := 1, slots := 5, locals := 17 } : Room).slots) := by
  refine MetFree.of_bodySF (plainFor_of_name pn_l) hisR ?_
  intro p e s m args below meth c s₁ Bd hml0 hP hK
  obtain ⟨rfl, hZ, hh⟩ := hP
  have hx := Bd.exec
  have hby := Bd.bytes
  have hml : c.maxLocals = 3 := hml0
  have hown : s.vm.findClass "com/example/tend/tend/protocol/Utf8TailPinLaw" = some m.cls := findClass_of_methodNamed Bd.named
  have X0 : Stand p l e ({ frames := 1, cells := 1, slots := 5, locals := 17 } : Room) s m #[(.int (4 : Int32)), (.long b)] below meth c s₁ [] 0 0 := Stand.of_body Bd
  have e0 : s₁.heap = h0 := by rw [← hh, Bd.state]; rfl
  have N0 := Fr.nil n0
  have pre0 : ∀ t, Steps p.tables e below (s₁.setTop (mkF m 0 #[.val (.int (4 : Int32)), .val (.long b), .second] [])) t → Steps p.tables e below (s₁.setTop (entryFrame m #[(.int (4 : Int32)), (.long b)] 3)) t := fun t kq => castTop (ef_rmMake4 m (4 : Int32) b) kq
  obtain ⟨T1, h1, X1, e1, E1, A1, st1⟩ := own_newB X0 hx hZ (hw _ (List.mem_of_getElem? (i := 5) rfl)) e0 (n := 4) (by decide) (g := (mkF m 89 #[.val (.int (4 : Int32)), .val (.long b), .second] [(.int (4 : Int32))])) rfl (hb hby dmake_89) rfl (cap := 5) (by decide) (by decide) (by decide)
  obtain ⟨r, gr⟩ : ∃ z, z = h0.size := ⟨_, rfl⟩
  rw [← gr] at A1 st1
  have g_r : n0 ≤ r := Nat.le_trans Z0 (Nat.le_of_eq gr.symm)
  have Z1 : n0 ≤ h1.size := Nat.le_trans Z0 E1.1
  have K1 : Keep h0 h1 [] := (Keep.refl h0 []).ext E1
  have N1 := N0
  obtain ⟨_, _, ⟨Tc1, Lc1, kc1, nc1⟩, -, Xc1, ⟨Lcc1, hQc1, lc1, yc1, zc1⟩, stc1⟩ := Jvm.LawKit.callS X1 hx (y := (⟨"com/example/tend/tend/protocol/Utf8TailPinLaw", "bk", "(JI)B"⟩ : MethodName)) hown (mvT hZ (hw _ (List.mem_of_getElem? (i := 13) rfl))) (mvT hZ (hw _ (List.mem_of_getElem? (i := 14) rfl))) (mvT hZ (hw _ (List.mem_of_getElem? (i := 3) rfl))) (mvT hZ (hw _ (List.mem_of_getElem? (i := 15) rfl))) (by decide) (backOf (W := 3) (rmBk l Z a0 hw [] b (0 : Int32) h1 n0 Z1) hZ (hw _ (List.mem_of_getElem? (i := 15) rfl)) (hw _ (List.mem_of_getElem? (i := 3) rfl)) (by decide) (by decide)) (g := (mkF m 95 #[.val (.int (4 : Int32)), .val (.long b), .second] [(.int (0 : Int32)), (.long b), (.int (0 : Int32)), (.ref r), (.ref r)])) rfl (by rw [hml]; rfl) (argsL := [(.long b), (.int (0 : Int32))]) (rest := [(.int (0 : Int32)), (.ref r), (.ref r)]) (lenOf pd_bk rfl) rfl (by show 2 * 0 + _ ≤ _; exact Nat.le_of_eq rfl) (hb hby dmake_95) (fun _ _ => ⟨rfl, e1, (by decide : 1 + 0 ≤ _), (by decide : 5 + 0 ≤ _)⟩)
  dsimp only [Pt.U, Pt.locs, Pt.cells, Pt.slots] at Xc1 lc1 yc1 zc1 stc1 hQc1
  subst lc1 yc1 zc1
  obtain ⟨rfl, Nq1, ec1⟩ := hQc1
  have Nc1 := Fr.app N1 Nq1
  obtain ⟨T2, h2, X2, e2, K2', A2, st2⟩ := own_stB Xc1 hx hZ ec1 (by decide) A1 (i := 0) (by decide) (g := (mkF m 98 #[.val (.int (4 : Int32)), .val (.long b), .second] [(.int (own_bv b (0 : Int32))), (.int (0 : Int32)), (.ref r), (.ref r)])) rfl rfl (hb hby dmake_98)
  have N2 := Fr.snoc X2 Nc1 g_r
  have Z2 : n0 ≤ h2.size := Nat.le_trans Z1 K2'.1
  have K2 : Keep h0 h2 [] := K1.trans K2' (allS (Or.inr (Nat.le_of_eq gr.symm)) all0)
  obtain ⟨_, _, ⟨Tc2, Lc2, kc2, nc2⟩, -, Xc2, ⟨Lcc2, hQc2, lc2, yc2, zc2⟩, stc2⟩ := Jvm.LawKit.callS X2 hx (y := (⟨"com/example/tend/tend/protocol/Utf8TailPinLaw", "bk", "(JI)B"⟩ : MethodName)) hown (mvT hZ (hw _ (List.mem_of_getElem? (i := 13) rfl))) (mvT hZ (hw _ (List.mem_of_getElem? (i := 14) rfl))) (mvT hZ (hw _ (List.mem_of_getElem? (i := 3) rfl))) (mvT hZ (hw _ (List.mem_of_getElem? (i := 15) rfl))) (by decide) (backOf (W := 3) (rmBk l Z a0 hw [] b (1 : Int32) h2 n0 Z2) hZ (hw _ (List.mem_of_getElem? (i := 15) rfl)) (hw _ (List.mem_of_getElem? (i := 3) rfl)) (by decide) (by decide)) (g := (mkF m 103 #[.val (.int (4 : Int32)), .val (.long b), .second] [(.int (1 : Int32)), (.long b), (.int (1 : Int32)), (.ref r), (.ref r)])) rfl (by rw [hml]; rfl) (argsL := [(.long b), (.int (1 : Int32))]) (rest := [(.int (1 : Int32)), (.ref r), (.ref r)]) (lenOf pd_bk rfl) rfl (by show 2 * 0 + _ ≤ _; exact Nat.le_of_eq rfl) (hb hby dmake_103) (fun _ _ => ⟨rfl, e2, (by decide : 1 + 0 ≤ _), (by decide : 5 + 0 ≤ _)⟩)
  dsimp only [Pt.U, Pt.locs, Pt.cells, Pt.slots] at Xc2 lc2 yc2 zc2 stc2 hQc2
  subst lc2 yc2 zc2
  obtain ⟨rfl, Nq2, ec2⟩ := hQc2
  have Nc2 := Fr.app N2 Nq2
  obtain ⟨T3, h3, X3, e3, K3', A3, st3⟩ := own_stB Xc2 hx hZ ec2 (by decide) A2 (i := 1) (by decide) (g := (mkF m 106 #[.val (.int (4 : Int32)), .val (.long b), .second] [(.int (own_bv b (1 : Int32))), (.int (1 : Int32)), (.ref r), (.ref r)])) rfl rfl (hb hby dmake_106)
  have N3 := Fr.snoc X3 Nc2 g_r
  have Z3 : n0 ≤ h3.size := Nat.le_trans Z2 K3'.1
  have K3 : Keep h0 h3 [] := K2.trans K3' (allS (Or.inr (Nat.le_of_eq gr.symm)) all0)
  obtain ⟨_, _, ⟨Tc3, Lc3, kc3, nc3⟩, -, Xc3, ⟨Lcc3, hQc3, lc3, yc3, zc3⟩, stc3⟩ := Jvm.LawKit.callS X3 hx (y := (⟨"com/example/tend/tend/protocol/Utf8TailPinLaw", "bk", "(JI)B"⟩ : MethodName)) hown (mvT hZ (hw _ (List.mem_of_getElem? (i := 13) rfl))) (mvT hZ (hw _ (List.mem_of_getElem? (i := 14) rfl))) (mvT hZ (hw _ (List.mem_of_getElem? (i := 3) rfl))) (mvT hZ (hw _ (List.mem_of_getElem? (i := 15) rfl))) (by decide) (backOf (W := 3) (rmBk l Z a0 hw [] b (2 : Int32) h3 n0 Z3) hZ (hw _ (List.mem_of_getElem? (i := 15) rfl)) (hw _ (List.mem_of_getElem? (i := 3) rfl)) (by decide) (by decide)) (g := (mkF m 111 #[.val (.int (4 : Int32)), .val (.long b), .second] [(.int (2 : Int32)), (.long b), (.int (2 : Int32)), (.ref r), (.ref r)])) rfl (by rw [hml]; rfl) (argsL := [(.long b), (.int (2 : Int32))]) (rest := [(.int (2 : Int32)), (.ref r), (.ref r)]) (lenOf pd_bk rfl) rfl (by show 2 * 0 + _ ≤ _; exact Nat.le_of_eq rfl) (hb hby dmake_111) (fun _ _ => ⟨rfl, e3, (by decide : 1 + 0 ≤ _), (by decide : 5 + 0 ≤ _)⟩)
  dsimp only [Pt.U, Pt.locs, Pt.cells, Pt.slots] at Xc3 lc3 yc3 zc3 stc3 hQc3
  subst lc3 yc3 zc3
  obtain ⟨rfl, Nq3, ec3⟩ := hQc3
  have Nc3 := Fr.app N3 Nq3
  obtain ⟨T4, h4, X4, e4, K4', A4, st4⟩ := own_stB Xc3 hx hZ ec3 (by decide) A3 (i := 2) (by decide) (g := (mkF m 114 #[.val (.int (4 : Int32)), .val (.long b), .second] [(.int (own_bv b (2 : Int32))), (.int (2 : Int32)), (.ref r), (.ref r)])) rfl rfl (hb hby dmake_114)
  have N4 := Fr.snoc X4 Nc3 g_r
  have Z4 : n0 ≤ h4.size := Nat.le_trans Z3 K4'.1
  have K4 : Keep h0 h4 [] := K3.trans K4' (allS (Or.inr (Nat.le_of_eq gr.symm)) all0)
  obtain ⟨_, _, ⟨Tc4, Lc4, kc4, nc4⟩, -, Xc4, ⟨Lcc4, hQc4, lc4, yc4, zc4⟩, stc4⟩ := Jvm.LawKit.callS X4 hx (y := (⟨"com/example/tend/tend/protocol/Utf8TailPinLaw", "bk", "(JI)B"⟩ : MethodName)) hown (mvT hZ (hw _ (List.mem_of_getElem? (i := 13) rfl))) (mvT hZ (hw _ (List.mem_of_getElem? (i := 14) rfl))) (mvT hZ (hw _ (List.mem_of_getElem? (i := 3) rfl))) (mvT hZ (hw _ (List.mem_of_getElem? (i := 15) rfl))) (by decide) (backOf (W := 3) (rmBk l Z a0 hw [] b (3 : Int32) h4 n0 Z4) hZ (hw _ (List.mem_of_getElem? (i := 15) rfl)) (hw _ (List.mem_of_getElem? (i := 3) rfl)) (by decide) (by decide)) (g := (mkF m 119 #[.val (.int (4 : Int32)), .val (.long b), .second] [(.int (3 : Int32)), (.long b), (.int (3 : Int32)), (.ref r), (.ref r)])) rfl (by rw [hml]; rfl) (argsL := [(.long b), (.int (3 : Int32))]) (rest := [(.int (3 : Int32)), (.ref r), (.ref r)]) (lenOf pd_bk rfl) rfl (by show 2 * 0 + _ ≤ _; exact Nat.le_of_eq rfl) (hb hby dmake_119) (fun _ _ => ⟨rfl, e4, (by decide : 1 + 0 ≤ _), (by decide : 5 + 0 ≤ _)⟩)
  dsimp only [Pt.U, Pt.locs, Pt.cells, Pt.slots] at Xc4 lc4 yc4 zc4 stc4 hQc4
  subst lc4 yc4 zc4
  obtain ⟨rfl, Nq4, ec4⟩ := hQc4
  have Nc4 := Fr.app N4 Nq4
  obtain ⟨T5, h5, X5, e5, K5', A5, st5⟩ := own_stB Xc4 hx hZ ec4 (by decide) A4 (i := 3) (by decide) (g := (mkF m 122 #[.val (.int (4 : Int32)), .val (.long b), .second] [(.int (own_bv b (3 : Int32))), (.int (3 : Int32)), (.ref r), (.ref r)])) rfl rfl (hb hby dmake_122)
  have N5 := Fr.snoc X5 Nc4 g_r
  have Z5 : n0 ≤ h5.size := Nat.le_trans Z4 K5'.1
  have K5 : Keep h0 h5 [] := K4.trans K5' (allS (Or.inr (Nat.le_of_eq gr.symm)) all0)
  have AF : own_BA Z h5 r 4 (fun i => own_bv b (Int32.ofNat i)) := A5.fn fun i hi => by
    have hi' : i = 0 ∨ i = 1 ∨ i = 2 ∨ i = 3 := by omega
    rcases hi' with rfl | rfl | rfl | rfl
    · exact own_nar2 _
    · exact own_nar2 _
    · exact own_nar2 _
    · exact own_nar2 _
  obtain ⟨fs, hr, hrun, hended, hW, hsame⟩ := X5.leave (v := some (.ref r)) (fun h => by rw [Bd.returns] at h; cases h)
  refine ⟨_, _, pre0 _ ?_, hrun, hended, _, _, rfl, ⟨r, rfl, N5, g_r, (by show Keep h0 T5.heap []; rw [e5]; exact K5), (by show own_BA Z T5.heap r 4 _; rw [e5]; exact AF)⟩, ⟨_, rfl⟩, hW, hsame.mono (by decide) (by decide)⟩
  show Steps p.tables e below (s₁.setTop (mkF m 0 #[.val (.int (4 : Int32)), .val (.long b), .second] [])) _
  refine XS.iloadN X0.here hx rfl (hb hby dmake_0) rfl ?_
  show Steps p.tables e below (s₁.setTop (mkF m 1 #[.val (.int (4 : Int32)), .val (.long b), .second] [(.int (4 : Int32))])) _
  refine XS.ifYes X0.here hx rfl (pc0 := 1) (pc' := 8) rfl (hb hby dmake_1) rfl ((if0 _ _).trans (feq (by decide : ¬ ((4 : Int32) = (0 : Int32)))).2) (by decide) (by decide) ?_
  show Steps p.tables e below (s₁.setTop (mkF m 8 #[.val (.int (4 : Int32)), .val (.long b), .second] [])) _
  refine XS.iloadN X0.here hx rfl (hb hby dmake_8) rfl ?_
  show Steps p.tables e below (s₁.setTop (mkF m 9 #[.val (.int (4 : Int32)), .val (.long b), .second] [(.int (4 : Int32))])) _
  refine XS.iconst X0.here hx rfl (hb hby dmake_9) ?_
  show Steps p.tables e below (s₁.setTop (mkF m 10 #[.val (.int (4 : Int32)), .val (.long b), .second] [(.int (1 : Int32)), (.int (4 : Int32))])) _
  refine XS.icmpYes X0.here hx rfl (pc0 := 10) (pc' := 25) rfl (hb hby dmake_10) rfl (feq (by decide : ¬ ((4 : Int32) = (1 : Int32)))).2 (by decide) (by decide) ?_
  show Steps p.tables e below (s₁.setTop (mkF m 25 #[.val (.int (4 : Int32)), .val (.long b), .second] [])) _
  refine XS.iloadN X0.here hx rfl (hb hby dmake_25) rfl ?_
  show Steps p.tables e below (s₁.setTop (mkF m 26 #[.val (.int (4 : Int32)), .val (.long b), .second] [(.int (4 : Int32))])) _
  refine XS.iconst X0.here hx rfl (hb hby dmake_26) ?_
  show Steps p.tables e below (s₁.setTop (mkF m 27 #[.val (.int (4 : Int32)), .val (.long b), .second] [(.int (2 : Int32)), (.int (4 : Int32))])) _
  refine XS.icmpYes X0.here hx rfl (pc0 := 27) (pc' := 50) rfl (hb hby dmake_27) rfl (feq (by decide : ¬ ((4 : Int32) = (2 : Int32)))).2 (by decide) (by decide) ?_
  show Steps p.tables e below (s₁.setTop (mkF m 50 #[.val (.int (4 : Int32)), .val (.long b), .second] [])) _
  refine XS.iloadN X0.here hx rfl (hb hby dmake_50) rfl ?_
  show Steps p.tables e below (s₁.setTop (mkF m 51 #[.val (.int (4 : Int32)), .val (.long b), .second] [(.int (4 : Int32))])) _
  refine XS.iconst X0.here hx rfl (hb hby dmake_51) ?_
  show Steps p.tables e below (s₁.setTop (mkF m 52 #[.val (.int (4 : Int32)), .val (.long b), .second] [(.int (3 : Int32)), (.int (4 : Int32))])) _
  refine XS.icmpYes X0.here hx rfl (pc0 := 52) (pc' := 83) rfl (hb hby dmake_52) rfl (feq (by decide : ¬ ((4 : Int32) = (3 : Int32)))).2 (by decide) (by decide) ?_
  show Steps p.tables e below (s₁.setTop (mkF m 83 #[.val (.int (4 : Int32)), .val (.long b), .second] [])) _
  refine XS.iloadN X0.here hx rfl (hb hby dmake_83) rfl ?_
  show Steps p.tables e below (s₁.setTop (mkF m 84 #[.val (.int (4 : Int32)), .val (.long b), .second] [(.int (4 : Int32))])) _
  refine XS.iconst X0.here hx rfl (hb hby dmake_84) ?_
  show Steps p.tables e below (s₁.setTop (mkF m 85 #[.val (.int (4 : Int32)), .val (.long b), .second] [(.int (4 : Int32)), (.int (4 : Int32))])) _
  refine XS.icmpNo X0.here hx rfl (hb hby dmake_85) rfl (teq (by decide : (4 : Int32) = (4 : Int32))).2 ?_
  show Steps p.tables e below (s₁.setTop (mkF m 88 #[.val (.int (4 : Int32)), .val (.long b), .second] [])) _
  refine XS.iconst X0.here hx rfl (hb hby dmake_88) ?_
  refine st1 _ ?_
  show Steps p.tables e below (T1.setTop (mkF m 91 #[.val (.int (4 : Int32)), .val (.long b), .second] [(.ref r)])) _
  refine XS.dup X1.here hx rfl (hb hby dmake_91) rfl rfl ?_
  show Steps p.tables e below (T1.setTop (mkF m 92 #[.val (.int (4 : Int32)), .val (.long b), .second] [(.ref r), (.ref r)])) _
  refine XS.iconst X1.here hx rfl (hb hby dmake_92) ?_
  show Steps p.tables e below (T1.setTop (mkF m 93 #[.val (.int (4 : Int32)), .val (.long b), .second] [(.int (0 : Int32)), (.ref r), (.ref r)])) _
  refine XS.lloadN X1.here hx rfl (hb hby dmake_93) rfl ?_
  show Steps p.tables e below (T1.setTop (mkF m 94 #[.val (.int (4 : Int32)), .val (.long b), .second] [(.long b), (.int (0 : Int32)), (.ref r), (.ref r)])) _
  refine XS.iconst X1.here hx rfl (hb hby dmake_94) ?_
  refine stc1 _ (st2 _ ?_)
  show Steps p.tables e below (T2.setTop (mkF m 99 #[.val (.int (4 : Int32)), .val (.long b), .second] [(.ref r)])) _
  refine XS.dup X2.here hx rfl (hb hby dmake_99) rfl rfl ?_
  show Steps p.tables e below (T2.setTop (mkF m 100 #[.val (.int (4 : Int32)), .val (.long b), .second] [(.ref r), (.ref r)])) _
  refine XS.iconst X2.here hx rfl (hb hby dmake_100) ?_
  show Steps p.tables e below (T2.setTop (mkF m 101 #[.val (.int (4 : Int32)), .val (.long b), .second] [(.int (1 : Int32)), (.ref r), (.ref r)])) _
  refine XS.lloadN X2.here hx rfl (hb hby dmake_101) rfl ?_
  show Steps p.tables e below (T2.setTop (mkF m 102 #[.val (.int (4 : Int32)), .val (.long b), .second] [(.long b), (.int (1 : Int32)), (.ref r), (.ref r)])) _
  refine XS.iconst X2.here hx rfl (hb hby dmake_102) ?_
  refine stc2 _ (st3 _ ?_)
  show Steps p.tables e below (T3.setTop (mkF m 107 #[.val (.int (4 : Int32)), .val (.long b), .second] [(.ref r)])) _
  refine XS.dup X3.here hx rfl (hb hby dmake_107) rfl rfl ?_
  show Steps p.tables e below (T3.setTop (mkF m 108 #[.val (.int (4 : Int32)), .val (.long b), .second] [(.ref r), (.ref r)])) _
  refine XS.iconst X3.here hx rfl (hb hby dmake_108) ?_
  show Steps p.tables e below (T3.setTop (mkF m 109 #[.val (.int (4 : Int32)), .val (.long b), .second] [(.int (2 : Int32)), (.ref r), (.ref r)])) _
  refine XS.lloadN X3.here hx rfl (hb hby dmake_109) rfl ?_
  show Steps p.tables e below (T3.setTop (mkF m 110 #[.val (.int (4 : Int32)), .val (.long b), .second] [(.long b), (.int (2 : Int32)), (.ref r), (.ref r)])) _
  refine XS.iconst X3.here hx rfl (hb hby dmake_110) ?_
  refine stc3 _ (st4 _ ?_)
  show Steps p.tables e below (T4.setTop (mkF m 115 #[.val (.int (4 : Int32)), .val (.long b), .second] [(.ref r)])) _
  refine XS.dup X4.here hx rfl (hb hby dmake_115) rfl rfl ?_
  show Steps p.tables e below (T4.setTop (mkF m 116 #[.val (.int (4 : Int32)), .val (.long b), .second] [(.ref r), (.ref r)])) _
  refine XS.iconst X4.here hx rfl (hb hby dmake_116) ?_
  show Steps p.tables e below (T4.setTop (mkF m 117 #[.val (.int (4 : Int32)), .val (.long b), .second] [(.int (3 : Int32)), (.ref r), (.ref r)])) _
  refine XS.lloadN X4.here hx rfl (hb hby dmake_117) rfl ?_
  show Steps p.tables e below (T4.setTop (mkF m 118 #[.val (.int (4 : Int32)), .val (.long b), .second] [(.long b), (.int (3 : Int32)), (.ref r), (.ref r)])) _
  refine XS.iconst X4.here hx rfl (hb hby dmake_118) ?_
  refine stc4 _ (st5 _ ?_)
  show Steps p.tables e below (T5.setTop (mkF m 123 #[.val (.int (4 : Int32)), .val (.long b), .second] [(.ref r)])) _
  jvm_step X5.here [X5.here.top, hx, (hb hby dmake_123), X5.method', Bd.returns, Value.isRef, FieldType.isReference]
  first | (intro acts; rw [hr _ acts rfl rfl rfl]) | rw [hr _ _ rfl rfl rfl]
  exact Steps.refl _
theorem ef_rmMake5 (m : MethodId) (x0 : Int32) (x1 : Int64) : entryFrame m #[(.int x0), (.long x1)] 3 = (mkF m 0 #[.val (.int x0), .val (.long x1), .second] []) := by first | (simp [entryFrame, mkF, argsToLocals, Value.category]; done) | rfl
set_option maxRecDepth 65536 in
set_option maxHeartbeats 40000000 in
theorem rmMake5 (l : Launch) (Z : State) (a0 : Array Value) (hw : ∀ d ∈ tables_1, d.before a0 Z = true) (ws : List Jvm.Cond) (b : Int64) (h0 : Heap) (n0 : Nat) (Z0 : n0 ≤ h0.size) :
    MetFree l (⟨"com/example/tend/tend/protocol/Utf8TailPinLaw", "make", "(IJ)[B"⟩ : MethodName) (head1 (Jvm.Cond.code (⟨"com/example/tend/tend/protocol/Utf8TailPinLaw", "make", "(IJ)[B"⟩ : MethodName) method_7_code 3 (some (.array .byte)) :: ws) ({ frames := 1, cells := 1, slots := 5, locals := 17 } : Room)) (fun a U => a = #[(.int (5 : Int32)), (.long b)] ∧ Z.Warmed39 U.vm ∧ U.heap = h0) (fun _ _ _ _ _ => True) (fun _ U o U' => ∃ v L, o = .returned v ∧ QM Z b 5 h0 n0 v U'.heap L ∧ FrameEnd U o U' L ({ frames := 1, cells := 1, slots := 5, locals := 17 } : Room).cells ({ frames := 1, cells := 1, slots := 5, locals := 17 } : Room).slots) := by
  refine MetFree.of_bodySF (plainFor_of_name pn_l) hisR ?_
  intro p e s m args below meth c s₁ Bd hml0 hP hK
  obtain ⟨rfl, hZ, hh⟩ := hP
  have hx := Bd.exec
  have hby := Bd.bytes
  have hml : c.maxLocals = 3 := hml0
  have hown : s.vm.findClass "com/example/tend/tend/protocol/Utf8TailPinLaw" = some m.cls := findClass_of_methodNamed Bd.named
  have X0 : Stand p l e ({ frames := 1, cells := 1, slots := 5, locals := 17 } : Room) s m #[(.int (5 : Int32)), (.long b)] below meth c s₁ [] 0 0 := Stand.of_body Bd
  have e0 : s₁.heap = h0 := by rw [← hh, Bd.state]; rfl
  have N0 := Fr.nil n0
  have pre0 : ∀ t, Steps p.tables e below (s₁.setTop (mkF m 0 #[.val (.int (5 : Int32)), .val (.long b), .second] [])) t → Steps p.tables e below (s₁.setTop (entryFrame m #[(.int (5 : Int32)), (.long b)] 3)) t := fun t kq => castTop (ef_rmMake5 m (5 : Int32) b) kq
  obtain ⟨T1, h1, X1, e1, E1, A1, st1⟩ := own_newB X0 hx hZ (hw _ (List.mem_of_getElem? (i := 5) rfl)) e0 (n := 5) (by decide) (g := (mkF m 125 #[.val (.int (5 : Int32)), .val (.long b), .second] [(.int (5 : Int32))])) rfl (hb hby dmake_125) rfl (cap := 5) (by decide) (by decide) (by decide)
  obtain ⟨r, gr⟩ : ∃ z, z = h0.size := ⟨_, rfl⟩
  rw [← gr] at A1 st1
  have g_r : n0 ≤ r := Nat.le_trans Z0 (Nat.le_of_eq gr.symm)
  have Z1 : n0 ≤ h1.size := Nat.le_trans Z0 E1.1
  have K1 : Keep h0 h1 [] := (Keep.refl h0 []).ext E1
  have N1 := N0
  obtain ⟨_, _, ⟨Tc1, Lc1, kc1, nc1⟩, -, Xc1, ⟨Lcc1, hQc1, lc1, yc1, zc1⟩, stc1⟩ := Jvm.LawKit.callS X1 hx (y := (⟨"com/example/tend/tend/protocol/Utf8TailPinLaw", "bk", "(JI)B"⟩ : MethodName)) hown (mvT hZ (hw _ (List.mem_of_getElem? (i := 13) rfl))) (mvT hZ (hw _ (List.mem_of_getElem? (i := 14) rfl))) (mvT hZ (hw _ (List.mem_of_getElem? (i := 3) rfl))) (mvT hZ (hw _ (List.mem_of_getElem? (i := 15) rfl))) (by decide) (backOf (W := 3) (rmBk l Z a0 hw [] b (0 : Int32) h1 n0 Z1) hZ (hw _ (List.mem_of_getElem? (i := 15) rfl)) (hw _ (List.mem_of_getElem? (i := 3) rfl)) (by decide) (by decide)) (g := (mkF m 131 #[.val (.int (5 : Int32)), .val (.long b), .second] [(.int (0 : Int32)), (.long b), (.int (0 : Int32)), (.ref r), (.ref r)])) rfl (by rw [hml]; rfl) (argsL := [(.long b), (.int (0 : Int32))]) (rest := [(.int (0 : Int32)), (.ref r), (.ref r)]) (lenOf pd_bk rfl) rfl (by show 2 * 0 + _ ≤ _; exact Nat.le_of_eq rfl) (hb hby dmake_131) (fun _ _ => ⟨rfl, e1, (by decide : 1 + 0 ≤ _), (by decide : 5 + 0 ≤ _)⟩)
  dsimp only [Pt.U, Pt.locs, Pt.cells, Pt.slots] at Xc1 lc1 yc1 zc1 stc1 hQc1
  subst lc1 yc1 zc1
  obtain ⟨rfl, Nq1, ec1⟩ := hQc1
  have Nc1 := Fr.app N1 Nq1
  obtain ⟨T2, h2, X2, e2, K2', A2, st2⟩ := own_stB Xc1 hx hZ ec1 (by decide) A1 (i := 0) (by decide) (g := (mkF m 134 #[.val (.int (5 : Int32)), .val (.long b), .second] [(.int (own_bv b (0 : Int32))), (.int (0 : Int32)), (.ref r), (.ref r)])) rfl rfl (hb hby dmake_134)
  have N2 := Fr.snoc X2 Nc1 g_r
  have Z2 : n0 ≤ h2.size := Nat.le_trans Z1 K2'.1
  have K2 : Keep h0 h2 [] := K1.trans K2' (allS (Or.inr (Nat.le_of_eq gr.symm)) all0)
  obtain ⟨_, _, ⟨Tc2, Lc2, kc2, nc2⟩, -, Xc2, ⟨Lcc2, hQc2, lc2, yc2, zc2⟩, stc2⟩ := Jvm.LawKit.callS X2 hx (y := (⟨"com/example/tend/tend/protocol/Utf8TailPinLaw", "bk", "(JI)B"⟩ : MethodName)) hown (mvT hZ (hw _ (List.mem_of_getElem? (i := 13) rfl))) (mvT hZ (hw _ (List.mem_of_getElem? (i := 14) rfl))) (mvT hZ (hw _ (List.mem_of_getElem? (i := 3) rfl))) (mvT hZ (hw _ (List.mem_of_getElem? (i := 15) rfl))) (by decide) (backOf (W := 3) (rmBk l Z a0 hw [] b (1 : Int32) h2 n0 Z2) hZ (hw _ (List.mem_of_getElem? (i := 15) rfl)) (hw _ (List.mem_of_getElem? (i := 3) rfl)) (by decide) (by decide)) (g := (mkF m 139 #[.val (.int (5 : Int32)), .val (.long b), .second] [(.int (1 : Int32)), (.long b), (.int (1 : Int32)), (.ref r), (.ref r)])) rfl (by rw [hml]; rfl) (argsL := [(.long b), (.int (1 : Int32))]) (rest := [(.int (1 : Int32)), (.ref r), (.ref r)]) (lenOf pd_bk rfl) rfl (by show 2 * 0 + _ ≤ _; exact Nat.le_of_eq rfl) (hb hby dmake_139) (fun _ _ => ⟨rfl, e2, (by decide : 1 + 0 ≤ _), (by decide : 5 + 0 ≤ _)⟩)
  dsimp only [Pt.U, Pt.locs, Pt.cells, Pt.slots] at Xc2 lc2 yc2 zc2 stc2 hQc2
  subst lc2 yc2 zc2
  obtain ⟨rfl, Nq2, ec2⟩ := hQc2
  have Nc2 := Fr.app N2 Nq2
  obtain ⟨T3, h3, X3, e3, K3', A3, st3⟩ := own_stB Xc2 hx hZ ec2 (by decide) A2 (i := 1) (by decide) (g := (mkF m 142 #[.val (.int (5 : Int32)), .val (.long b), .second] [(.int (own_bv b (1 : Int32))), (.int (1 : Int32)), (.ref r), (.ref r)])) rfl rfl (hb hby dmake_142)
  have N3 := Fr.snoc X3 Nc2 g_r
  have Z3 : n0 ≤ h3.size := Nat.le_trans Z2 K3'.1
  have K3 : Keep h0 h3 [] := K2.trans K3' (allS (Or.inr (Nat.le_of_eq gr.symm)) all0)
  obtain ⟨_, _, ⟨Tc3, Lc3, kc3, nc3⟩, -, Xc3, ⟨Lcc3, hQc3, lc3, yc3, zc3⟩, stc3⟩ := Jvm.LawKit.callS X3 hx (y := (⟨"com/example/tend/tend/protocol/Utf8TailPinLaw", "bk", "(JI)B"⟩ : MethodName)) hown (mvT hZ (hw _ (List.mem_of_getElem? (i := 13) rfl))) (mvT hZ (hw _ (List.mem_of_getElem? (i := 14) rfl))) (mvT hZ (hw _ (List.mem_of_getElem? (i := 3) rfl))) (mvT hZ (hw _ (List.mem_of_getElem? (i := 15) rfl))) (by decide) (backOf (W := 3) (rmBk l Z a0 hw [] b (2 : Int32) h3 n0 Z3) hZ (hw _ (List.mem_of_getElem? (i := 15) rfl)) (hw _ (List.mem_of_getElem? (i := 3) rfl)) (by decide) (by decide)) (g := (mkF m 147 #[.val (.int (5 : Int32)), .val (.long b), .second] [(.int (2 : Int32)), (.long b), (.int (2 : Int32)), (.ref r), (.ref r)])) rfl (by rw [hml]; rfl) (argsL := [(.long b), (.int (2 : Int32))]) (rest := [(.int (2 : Int32)), (.ref r), (.ref r)]) (lenOf pd_bk rfl) rfl (by show 2 * 0 + _ ≤ _; exact Nat.le_of_eq rfl) (hb hby dmake_147) (fun _ _ => ⟨rfl, e3, (by decide : 1 + 0 ≤ _), (by decide : 5 + 0 ≤ _)⟩)
  dsimp only [Pt.U, Pt.locs, Pt.cells, Pt.slots] at Xc3 lc3 yc3 zc3 stc3 hQc3
  subst lc3 yc3 zc3
  obtain ⟨rfl, Nq3, ec3⟩ := hQc3
  have Nc3 := Fr.app N3 Nq3
  obtain ⟨T4, h4, X4, e4, K4', A4, st4⟩ := own_stB Xc3 hx hZ ec3 (by decide) A3 (i := 2) (by decide) (g := (mkF m 150 #[.val (.int (5 : Int32)), .val (.long b), .second] [(.int (own_bv b (2 : Int32))), (.int (2 : Int32)), (.ref r), (.ref r)])) rfl rfl (hb hby dmake_150)
  have N4 := Fr.snoc X4 Nc3 g_r
  have Z4 : n0 ≤ h4.size := Nat.le_trans Z3 K4'.1
  have K4 : Keep h0 h4 [] := K3.trans K4' (allS (Or.inr (Nat.le_of_eq gr.symm)) all0)
  obtain ⟨_, _, ⟨Tc4, Lc4, kc4, nc4⟩, -, Xc4, ⟨Lcc4, hQc4, lc4, yc4, zc4⟩, stc4⟩ := Jvm.LawKit.callS X4 hx (y := (⟨"com/example/tend/tend/protocol/Utf8TailPinLaw", "bk", "(JI)B"⟩ : MethodName)) hown (mvT hZ (hw _ (List.mem_of_getElem? (i := 13) rfl))) (mvT hZ (hw _ (List.mem_of_getElem? (i := 14) rfl))) (mvT hZ (hw _ (List.mem_of_getElem? (i := 3) rfl))) (mvT hZ (hw _ (List.mem_of_getElem? (i := 15) rfl))) (by decide) (backOf (W := 3) (rmBk l Z a0 hw [] b (3 : Int32) h4 n0 Z4) hZ (hw _ (List.mem_of_getElem? (i := 15) rfl)) (hw _ (List.mem_of_getElem? (i := 3) rfl)) (by decide) (by decide)) (g := (mkF m 155 #[.val (.int (5 : Int32)), .val (.long b), .second] [(.int (3 : Int32)), (.long b), (.int (3 : Int32)), (.ref r), (.ref r)])) rfl (by rw [hml]; rfl) (argsL := [(.long b), (.int (3 : Int32))]) (rest := [(.int (3 : Int32)), (.ref r), (.ref r)]) (lenOf pd_bk rfl) rfl (by show 2 * 0 + _ ≤ _; exact Nat.le_of_eq rfl) (hb hby dmake_155) (fun _ _ => ⟨rfl, e4, (by decide : 1 + 0 ≤ _), (by decide : 5 + 0 ≤ _)⟩)
  dsimp only [Pt.U, Pt.locs, Pt.cells, Pt.slots] at Xc4 lc4 yc4 zc4 stc4 hQc4
  subst lc4 yc4 zc4
  obtain ⟨rfl, Nq4, ec4⟩ := hQc4
  have Nc4 := Fr.app N4 Nq4
  obtain ⟨T5, h5, X5, e5, K5', A5, st5⟩ := own_stB Xc4 hx hZ ec4 (by decide) A4 (i := 3) (by decide) (g := (mkF m 158 #[.val (.int (5 : Int32)), .val (.long b), .second] [(.int (own_bv b (3 : Int32))), (.int (3 : Int32)), (.ref r), (.ref r)])) rfl rfl (hb hby dmake_158)
  have N5 := Fr.snoc X5 Nc4 g_r
  have Z5 : n0 ≤ h5.size := Nat.le_trans Z4 K5'.1
  have K5 : Keep h0 h5 [] := K4.trans K5' (allS (Or.inr (Nat.le_of_eq gr.symm)) all0)
  obtain ⟨_, _, ⟨Tc5, Lc5, kc5, nc5⟩, -, Xc5, ⟨Lcc5, hQc5, lc5, yc5, zc5⟩, stc5⟩ := Jvm.LawKit.callS X5 hx (y := (⟨"com/example/tend/tend/protocol/Utf8TailPinLaw", "bk", "(JI)B"⟩ : MethodName)) hown (mvT hZ (hw _ (List.mem_of_getElem? (i := 13) rfl))) (mvT hZ (hw _ (List.mem_of_getElem? (i := 14) rfl))) (mvT hZ (hw _ (List.mem_of_getElem? (i := 3) rfl))) (mvT hZ (hw _ (List.mem_of_getElem? (i := 15) rfl))) (by decide) (backOf (W := 3) (rmBk l Z a0 hw [] b (4 : Int32) h5 n0 Z5) hZ (hw _ (List.mem_of_getElem? (i := 15) rfl)) (hw _ (List.mem_of_getElem? (i := 3) rfl)) (by decide) (by decide)) (g := (mkF m 163 #[.val (.int (5 : Int32)), .val (.long b), .second] [(.int (4 : Int32)), (.long b), (.int (4 : Int32)), (.ref r), (.ref r)])) rfl (by rw [hml]; rfl) (argsL := [(.long b), (.int (4 : Int32))]) (rest := [(.int (4 : Int32)), (.ref r), (.ref r)]) (lenOf pd_bk rfl) rfl (by show 2 * 0 + _ ≤ _; exact Nat.le_of_eq rfl) (hb hby dmake_163) (fun _ _ => ⟨rfl, e5, (by decide : 1 + 0 ≤ _), (by decide : 5 + 0 ≤ _)⟩)
  dsimp only [Pt.U, Pt.locs, Pt.cells, Pt.slots] at Xc5 lc5 yc5 zc5 stc5 hQc5
  subst lc5 yc5 zc5
  obtain ⟨rfl, Nq5, ec5⟩ := hQc5
  have Nc5 := Fr.app N5 Nq5
  obtain ⟨T6, h6, X6, e6, K6', A6, st6⟩ := own_stB Xc5 hx hZ ec5 (by decide) A5 (i := 4) (by decide) (g := (mkF m 166 #[.val (.int (5 : Int32)), .val (.long b), .second] [(.int (own_bv b (4 : Int32))), (.int (4 : Int32)), (.ref r), (.ref r)])) rfl rfl (hb hby dmake_166)
  have N6 := Fr.snoc X6 Nc5 g_r
  have Z6 : n0 ≤ h6.size := Nat.le_trans Z5 K6'.1
  have K6 : Keep h0 h6 [] := K5.trans K6' (allS (Or.inr (Nat.le_of_eq gr.symm)) all0)
  have AF : own_BA Z h6 r 5 (fun i => own_bv b (Int32.ofNat i)) := A6.fn fun i hi => by
    have hi' : i = 0 ∨ i = 1 ∨ i = 2 ∨ i = 3 ∨ i = 4 := by omega
    rcases hi' with rfl | rfl | rfl | rfl | rfl
    · exact own_nar2 _
    · exact own_nar2 _
    · exact own_nar2 _
    · exact own_nar2 _
    · exact own_nar2 _
  obtain ⟨fs, hr, hrun, hended, hW, hsame⟩ := X6.leave (v := some (.ref r)) (fun h => by rw [Bd.returns] at h; cases h)
  refine ⟨_, _, pre0 _ ?_, hrun, hended, _, _, rfl, ⟨r, rfl, N6, g_r, (by show Keep h0 T6.heap []; rw [e6]; exact K6), (by show own_BA Z T6.heap r 5 _; rw [e6]; exact AF)⟩, ⟨_, rfl⟩, hW, hsame.mono (by decide) (by decide)⟩
  show Steps p.tables e below (s₁.setTop (mkF m 0 #[.val (.int (5 : Int32)), .val (.long b), .second] [])) _
  refine XS.iloadN X0.here hx rfl (hb hby dmake_0) rfl ?_
  show Steps p.tables e below (s₁.setTop (mkF m 1 #[.val (.int (5 : Int32)), .val (.long b), .second] [(.int (5 : Int32))])) _
  refine XS.ifYes X0.here hx rfl (pc0 := 1) (pc' := 8) rfl (hb hby dmake_1) rfl ((if0 _ _).trans (feq (by decide : ¬ ((5 : Int32) = (0 : Int32)))).2) (by decide) (by decide) ?_
  show Steps p.tables e below (s₁.setTop (mkF m 8 #[.val (.int (5 : Int32)), .val (.long b), .second] [])) _
  refine XS.iloadN X0.here hx rfl (hb hby dmake_8) rfl ?_
  show Steps p.tables e below (s₁.setTop (mkF m 9 #[.val (.int (5 : Int32)), .val (.long b), .second] [(.int (5 : Int32))])) _
  refine XS.iconst X0.here hx rfl (hb hby dmake_9) ?_
  show Steps p.tables e below (s₁.setTop (mkF m 10 #[.val (.int (5 : Int32)), .val (.long b), .second] [(.int (1 : Int32)), (.int (5 : Int32))])) _
  refine XS.icmpYes X0.here hx rfl (pc0 := 10) (pc' := 25) rfl (hb hby dmake_10) rfl (feq (by decide : ¬ ((5 : Int32) = (1 : Int32)))).2 (by decide) (by decide) ?_
  show Steps p.tables e below (s₁.setTop (mkF m 25 #[.val (.int (5 : Int32)), .val (.long b), .second] [])) _
  refine XS.iloadN X0.here hx rfl (hb hby dmake_25) rfl ?_
  show Steps p.tables e below (s₁.setTop (mkF m 26 #[.val (.int (5 : Int32)), .val (.long b), .second] [(.int (5 : Int32))])) _
  refine XS.iconst X0.here hx rfl (hb hby dmake_26) ?_
  show Steps p.tables e below (s₁.setTop (mkF m 27 #[.val (.int (5 : Int32)), .val (.long b), .second] [(.int (2 : Int32)), (.int (5 : Int32))])) _
  refine XS.icmpYes X0.here hx rfl (pc0 := 27) (pc' := 50) rfl (hb hby dmake_27) rfl (feq (by decide : ¬ ((5 : Int32) = (2 : Int32)))).2 (by decide) (by decide) ?_
  show Steps p.tables e below (s₁.setTop (mkF m 50 #[.val (.int (5 : Int32)), .val (.long b), .second] [])) _
  refine XS.iloadN X0.here hx rfl (hb hby dmake_50) rfl ?_
  show Steps p.tables e below (s₁.setTop (mkF m 51 #[.val (.int (5 : Int32)), .val (.long b), .second] [(.int (5 : Int32))])) _
  refine XS.iconst X0.here hx rfl (hb hby dmake_51) ?_
  show Steps p.tables e below (s₁.setTop (mkF m 52 #[.val (.int (5 : Int32)), .val (.long b), .second] [(.int (3 : Int32)), (.int (5 : Int32))])) _
  refine XS.icmpYes X0.here hx rfl (pc0 := 52) (pc' := 83) rfl (hb hby dmake_52) rfl (feq (by decide : ¬ ((5 : Int32) = (3 : Int32)))).2 (by decide) (by decide) ?_
  show Steps p.tables e below (s₁.setTop (mkF m 83 #[.val (.int (5 : Int32)), .val (.long b), .second] [])) _
  refine XS.iloadN X0.here hx rfl (hb hby dmake_83) rfl ?_
  show Steps p.tables e below (s₁.setTop (mkF m 84 #[.val (.int (5 : Int32)), .val (.long b), .second] [(.int (5 : Int32))])) _
  refine XS.iconst X0.here hx rfl (hb hby dmake_84) ?_
  show Steps p.tables e below (s₁.setTop (mkF m 85 #[.val (.int (5 : Int32)), .val (.long b), .second] [(.int (4 : Int32)), (.int (5 : Int32))])) _
  refine XS.icmpYes X0.here hx rfl (pc0 := 85) (pc' := 124) rfl (hb hby dmake_85) rfl (feq (by decide : ¬ ((5 : Int32) = (4 : Int32)))).2 (by decide) (by decide) ?_
  show Steps p.tables e below (s₁.setTop (mkF m 124 #[.val (.int (5 : Int32)), .val (.long b), .second] [])) _
  refine XS.iconst X0.here hx rfl (hb hby dmake_124) ?_
  refine st1 _ ?_
  show Steps p.tables e below (T1.setTop (mkF m 127 #[.val (.int (5 : Int32)), .val (.long b), .second] [(.ref r)])) _
  refine XS.dup X1.here hx rfl (hb hby dmake_127) rfl rfl ?_
  show Steps p.tables e below (T1.setTop (mkF m 128 #[.val (.int (5 : Int32)), .val (.long b), .second] [(.ref r), (.ref r)])) _
  refine XS.iconst X1.here hx rfl (hb hby dmake_128) ?_
  show Steps p.tables e below (T1.setTop (mkF m 129 #[.val (.int (5 : Int32)), .val (.long b), .second] [(.int (0 : Int32)), (.ref r), (.ref r)])) _
  refine XS.lloadN X1.here hx rfl (hb hby dmake_129) rfl ?_
  show Steps p.tables e below (T1.setTop (mkF m 130 #[.val (.int (5 : Int32)), .val (.long b), .second] [(.long b), (.int (0 : Int32)), (.ref r), (.ref r)])) _
  refine XS.iconst X1.here hx rfl (hb hby dmake_130) ?_
  refine stc1 _ (st2 _ ?_)
  show Steps p.tables e below (T2.setTop (mkF m 135 #[.val (.int (5 : Int32)), .val (.long b), .second] [(.ref r)])) _
  refine XS.dup X2.here hx rfl (hb hby dmake_135) rfl rfl ?_
  show Steps p.tables e below (T2.setTop (mkF m 136 #[.val (.int (5 : Int32)), .val (.long b), .second] [(.ref r), (.ref r)])) _
  refine XS.iconst X2.here hx rfl (hb hby dmake_136) ?_
  show Steps p.tables e below (T2.setTop (mkF m 137 #[.val (.int (5 : Int32)), .val (.long b), .second] [(.int (1 : Int32)), (.ref r), (.ref r)])) _
  refine XS.lloadN X2.here hx rfl (hb hby dmake_137) rfl ?_
  show Steps p.tables e below (T2.setTop (mkF m 138 #[.val (.int (5 : Int32)), .val (.long b), .second] [(.long b), (.int (1 : Int32)), (.ref r), (.ref r)])) _
  refine XS.iconst X2.here hx rfl (hb hby dmake_138) ?_
  refine stc2 _ (st3 _ ?_)
  show Steps p.tables e below (T3.setTop (mkF m 143 #[.val (.int (5 : Int32)), .val (.long b), .second] [(.ref r)])) _
  refine XS.dup X3.here hx rfl (hb hby dmake_143) rfl rfl ?_
  show Steps p.tables e below (T3.setTop (mkF m 144 #[.val (.int (5 : Int32)), .val (.long b), .second] [(.ref r), (.ref r)])) _
  refine XS.iconst X3.here hx rfl (hb hby dmake_144) ?_
  show Steps p.tables e below (T3.setTop (mkF m 145 #[.val (.int (5 : Int32)), .val (.long b), .second] [(.int (2 : Int32)), (.ref r), (.ref r)])) _
  refine XS.lloadN X3.here hx rfl (hb hby dmake_145) rfl ?_
  show Steps p.tables e below (T3.setTop (mkF m 146 #[.val (.int (5 : Int32)), .val (.long b), .second] [(.long b), (.int (2 : Int32)), (.ref r), (.ref r)])) _
  refine XS.iconst X3.here hx rfl (hb hby dmake_146) ?_
  refine stc3 _ (st4 _ ?_)
  show Steps p.tables e below (T4.setTop (mkF m 151 #[.val (.int (5 : Int32)), .val (.long b), .second] [(.ref r)])) _
  refine XS.dup X4.here hx rfl (hb hby dmake_151) rfl rfl ?_
  show Steps p.tables e below (T4.setTop (mkF m 152 #[.val (.int (5 : Int32)), .val (.long b), .second] [(.ref r), (.ref r)])) _
  refine XS.iconst X4.here hx rfl (hb hby dmake_152) ?_
  show Steps p.tables e below (T4.setTop (mkF m 153 #[.val (.int (5 : Int32)), .val (.long b), .second] [(.int (3 : Int32)), (.ref r), (.ref r)])) _
  refine XS.lloadN X4.here hx rfl (hb hby dmake_153) rfl ?_
  show Steps p.tables e below (T4.setTop (mkF m 154 #[.val (.int (5 : Int32)), .val (.long b), .second] [(.long b), (.int (3 : Int32)), (.ref r), (.ref r)])) _
  refine XS.iconst X4.here hx rfl (hb hby dmake_154) ?_
  refine stc4 _ (st5 _ ?_)
  show Steps p.tables e below (T5.setTop (mkF m 159 #[.val (.int (5 : Int32)), .val (.long b), .second] [(.ref r)])) _
  refine XS.dup X5.here hx rfl (hb hby dmake_159) rfl rfl ?_
  show Steps p.tables e below (T5.setTop (mkF m 160 #[.val (.int (5 : Int32)), .val (.long b), .second] [(.ref r), (.ref r)])) _
  refine XS.iconst X5.here hx rfl (hb hby dmake_160) ?_
  show Steps p.tables e below (T5.setTop (mkF m 161 #[.val (.int (5 : Int32)), .val (.long b), .second] [(.int (4 : Int32)), (.ref r), (.ref r)])) _
  refine XS.lloadN X5.here hx rfl (hb hby dmake_161) rfl ?_
  show Steps p.tables e below (T5.setTop (mkF m 162 #[.val (.int (5 : Int32)), .val (.long b), .second] [(.long b), (.int (4 : Int32)), (.ref r), (.ref r)])) _
  refine XS.iconst X5.here hx rfl (hb hby dmake_162) ?_
  refine stc5 _ (st6 _ ?_)
  show Steps p.tables e below (T6.setTop (mkF m 167 #[.val (.int (5 : Int32)), .val (.long b), .second] [(.ref r)])) _
  jvm_step X6.here [X6.here.top, hx, (hb hby dmake_167), X6.method', Bd.returns, Value.isRef, FieldType.isReference]
  first | (intro acts; rw [hr _ acts rfl rfl rfl]) | rw [hr _ _ rfl rfl rfl]
  exact Steps.refl _
theorem own_tab {Z s : State} {a0 args : Array Value} (hw : ∀ d ∈ tables_1, d.before a0 Z = true) (hZ : Z.Warmed39 s.vm) : Jvm.Free.JA.Range0B.tab.before args s = true := by
  have c1 : Jvm.Free.JA.CheckLength.tab.before args s = true := Jvm.Free.XT.unparts (mvT hZ (hw _ (List.mem_of_getElem? (i := 25) rfl))) (fun w hw' => by
    obtain rfl : w = _ := List.mem_singleton.mp hw'
    exact (mvT hZ (hw _ (List.mem_of_getElem? (i := 18) rfl))))
  have c2 : Jvm.Free.JP.Math_min_II.tab.before args s = true := Jvm.Free.XT.unparts (mvT hZ (hw _ (List.mem_of_getElem? (i := 29) rfl))) (fun w hw' => by
    obtain rfl : w = _ := List.mem_singleton.mp hw'
    exact (mvT hZ (hw _ (List.mem_of_getElem? (i := 28) rfl))))
  refine Jvm.Free.XT.unparts (mvT hZ (hw _ (List.mem_of_getElem? (i := 22) rfl))) ?_
  intro w hw'
  have hL : w ∈ ([.initialized "java/util/Arrays", Jvm.Free.JA.CheckLength.tab, .arrayClass .byte, Jvm.Free.JP.Math_min_II.tab, .methodLink "java/util/Arrays" 343 Jvm.Free.JA.CheckLength.yN, .static Jvm.Free.JA.CheckLength.yN, .methodLink "java/util/Arrays" 304 Jvm.Free.JP.Math_min_II.yN, .static Jvm.Free.JP.Math_min_II.yN, .methodLink "java/util/Arrays" 150 Jvm.Stand.acN, .native Jvm.Stand.acN, .static Jvm.Stand.acN, .initialized "java/lang/System"] : List Jvm.Cond) := hw'
  simp only [List.mem_cons, List.not_mem_nil, or_false] at hL
  rcases hL with rfl | rfl | rfl | rfl | rfl | rfl | rfl | rfl | rfl | rfl | rfl | rfl
  · exact (mvT hZ (hw _ (List.mem_of_getElem? (i := 18) rfl)))
  · exact c1
  · exact (mvA hZ (hw _ (List.mem_of_getElem? (i := 5) rfl)))
  · exact c2
  · exact (mvT hZ (hw _ (List.mem_of_getElem? (i := 23) rfl)))
  · exact (mvT hZ (hw _ (List.mem_of_getElem? (i := 24) rfl)))
  · exact (mvT hZ (hw _ (List.mem_of_getElem? (i := 26) rfl)))
  · exact (mvT hZ (hw _ (List.mem_of_getElem? (i := 27) rfl)))
  · exact (mvT hZ (hw _ (List.mem_of_getElem? (i := 30) rfl)))
  · exact (mvT hZ (hw _ (List.mem_of_getElem? (i := 33) rfl)))
  · exact (mvT hZ (hw _ (List.mem_of_getElem? (i := 31) rfl)))
  · exact (mvT hZ (hw _ (List.mem_of_getElem? (i := 32) rfl)))
def QC (Z : State) (n lo : Nat) (f : Nat → Int32) (h0 : Heap) (n0 : Nat) (v : Option Value) (h : Heap) (L : List Loc) : Prop := ∃ r, v = some (.ref r) ∧ Fr n0 L ∧ Keep h0 h [] ∧ own_BA Z h r (n - lo) (fun j => f (lo + j))
theorem ef_rmCor (m : MethodId) (x0 : Addr) (x1 : Int32) (x2 : Int32) : entryFrame m #[(.ref x0), (.int x1), (.int x2)] 3 = (mkF m 0 #[.val (.ref x0), .val (.int x1), .val (.int x2)] []) := by first | (simp [entryFrame, mkF, argsToLocals, Value.category]; done) | rfl
set_option maxRecDepth 65536 in
set_option maxHeartbeats 40000000 in
theorem rmCor (l : Launch) (Z : State) (a0 : Array Value) (hw : ∀ d ∈ tables_1, d.before a0 Z = true) (ws : List Jvm.Cond) (d : Addr) (lo n : Nat) (f : Nat → Int32) (h0 : Heap) (n0 : Nat) (Z0 : n0 ≤ h0.size) (hlo : 0 < lo) (hln : lo ≤ n) (hn : n ≤ 5) (BA : own_BA Z h0 d n f) :
    MetFree l (⟨"java/util/Arrays", "copyOfRange", "([BII)[B"⟩ : MethodName) (head1 (Jvm.Cond.code (⟨"java/util/Arrays", "copyOfRange", "([BII)[B"⟩ : MethodName) jdk_65_method_132_code 3 (some (.array .byte)) :: ws) ({ frames := 2, cells := 1, slots := 5, locals := 56 } : Room)) (fun a U => a = #[(.ref d), (.int (Int32.ofNat lo)), (.int (Int32.ofNat n))] ∧ Z.Warmed39 U.vm ∧ U.heap = h0) (fun _ _ _ _ _ => True) (fun _ U o U' => ∃ v L, o = .returned v ∧ QC Z n lo f h0 n0 v U'.heap L ∧ FrameEnd U o U' L ({ frames := 2, cells := 1, slots := 5, locals := 56 } : Room).cells ({ frames := 2, cells := 1, slots := 5, locals := 56 } : Room).slots) := by
  refine MetFree.of_bodySF (plainFor_of_name pn_a) hisR ?_
  intro p e s m args below meth c s₁ Bd hml0 hP hK
  obtain ⟨rfl, hZ, hh⟩ := hP
  have hx := Bd.exec
  have hby := Bd.bytes
  have hml : c.maxLocals = 3 := hml0
  have hown : s.vm.findClass "java/util/Arrays" = some m.cls := findClass_of_methodNamed Bd.named
  have X0 : Stand p l e ({ frames := 2, cells := 1, slots := 5, locals := 56 } : Room) s m #[(.ref d), (.int (Int32.ofNat lo)), (.int (Int32.ofNat n))] below meth c s₁ [] 0 0 := Stand.of_body Bd
  have e0 : s₁.heap = h0 := by rw [← hh, Bd.state]; rfl
  have N0 := Fr.nil n0
  have pre0 : ∀ t, Steps p.tables e below (s₁.setTop (mkF m 0 #[.val (.ref d), .val (.int (Int32.ofNat lo)), .val (.int (Int32.ofNat n))] [])) t → Steps p.tables e below (s₁.setTop (entryFrame m #[(.ref d), (.int (Int32.ofNat lo)), (.int (Int32.ofNat n))] 3)) t := fun t kq => castTop (ef_rmCor m d (Int32.ofNat lo) (Int32.ofNat n)) kq
  obtain ⟨cl, Ar, q1, S, H, G⟩ := BA
  have hP : ∀ vm₁, s.WarmedH vm₁ → Jvm.Free.JA.Range0B.P d cl lo n #[(.ref d), (.int (Int32.ofNat lo)), (.int (Int32.ofNat n))] (s₁.setVm vm₁) := fun vm₁ hW => ⟨rfl, ⟨by show s₁.heap[d]? = some cl; rw [e0]; exact Ar.1, State.isArrayOf_alike (wtrans (U := s₁.setVm vm₁) hZ hW).alike Ar.2.1, Ar.2.2, by rw [S]; omega⟩, by rw [(wtrans (U := s₁.setVm vm₁) hZ hW).alike.findClass]; exact q1, fun i v hv => by
    have hi : i < n := by rw [← S]; exact (Array.getElem?_eq_some_iff.mp hv).1
    cases (H i hi).symm.trans hv
    exact G i hi, hln, by rw [S]; exact hln, by omega, by omega⟩
  obtain ⟨v5, vm5, ⟨T5, L5, k5, n5⟩, hW5, X5, ⟨hE, p2, p3, p4⟩, st5⟩ := Jvm.LawKit.callS X0 hx (y := Jvm.Free.JA.Range0B.yN) hown (mvT hZ (hw _ (List.mem_of_getElem? (i := 20) rfl))) (mvT hZ (hw _ (List.mem_of_getElem? (i := 21) rfl))) (mvT hZ (hw _ (List.mem_of_getElem? (i := 18) rfl))) (mvT hZ (hw _ (List.mem_of_getElem? (i := 22) rfl))) (by decide) (Jvm.Free.JA.Range0B.pays (l := l) (W := 0) (len := 3) d cl lo n (own_tab hw hZ) (by decide) (by decide)) (g := (mkF m 13 #[.val (.ref d), .val (.int (Int32.ofNat lo)), .val (.int (Int32.ofNat n))] [(.int (Int32.ofNat n)), (.int (Int32.ofNat lo)), (.ref d)])) rfl (by rw [hml]; rfl) (argsL := [(.ref d), (.int (Int32.ofNat lo)), (.int (Int32.ofNat n))]) (rest := []) (lenOf pd_cor rfl) rfl (by show 2 * 0 + _ ≤ _; exact Nat.le_of_eq rfl) (hb hby dcor_13) (fun vm₁ hW => ⟨(by decide : 0 + 1 ≤ _), (by show 0 + (n - lo) ≤ 5; omega), hP vm₁ hW⟩)
  dsimp only [Pt.U, Pt.locs, Pt.cells, Pt.slots] at X5 p2 p3 p4 hE st5
  subst p2 p3 p4
  obtain ⟨rfl, B, b1, b2, b3, b4, b5, b6⟩ := hE
  have hal := (hZ.alike.trans X5.warmed.alike).symm
  have hh5 : (s₁.setVm vm5).heap = h0 := e0
  rw [hh5] at b1 st5
  have BF : own_BA Z T5.heap h0.size (n - lo) (fun j => f (lo + j)) := ⟨B, ⟨b1.1, State.isArrayOf_alike hal b1.2.1, b1.2.2.1⟩, by rw [hal.findClass]; exact b3, b4, fun j hj => by
    rw [b5 j hj]
    have q := H (lo + j) (by omega)
    simp [Array.getD_eq_getD_getElem?, q], fun j hj => G (lo + j) (by omega)⟩
  have K5 : Keep h0 T5.heap [] := (Keep.refl h0 []).ext (own_ext fun a c q => b6 a c (by rw [hh5]; exact q))
  have X6 := X5.more (Nat.le_refl _) (show 0 + (n - lo) ≤ 5 by omega)
  obtain ⟨fs, hr, hrun, hended, hW, hsame⟩ := X6.leave (v := some (.ref h0.size)) (fun h => by rw [Bd.returns] at h; cases h)
  refine ⟨_, _, pre0 _ ?_, hrun, hended, _, _, rfl, ⟨_, rfl, N0, K5, BF⟩, ⟨_, rfl⟩, hW, hsame.mono (by decide) (by decide)⟩
  show Steps p.tables e below (s₁.setTop (mkF m 0 #[.val (.ref d), .val (.int (Int32.ofNat lo)), .val (.int (Int32.ofNat n))] [])) _
  refine XS.iloadN X0.here hx rfl (hb hby dcor_0) rfl ?_
  show Steps p.tables e below (s₁.setTop (mkF m 1 #[.val (.ref d), .val (.int (Int32.ofNat lo)), .val (.int (Int32.ofNat n))] [(.int (Int32.ofNat lo))])) _
  refine XS.ifYes X0.here hx rfl (pc0 := 1) (pc' := 10) rfl (hb hby dcor_1) rfl ((if0 _ _).trans (feq (own_ne (n := 0) (by omega) (by omega) (by decide) : ¬ (Int32.ofNat lo = (0 : Int32)))).2) (by decide) (by decide) ?_
  show Steps p.tables e below (s₁.setTop (mkF m 10 #[.val (.ref d), .val (.int (Int32.ofNat lo)), .val (.int (Int32.ofNat n))] [])) _
  refine XS.aloadN X0.here hx rfl (hb hby dcor_10) rfl rfl ?_
  show Steps p.tables e below (s₁.setTop (mkF m 11 #[.val (.ref d), .val (.int (Int32.ofNat lo)), .val (.int (Int32.ofNat n))] [(.ref d)])) _
  refine XS.iloadN X0.here hx rfl (hb hby dcor_11) rfl ?_
  show Steps p.tables e below (s₁.setTop (mkF m 12 #[.val (.ref d), .val (.int (Int32.ofNat lo)), .val (.int (Int32.ofNat n))] [(.int (Int32.ofNat lo)), (.ref d)])) _
  refine XS.iloadN X0.here hx rfl (hb hby dcor_12) rfl ?_
  refine st5 _ ?_
  show Steps p.tables e below (T5.setTop (mkF m 16 #[.val (.ref d), .val (.int (Int32.ofNat lo)), .val (.int (Int32.ofNat n))] [(.ref h0.size)])) _
  jvm_step X6.here [X6.here.top, hx, (hb hby dcor_16), X6.method', Bd.returns, Value.isRef, FieldType.isReference]
  first | (intro acts; rw [hr _ acts rfl rfl rfl]) | rw [hr _ _ rfl rfl rfl]
  exact Steps.refl _
def own_st (f : Nat → Int32) : Nat → Nat → Nat
  | 0, i => i
  | k + 1, i => if own_c (f i) = true then own_st f k (i + 1) else i
theorem own_st_spec (f : Nat → Int32) : ∀ k i, i ≤ own_st f k i ∧ own_st f k i ≤ i + k ∧ (∀ j, i ≤ j → j < own_st f k i → own_c (f j) = true) ∧ (own_st f k i < i + k → own_c (f (own_st f k i)) = false)
  | 0, i => ⟨Nat.le_refl _, Nat.le_refl _, fun j h1 h2 => absurd h2 (by simp only [own_st]; omega), fun h => absurd h (by simp only [own_st]; omega)⟩
  | k + 1, i => by
    by_cases q : own_c (f i) = true
    · obtain ⟨a, b, c, d⟩ := own_st_spec f k (i + 1)
      have e : own_st f (k + 1) i = own_st f k (i + 1) := by simp only [own_st, if_pos q]
      rw [e]
      refine ⟨by omega, by omega, fun j h1 h2 => ?_, fun h => d (by omega)⟩
      by_cases r : j = i
      · rw [r]; exact q
      · exact c j (by omega) h2
    · have e : own_st f (k + 1) i = i := by simp only [own_st, if_neg q]
      rw [e]
      exact ⟨Nat.le_refl _, by omega, fun j h1 h2 => absurd h2 (by omega), fun _ => by simpa using q⟩
/-- what the law asks of the answer -/
def own_ok (n : Nat) (f : Nat → Int32) (mx rl : Nat) (g : Nat → Int32) : Prop := rl ≤ n ∧ (∀ i, i < rl → g i = f (n - rl + i)) ∧ (n ≤ mx → rl = n) ∧ (mx < n → rl ≤ mx ∧ (0 < rl → own_c (g 0) = false) ∧ ∀ k, n - mx ≤ k → k < n - rl → own_c (f k) = true)
theorem own_okA (n : Nat) (f : Nat → Int32) (mx : Nat) (h : n ≤ mx) : own_ok n f mx n f := ⟨Nat.le_refl _, fun i _ => by rw [Nat.sub_self, Nat.zero_add], fun _ => rfl, fun q => absurd q (by omega)⟩
theorem own_okB (n : Nat) (f : Nat → Int32) (mx : Nat) (h : mx < n) : own_ok n f mx (n - own_st f mx (n - mx)) (fun j => f (own_st f mx (n - mx) + j)) := by
  obtain ⟨a, b, c, d⟩ := own_st_spec f mx (n - mx)
  generalize own_st f mx (n - mx) = t at *
  refine ⟨by omega, fun i hi => ?_, fun q => absurd q (by omega), fun _ => ⟨by omega, fun q => ?_, fun k h1 h2 => c k h1 (by omega)⟩⟩
  · show f (t + i) = f (n - (n - t) + i)
    congr 1; omega
  · exact d (by omega)
def QT (Z : State) (n : Nat) (f : Nat → Int32) (mx : Nat) (h0 : Heap) (n0 : Nat) (v : Option Value) (h : Heap) (L : List Loc) : Prop := ∃ r rl g, v = some (.ref r) ∧ Fr n0 L ∧ Keep h0 h [] ∧ own_BA Z h r rl g ∧ own_ok n f mx rl g
set_option maxRecDepth 65536 in
set_option maxHeartbeats 40000000 in
theorem loopT {p : Program} {l : Launch} {e : Env} {s : State} {m : MethodId} {args : Array Value} {below : List Frame} {meth : Method} {c : Code} {Z : State} {a0 : Array Value} {h0 : Heap} (d : Addr) (mx : Int32) (f : Nat → Int32) (n : Nat) (hn : n ≤ 5) (hx : p.tables.exec = Jvm.exec) (hZ : Z.Warmed39 s.vm) (hw : ∀ d ∈ tables_1, d.before a0 Z = true) (hby : c.code = prog_29_method_4_code) (hml : c.maxLocals = 3) (hown : s.vm.findClass "com/example/tend/tend/protocol/Utf8" = some m.cls) (cl : Cell) (Ar : Arr Z h0 d cl .byte) (S : cl.slots.size = n) (hat : ∀ j, j < n → cl.slots[j]? = some (.int (f j))) (n0 : Nat) (Z0 : n0 ≤ h0.size) :
    ∀ (k i : Nat) (T0 : State) (locs : List Loc), i + k = n → Stand p l e ({ frames := 3, cells := 1, slots := 5, locals := 70 } : Room) s m args below meth c T0 locs 0 0 → Fr n0 locs → T0.heap = h0 →
      ∃ (T' : State) (L' : List Loc), Stand p l e ({ frames := 3, cells := 1, slots := 5, locals := 70 } : Room) s m args below meth c T' L' 0 0 ∧ Fr n0 L' ∧ T'.heap = h0 ∧
        ∀ target, Steps p.tables e below (T'.setTop (mkF m 34 #[.val (.ref d), .val (.int mx), .val (.int (Int32.ofNat (own_st f k i)))] [])) target → Steps p.tables e below (T0.setTop (mkF m 13 #[.val (.ref d), .val (.int mx), .val (.int (Int32.ofNat i))] [])) target := by
  have S1 := own_size S (show n < 2147483648 by omega)
  have M1 := own_nn (show n < 2147483648 by omega)
  intro k
  induction k with
  | zero =>
    intro i T0 locs hi X0 N0 e0
    refine ⟨T0, locs, X0, N0, e0, fun target kt => ?_⟩
    show Steps p.tables e below (T0.setTop (mkF m 13 #[.val (.ref d), .val (.int mx), .val (.int (Int32.ofNat i))] [])) _
    refine XS.iloadN X0.here hx rfl (hb hby dtail_13) rfl ?_
    show Steps p.tables e below (T0.setTop (mkF m 14 #[.val (.ref d), .val (.int mx), .val (.int (Int32.ofNat i))] [(.int (Int32.ofNat i))])) _
    refine XS.aloadN X0.here hx rfl (hb hby dtail_14) rfl rfl ?_
    show Steps p.tables e below (T0.setTop (mkF m 15 #[.val (.ref d), .val (.int mx), .val (.int (Int32.ofNat i))] [(.ref d), (.int (Int32.ofNat i))])) _
    refine X0.arraylength hx (by rw [e0]; exact Ar.1) (State.isArrayOf_alike hZ.alike Ar.2.1) (g := (mkF m 15 #[.val (.ref d), .val (.int mx), .val (.int (Int32.ofNat i))] [(.ref d), (.int (Int32.ofNat i))])) rfl rfl (hb hby dtail_15) _ ?_
    rw [len_of S1 M1]
    show Steps p.tables e below (T0.setTop (mkF m 16 #[.val (.ref d), .val (.int mx), .val (.int (Int32.ofNat i))] [(.int (Int32.ofNat n)), (.int (Int32.ofNat i))])) _
    refine XS.icmpYes X0.here hx rfl (pc0 := 16) (pc' := 34) rfl (hb hby dtail_16) rfl (flt (own_nlt (by omega) (by omega))).2.1 (by decide) (by decide) ?_
    exact kt
  | succ k ih =>
    intro i T0 locs hi X0 N0 e0
    have hin := own_inb S (show n < 2147483648 by omega) (show i < n by omega)
    have hai : cl.slots[(Int32.ofNat i).toNatClampNeg]? = some (.int (f i)) := by rw [own_n32 (by omega)]; exact hat i (by omega)
    obtain ⟨_, _, ⟨T1, L1, k1, n1⟩, -, X1, ⟨Lc1, hQ1, l1, y1, z1⟩, st1⟩ := Jvm.LawKit.callS X0 hx (y := (⟨"com/example/tend/tend/protocol/Utf8", "continues", "(B)Z"⟩ : MethodName)) hown (mvT hZ (hw _ (List.mem_of_getElem? (i := 37) rfl))) (mvT hZ (hw _ (List.mem_of_getElem? (i := 38) rfl))) (mvT hZ (hw _ (List.mem_of_getElem? (i := 8) rfl))) (mvT hZ (hw _ (List.mem_of_getElem? (i := 39) rfl))) (by decide) (backOf (W := 0) (rmConts l Z a0 hw [] (f i) h0 n0 Z0) hZ (hw _ (List.mem_of_getElem? (i := 39) rfl)) (hw _ (List.mem_of_getElem? (i := 8) rfl)) (by decide) (by decide)) (g := (mkF m 22 #[.val (.ref d), .val (.int mx), .val (.int (Int32.ofNat i))] [(.int (f i))])) rfl (by rw [hml]; rfl) (argsL := [(.int (f i))]) (rest := []) (lenOf pd_c rfl) rfl (by show 2 * 0 + _ ≤ _; exact Nat.le_of_eq rfl) (hb hby dtail_22) (fun _ _ => ⟨rfl, e0, (by decide : 0 + 0 ≤ _), (by decide : 0 + 0 ≤ _)⟩)
    dsimp only [Pt.U, Pt.locs, Pt.cells, Pt.slots] at X1 l1 y1 z1 st1 hQ1
    subst l1 y1 z1
    obtain ⟨rfl, Nq, e1⟩ := hQ1
    have N1 := Fr.app N0 Nq
    have pre : ∀ target, Steps p.tables e below (T1.setTop (mkF m 25 #[.val (.ref d), .val (.int mx), .val (.int (Int32.ofNat i))] [(.int (own_z (own_c (f i))))])) target → Steps p.tables e below (T0.setTop (mkF m 13 #[.val (.ref d), .val (.int mx), .val (.int (Int32.ofNat i))] [])) target := by
      intro target kt
      show Steps p.tables e below (T0.setTop (mkF m 13 #[.val (.ref d), .val (.int mx), .val (.int (Int32.ofNat i))] [])) _
      refine XS.iloadN X0.here hx rfl (hb hby dtail_13) rfl ?_
      show Steps p.tables e below (T0.setTop (mkF m 14 #[.val (.ref d), .val (.int mx), .val (.int (Int32.ofNat i))] [(.int (Int32.ofNat i))])) _
      refine XS.aloadN X0.here hx rfl (hb hby dtail_14) rfl rfl ?_
      show Steps p.tables e below (T0.setTop (mkF m 15 #[.val (.ref d), .val (.int mx), .val (.int (Int32.ofNat i))] [(.ref d), (.int (Int32.ofNat i))])) _
      refine X0.arraylength hx (by rw [e0]; exact Ar.1) (State.isArrayOf_alike hZ.alike Ar.2.1) (g := (mkF m 15 #[.val (.ref d), .val (.int mx), .val (.int (Int32.ofNat i))] [(.ref d), (.int (Int32.ofNat i))])) rfl rfl (hb hby dtail_15) _ ?_
      rw [len_of S1 M1]
      show Steps p.tables e below (T0.setTop (mkF m 16 #[.val (.ref d), .val (.int mx), .val (.int (Int32.ofNat i))] [(.int (Int32.ofNat n)), (.int (Int32.ofNat i))])) _
      refine XS.icmpNo X0.here hx rfl (hb hby dtail_16) rfl (tlt (own_lt (show i < n by omega) (by omega))).2.1 ?_
      show Steps p.tables e below (T0.setTop (mkF m 19 #[.val (.ref d), .val (.int mx), .val (.int (Int32.ofNat i))] [])) _
      refine XS.aloadN X0.here hx rfl (hb hby dtail_19) rfl rfl ?_
      show Steps p.tables e below (T0.setTop (mkF m 20 #[.val (.ref d), .val (.int mx), .val (.int (Int32.ofNat i))] [(.ref d)])) _
      refine XS.iloadN X0.here hx rfl (hb hby dtail_20) rfl ?_
      show Steps p.tables e below (T0.setTop (mkF m 21 #[.val (.ref d), .val (.int mx), .val (.int (Int32.ofNat i))] [(.int (Int32.ofNat i)), (.ref d)])) _
      refine X0.baloadBytes hx (j := (Int32.ofNat i)) (v := (.int (f i))) (by rw [e0]; exact Ar.1) (State.isArrayOf_alike hZ.alike Ar.2.1) Ar.2.2 hin hai (g := (mkF m 21 #[.val (.ref d), .val (.int mx), .val (.int (Int32.ofNat i))] [(.int (Int32.ofNat i)), (.ref d)])) rfl rfl (hb hby dtail_21) _ ?_
      exact st1 _ kt
    by_cases q : own_c (f i) = true
    · obtain ⟨T', L', X', N', e', st⟩ := ih (i + 1) T1 _ (by omega) X1 N1 e1
      refine ⟨T', L', X', N', e', fun target kt => pre target ?_⟩
      rw [show own_st f (k + 1) i = own_st f k (i + 1) from by simp only [own_st, if_pos q]] at kt
      rw [show own_z (own_c (f i)) = 1 from by rw [q]; rfl]
      show Steps p.tables e below (T1.setTop (mkF m 25 #[.val (.ref d), .val (.int mx), .val (.int (Int32.ofNat i))] [(.int (1 : Int32))])) _
      refine XS.ifNo X1.here hx rfl (hb hby dtail_25) rfl ((if0 _ _).trans (feq (by decide : ¬ ((1 : Int32) = (0 : Int32)))).1) ?_
      show Steps p.tables e below (T1.setTop (mkF m 28 #[.val (.ref d), .val (.int mx), .val (.int (Int32.ofNat i))] [])) _
      refine XS.iinc X1.here hx rfl (hb hby dtail_28) rfl (l' := #[.val (.ref d), .val (.int mx), .val (.int ((Int32.ofNat i) + (1 : Int32)))]) rfl ?_
      show Steps p.tables e below (T1.setTop (mkF m 31 #[.val (.ref d), .val (.int mx), .val (.int ((Int32.ofNat i) + (1 : Int32)))] [])) _
      refine XS.goto X1.here hx rfl (pc0 := 31) (pc' := 13) rfl (hb hby dtail_31) (by decide) (by decide) ?_
      rw [own_one]
      exact st _ kt
    · refine ⟨T1, _, X1, N1, e1, fun target kt => pre target ?_⟩
      rw [show own_st f (k + 1) i = i from by simp only [own_st, if_neg q]] at kt
      rw [show own_z (own_c (f i)) = 0 from by rw [Bool.eq_false_iff.mpr q]; rfl]
      show Steps p.tables e below (T1.setTop (mkF m 25 #[.val (.ref d), .val (.int mx), .val (.int (Int32.ofNat i))] [(.int (0 : Int32))])) _
      refine XS.ifYes X1.here hx rfl (pc0 := 25) (pc' := 34) rfl (hb hby dtail_25) rfl ((if0 _ _).trans (teq (by decide : (0 : Int32) = (0 : Int32))).1) (by decide) (by decide) ?_
      exact kt
theorem ef_rmTail (m : MethodId) (x0 : Addr) (x1 : Int32) : entryFrame m #[(.ref x0), (.int x1)] 3 = (mkF m 0 #[.val (.ref x0), .val (.int x1), .unset] []) := by first | (simp [entryFrame, mkF, argsToLocals, Value.category]; done) | rfl
set_option maxRecDepth 65536 in
set_option maxHeartbeats 40000000 in
theorem rmTail (l : Launch) (Z : State) (a0 : Array Value) (hw : ∀ d ∈ tables_1, d.before a0 Z = true) (ws : List Jvm.Cond) (d : Addr) (mx n : Nat) (f : Nat → Int32) (h0 : Heap) (n0 : Nat) (Z0 : n0 ≤ h0.size) (hn : n ≤ 5) (hm : mx < 2147483648) (BA : own_BA Z h0 d n f) :
    MetFree l (⟨"com/example/tend/tend/protocol/Utf8", "tail", "([BI)[B"⟩ : MethodName) (head1 (Jvm.Cond.code (⟨"com/example/tend/tend/protocol/Utf8", "tail", "([BI)[B"⟩ : MethodName) prog_29_method_4_code 3 (some (.array .byte)) :: ws) ({ frames := 3, cells := 1, slots := 5, locals := 70 } : Room)) (fun a U => a = #[(.ref d), (.int (Int32.ofNat mx))] ∧ Z.Warmed39 U.vm ∧ U.heap = h0) (fun _ _ _ _ _ => True) (fun _ U o U' => ∃ v L, o = .returned v ∧ QT Z n f mx h0 n0 v U'.heap L ∧ FrameEnd U o U' L ({ frames := 3, cells := 1, slots := 5, locals := 70 } : Room).cells ({ frames := 3, cells := 1, slots := 5, locals := 70 } : Room).slots) := by
  refine MetFree.of_bodySF (plainFor_of_name pn_u) hisR ?_
  intro p e s m args below meth c s₁ Bd hml0 hP hK
  obtain ⟨rfl, hZ, hh⟩ := hP
  have hx := Bd.exec
  have hby := Bd.bytes
  have hml : c.maxLocals = 3 := hml0
  have hown : s.vm.findClass "com/example/tend/tend/protocol/Utf8" = some m.cls := findClass_of_methodNamed Bd.named
  have X0 : Stand p l e ({ frames := 3, cells := 1, slots := 5, locals := 70 } : Room) s m #[(.ref d), (.int (Int32.ofNat mx))] below meth c s₁ [] 0 0 := Stand.of_body Bd
  have e0 : s₁.heap = h0 := by rw [← hh, Bd.state]; rfl
  have N0 := Fr.nil n0
  have pre0 : ∀ t, Steps p.tables e below (s₁.setTop (mkF m 0 #[.val (.ref d), .val (.int (Int32.ofNat mx)), .unset] [])) t → Steps p.tables e below (s₁.setTop (entryFrame m #[(.ref d), (.int (Int32.ofNat mx))] 3)) t := fun t kq => castTop (ef_rmTail m d (Int32.ofNat mx)) kq
  have BA0 := BA
  obtain ⟨cl, Ar, q1, S, H, G⟩ := BA
  have S1 := own_size S (show n < 2147483648 by omega)
  have M1 := own_nn (show n < 2147483648 by omega)
  by_cases hc : mx < n
  · obtain ⟨T1, L1, X1, N1, e1, st1⟩ := loopT d (Int32.ofNat mx) f n hn hx hZ hw hby hml hown cl Ar S H n0 Z0 mx (n - mx) s₁ [] (by omega) X0 N0 e0
    have sp := own_st_spec f mx (n - mx)
    have ok := own_okB n f mx hc
    obtain ⟨t, qt⟩ : ∃ z, z = own_st f mx (n - mx) := ⟨_, rfl⟩
    rw [← qt] at sp ok st1
    obtain ⟨_, _, ⟨T2, L2, k2, n2⟩, -, X2, ⟨Lc2, hQ2, l2, y2, z2⟩, st2⟩ := Jvm.LawKit.callS X1 hx (y := (⟨"java/util/Arrays", "copyOfRange", "([BII)[B"⟩ : MethodName)) hown (mvT hZ (hw _ (List.mem_of_getElem? (i := 16) rfl))) (mvT hZ (hw _ (List.mem_of_getElem? (i := 17) rfl))) (mvT hZ (hw _ (List.mem_of_getElem? (i := 18) rfl))) (mvT hZ (hw _ (List.mem_of_getElem? (i := 19) rfl))) (by decide) (backOf (W := 0) (rmCor l Z a0 hw [] d t n f h0 n0 Z0 (by omega) (by omega) hn BA0) hZ (hw _ (List.mem_of_getElem? (i := 19) rfl)) (hw _ (List.mem_of_getElem? (i := 18) rfl)) (by decide) (by decide)) (g := (mkF m 38 #[.val (.ref d), .val (.int (Int32.ofNat mx)), .val (.int (Int32.ofNat t))] [(.int (Int32.ofNat n)), (.int (Int32.ofNat t)), (.ref d)])) rfl (by rw [hml]; rfl) (argsL := [(.ref d), (.int (Int32.ofNat t)), (.int (Int32.ofNat n))]) (rest := []) (lenOf pd_cor rfl) rfl (by show 2 * 0 + _ ≤ _; exact Nat.le_of_eq rfl) (hb hby dtail_38) (fun _ _ => ⟨rfl, e1, (by decide : 0 + 1 ≤ _), (by decide : 0 + 5 ≤ _)⟩)
    dsimp only [Pt.U, Pt.locs, Pt.cells, Pt.slots] at X2 l2 y2 z2 st2 hQ2
    subst l2 y2 z2
    obtain ⟨r, rfl, Nq, K2, B2⟩ := hQ2
    have N2 := Fr.app N1 Nq
    obtain ⟨fs, hr, hrun, hended, hW, hsame⟩ := X2.leave (v := some (.ref r)) (fun h => by rw [Bd.returns] at h; cases h)
    refine ⟨_, _, pre0 _ ?_, hrun, hended, _, _, rfl, ⟨r, n - t, _, rfl, N2, K2, B2, ok⟩, ⟨_, rfl⟩, hW, hsame.mono (by decide) (by decide)⟩
    show Steps p.tables e below (s₁.setTop (mkF m 0 #[.val (.ref d), .val (.int (Int32.ofNat mx)), .unset] [])) _
    refine XS.aloadN X0.here hx rfl (hb hby dtail_0) rfl rfl ?_
    show Steps p.tables e below (s₁.setTop (mkF m 1 #[.val (.ref d), .val (.int (Int32.ofNat mx)), .unset] [(.ref d)])) _
    refine X0.arraylength hx (by rw [e0]; exact Ar.1) (State.isArrayOf_alike hZ.alike Ar.2.1) (g := (mkF m 1 #[.val (.ref d), .val (.int (Int32.ofNat mx)), .unset] [(.ref d)])) rfl rfl (hb hby dtail_1) _ ?_
    rw [len_of S1 M1]
    show Steps p.tables e below (s₁.setTop (mkF m 2 #[.val (.ref d), .val (.int (Int32.ofNat mx)), .unset] [(.int (Int32.ofNat n))])) _
    refine XS.iloadN X0.here hx rfl (hb hby dtail_2) rfl ?_
    show Steps p.tables e below (s₁.setTop (mkF m 3 #[.val (.ref d), .val (.int (Int32.ofNat mx)), .unset] [(.int (Int32.ofNat mx)), (.int (Int32.ofNat n))])) _
    refine XS.icmpYes X0.here hx rfl (pc0 := 3) (pc' := 8) rfl (hb hby dtail_3) rfl (tlt (own_lt hc (by omega))).2.2.1 (by decide) (by decide) ?_
    show Steps p.tables e below (s₁.setTop (mkF m 8 #[.val (.ref d), .val (.int (Int32.ofNat mx)), .unset] [])) _
    refine XS.aloadN X0.here hx rfl (hb hby dtail_8) rfl rfl ?_
    show Steps p.tables e below (s₁.setTop (mkF m 9 #[.val (.ref d), .val (.int (Int32.ofNat mx)), .unset] [(.ref d)])) _
    refine X0.arraylength hx (by rw [e0]; exact Ar.1) (State.isArrayOf_alike hZ.alike Ar.2.1) (g := (mkF m 9 #[.val (.ref d), .val (.int (Int32.ofNat mx)), .unset] [(.ref d)])) rfl rfl (hb hby dtail_9) _ ?_
    rw [len_of S1 M1]
    show Steps p.tables e below (s₁.setTop (mkF m 10 #[.val (.ref d), .val (.int (Int32.ofNat mx)), .unset] [(.int (Int32.ofNat n))])) _
    refine XS.iloadN X0.here hx rfl (hb hby dtail_10) rfl ?_
    show Steps p.tables e below (s₁.setTop (mkF m 11 #[.val (.ref d), .val (.int (Int32.ofNat mx)), .unset] [(.int (Int32.ofNat mx)), (.int (Int32.ofNat n))])) _
    refine XS.isub X0.here hx rfl (hb hby dtail_11) rfl ?_
    show Steps p.tables e below (s₁.setTop (mkF m 12 #[.val (.ref d), .val (.int (Int32.ofNat mx)), .unset] [(.int (Int32.ofNat n - Int32.ofNat mx))])) _
    rw [own_sub (Nat.le_of_lt hc)]
    show Steps p.tables e below (s₁.setTop (mkF m 12 #[.val (.ref d), .val (.int (Int32.ofNat mx)), .unset] [(.int (Int32.ofNat (n - mx)))])) _
    refine XS.istoreN X0.here hx rfl (hb hby dtail_12) rfl (l' := #[.val (.ref d), .val (.int (Int32.ofNat mx)), .val (.int (Int32.ofNat (n - mx)))]) rfl ?_
    refine st1 _ ?_
    show Steps p.tables e below (T1.setTop (mkF m 34 #[.val (.ref d), .val (.int (Int32.ofNat mx)), .val (.int (Int32.ofNat t))] [])) _
    refine XS.aloadN X1.here hx rfl (hb hby dtail_34) rfl rfl ?_
    show Steps p.tables e below (T1.setTop (mkF m 35 #[.val (.ref d), .val (.int (Int32.ofNat mx)), .val (.int (Int32.ofNat t))] [(.ref d)])) _
    refine XS.iloadN X1.here hx rfl (hb hby dtail_35) rfl ?_
    show Steps p.tables e below (T1.setTop (mkF m 36 #[.val (.ref d), .val (.int (Int32.ofNat mx)), .val (.int (Int32.ofNat t))] [(.int (Int32.ofNat t)), (.ref d)])) _
    refine XS.aloadN X1.here hx rfl (hb hby dtail_36) rfl rfl ?_
    show Steps p.tables e below (T1.setTop (mkF m 37 #[.val (.ref d), .val (.int (Int32.ofNat mx)), .val (.int (Int32.ofNat t))] [(.ref d), (.int (Int32.ofNat t)), (.ref d)])) _
    refine X1.arraylength hx (by rw [e1]; exact Ar.1) (State.isArrayOf_alike hZ.alike Ar.2.1) (g := (mkF m 37 #[.val (.ref d), .val (.int (Int32.ofNat mx)), .val (.int (Int32.ofNat t))] [(.ref d), (.int (Int32.ofNat t)), (.ref d)])) rfl rfl (hb hby dtail_37) _ ?_
    rw [len_of S1 M1]
    refine st2 _ ?_
    show Steps p.tables e below (T2.setTop (mkF m 41 #[.val (.ref d), .val (.int (Int32.ofNat mx)), .val (.int (Int32.ofNat t))] [(.ref r)])) _
    jvm_step X2.here [X2.here.top, hx, (hb hby dtail_41), X2.method', Bd.returns, Value.isRef, FieldType.isReference]
    first | (intro acts; rw [hr _ acts rfl rfl rfl]) | rw [hr _ _ rfl rfl rfl]
    exact Steps.refl _
  · obtain ⟨fs, hr, hrun, hended, hW, hsame⟩ := X0.leave (v := some (.ref d)) (fun h => by rw [Bd.returns] at h; cases h)
    refine ⟨_, _, pre0 _ ?_, hrun, hended, _, _, rfl, ⟨d, n, f, rfl, N0, (by show Keep h0 s₁.heap []; rw [e0]; exact Keep.refl h0 []), (by show own_BA Z s₁.heap d n f; rw [e0]; exact BA0), own_okA n f mx (by omega)⟩, ⟨_, rfl⟩, hW, hsame.mono (by decide) (by decide)⟩
    show Steps p.tables e below (s₁.setTop (mkF m 0 #[.val (.ref d), .val (.int (Int32.ofNat mx)), .unset] [])) _
    refine XS.aloadN X0.here hx rfl (hb hby dtail_0) rfl rfl ?_
    show Steps p.tables e below (s₁.setTop (mkF m 1 #[.val (.ref d), .val (.int (Int32.ofNat mx)), .unset] [(.ref d)])) _
    refine X0.arraylength hx (by rw [e0]; exact Ar.1) (State.isArrayOf_alike hZ.alike Ar.2.1) (g := (mkF m 1 #[.val (.ref d), .val (.int (Int32.ofNat mx)), .unset] [(.ref d)])) rfl rfl (hb hby dtail_1) _ ?_
    rw [len_of S1 M1]
    show Steps p.tables e below (s₁.setTop (mkF m 2 #[.val (.ref d), .val (.int (Int32.ofNat mx)), .unset] [(.int (Int32.ofNat n))])) _
    refine XS.iloadN X0.here hx rfl (hb hby dtail_2) rfl ?_
    show Steps p.tables e below (s₁.setTop (mkF m 3 #[.val (.ref d), .val (.int (Int32.ofNat mx)), .unset] [(.int (Int32.ofNat mx)), (.int (Int32.ofNat n))])) _
    refine XS.icmpNo X0.here hx rfl (hb hby dtail_3) rfl (flt (own_nlt (by omega) hm)).2.2.1 ?_
    show Steps p.tables e below (s₁.setTop (mkF m 6 #[.val (.ref d), .val (.int (Int32.ofNat mx)), .unset] [])) _
    refine XS.aloadN X0.here hx rfl (hb hby dtail_6) rfl rfl ?_
    show Steps p.tables e below (s₁.setTop (mkF m 7 #[.val (.ref d), .val (.int (Int32.ofNat mx)), .unset] [(.ref d)])) _
    jvm_step X0.here [X0.here.top, hx, (hb hby dtail_7), X0.method', Bd.returns, Value.isRef, FieldType.isReference]
    first | (intro acts; rw [hr _ acts rfl rfl rfl]) | rw [hr _ _ rfl rfl rfl]
    exact Steps.refl _
theorem ef_rmSame (m : MethodId) (x0 : Addr) (x1 : Addr) (x2 : Int32) (x3 : Int32) (x4 : Int32) : entryFrame m #[(.ref x0), (.ref x1), (.int x2), (.int x3), (.int x4)] 5 = (mkF m 0 #[.val (.ref x0), .val (.ref x1), .val (.int x2), .val (.int x3), .val (.int x4)] []) := by first | (simp [entryFrame, mkF, argsToLocals, Value.category]; done) | rfl
set_option maxRecDepth 65536 in
set_option maxHeartbeats 40000000 in
theorem rmSame (l : Launch) (Z : State) (a0 : Array Value) (hw : ∀ d ∈ tables_1, d.before a0 Z = true) (ws : List Jvm.Cond) (r d : Addr) (n rl i : Nat) (g f : Nat → Int32) (h0 : Heap) (n0 : Nat) (Z0 : n0 ≤ h0.size) (hn : n ≤ 5) (hi : i ≤ 4) (hrl : rl ≤ n) (hg : ∀ i, i < rl → g i = f (n - rl + i)) (BR : own_BA Z h0 r rl g) (BD : own_BA Z h0 d n f) :
    MetFree l (⟨"com/example/tend/tend/protocol/Utf8TailPinLaw", "same", "([B[BIII)Z"⟩ : MethodName) (head1 (Jvm.Cond.code (⟨"com/example/tend/tend/protocol/Utf8TailPinLaw", "same", "([B[BIII)Z"⟩ : MethodName) method_4_code 5 (some .boolean) :: ws) ({ frames := 0, cells := 0, slots := 0, locals := 0 } : Room)) (fun a U => a = #[(.ref r), (.ref d), (.int (Int32.ofNat n)), (.int (Int32.ofNat rl)), (.int (Int32.ofNat i))] ∧ Z.Warmed39 U.vm ∧ U.heap = h0) (fun _ _ _ _ _ => True) (fun _ U o U' => ∃ v L, o = .returned v ∧ QP 1 h0 n0 v U'.heap L ∧ FrameEnd U o U' L ({ frames := 0, cells := 0, slots := 0, locals := 0 } : Room).cells ({ frames := 0, cells := 0, slots := 0, locals := 0 } : Room).slots) := by
  refine MetFree.of_bodySF (plainFor_of_name pn_l) hisR ?_
  intro p e s m args below meth c s₁ Bd hml0 hP hK
  obtain ⟨rfl, hZ, hh⟩ := hP
  have hx := Bd.exec
  have hby := Bd.bytes
  have hml : c.maxLocals = 5 := hml0
  have hown : s.vm.findClass "com/example/tend/tend/protocol/Utf8TailPinLaw" = some m.cls := findClass_of_methodNamed Bd.named
  have X0 : Stand p l e ({ frames := 0, cells := 0, slots := 0, locals := 0 } : Room) s m #[(.ref r), (.ref d), (.int (Int32.ofNat n)), (.int (Int32.ofNat rl)), (.int (Int32.ofNat i))] below meth c s₁ [] 0 0 := Stand.of_body Bd
  have e0 : s₁.heap = h0 := by rw [← hh, Bd.state]; rfl
  have N0 := Fr.nil n0
  have pre0 : ∀ t, Steps p.tables e below (s₁.setTop (mkF m 0 #[.val (.ref r), .val (.ref d), .val (.int (Int32.ofNat n)), .val (.int (Int32.ofNat rl)), .val (.int (Int32.ofNat i))] [])) t → Steps p.tables e below (s₁.setTop (entryFrame m #[(.ref r), (.ref d), (.int (Int32.ofNat n)), (.int (Int32.ofNat rl)), (.int (Int32.ofNat i))] 5)) t := fun t kq => castTop (ef_rmSame m r d (Int32.ofNat n) (Int32.ofNat rl) (Int32.ofNat i)) kq
  obtain ⟨cr, Ar, q1, Sr, Hr, Gr⟩ := BR
  obtain ⟨cd, Ad, q2, Sd, Hd, Gd⟩ := BD
  obtain ⟨fs, hr, hrun, hended, hW, hsame⟩ := X0.leave (v := some (.int (1 : Int32))) (fun h => by rw [Bd.returns] at h; cases h)
  refine ⟨_, _, pre0 _ ?_, hrun, hended, _, _, rfl, ⟨rfl, N0, e0⟩, ⟨_, rfl⟩, hW, hsame.mono (by decide) (by decide)⟩
  by_cases hc : i < rl
  · have hj : Int32.ofNat n - Int32.ofNat rl + Int32.ofNat i = Int32.ofNat (n - rl + i) := by rw [own_sub hrl, own_add]
    have in1 := own_inb Sr (show rl < 2147483648 by omega) hc
    have at1 : cr.slots[(Int32.ofNat i).toNatClampNeg]? = some (.int (g i)) := by rw [own_n32 (by omega)]; exact Hr i hc
    have in2 : ¬ (Int32.ofNat n - Int32.ofNat rl + Int32.ofNat i < 0 ∨ cd.slots.size ≤ (Int32.ofNat n - Int32.ofNat rl + Int32.ofNat i).toNatClampNeg) := by rw [hj]; exact own_inb Sd (by omega) (by omega)
    have at2 : cd.slots[(Int32.ofNat n - Int32.ofNat rl + Int32.ofNat i).toNatClampNeg]? = some (.int (g i)) := by rw [hj, own_n32 (by omega), hg i hc]; exact Hd _ (by omega)
    show Steps p.tables e below (s₁.setTop (mkF m 0 #[.val (.ref r), .val (.ref d), .val (.int (Int32.ofNat n)), .val (.int (Int32.ofNat rl)), .val (.int (Int32.ofNat i))] [])) _
    refine XS.iload X0.here hx rfl (hb hby dsame_0) rfl ?_
    show Steps p.tables e below (s₁.setTop (mkF m 2 #[.val (.ref r), .val (.ref d), .val (.int (Int32.ofNat n)), .val (.int (Int32.ofNat rl)), .val (.int (Int32.ofNat i))] [(.int (Int32.ofNat i))])) _
    refine XS.iloadN X0.here hx rfl (hb hby dsame_2) rfl ?_
    show Steps p.tables e below (s₁.setTop (mkF m 3 #[.val (.ref r), .val (.ref d), .val (.int (Int32.ofNat n)), .val (.int (Int32.ofNat rl)), .val (.int (Int32.ofNat i))] [(.int (Int32.ofNat rl)), (.int (Int32.ofNat i))])) _
    refine XS.icmpYes X0.here hx rfl (pc0 := 3) (pc' := 8) rfl (hb hby dsame_3) rfl (tlt (own_lt hc (by omega))).1 (by decide) (by decide) ?_
    show Steps p.tables e below (s₁.setTop (mkF m 8 #[.val (.ref r), .val (.ref d), .val (.int (Int32.ofNat n)), .val (.int (Int32.ofNat rl)), .val (.int (Int32.ofNat i))] [])) _
    refine XS.aloadN X0.here hx rfl (hb hby dsame_8) rfl rfl ?_
    show Steps p.tables e below (s₁.setTop (mkF m 9 #[.val (.ref r), .val (.ref d), .val (.int (Int32.ofNat n)), .val (.int (Int32.ofNat rl)), .val (.int (Int32.ofNat i))] [(.ref r)])) _
    refine XS.iload X0.here hx rfl (hb hby dsame_9) rfl ?_
    show Steps p.tables e below (s₁.setTop (mkF m 11 #[.val (.ref r), .val (.ref d), .val (.int (Int32.ofNat n)), .val (.int (Int32.ofNat rl)), .val (.int (Int32.ofNat i))] [(.int (Int32.ofNat i)), (.ref r)])) _
    refine X0.baloadBytes hx (j := (Int32.ofNat i)) (v := (.int (g i))) (by rw [e0]; exact Ar.1) (State.isArrayOf_alike hZ.alike Ar.2.1) Ar.2.2 in1 at1 (g := (mkF m 11 #[.val (.ref r), .val (.ref d), .val (.int (Int32.ofNat n)), .val (.int (Int32.ofNat rl)), .val (.int (Int32.ofNat i))] [(.int (Int32.ofNat i)), (.ref r)])) rfl rfl (hb hby dsame_11) _ ?_
    show Steps p.tables e below (s₁.setTop (mkF m 12 #[.val (.ref r), .val (.ref d), .val (.int (Int32.ofNat n)), .val (.int (Int32.ofNat rl)), .val (.int (Int32.ofNat i))] [(.int (g i))])) _
    refine XS.aloadN X0.here hx rfl (hb hby dsame_12) rfl rfl ?_
    show Steps p.tables e below (s₁.setTop (mkF m 13 #[.val (.ref r), .val (.ref d), .val (.int (Int32.ofNat n)), .val (.int (Int32.ofNat rl)), .val (.int (Int32.ofNat i))] [(.ref d), (.int (g i))])) _
    refine XS.iloadN X0.here hx rfl (hb hby dsame_13) rfl ?_
    show Steps p.tables e below (s₁.setTop (mkF m 14 #[.val (.ref r), .val (.ref d), .val (.int (Int32.ofNat n)), .val (.int (Int32.ofNat rl)), .val (.int (Int32.ofNat i))] [(.int (Int32.ofNat n)), (.ref d), (.int (g i))])) _
    refine XS.iloadN X0.here hx rfl (hb hby dsame_14) rfl ?_
    show Steps p.tables e below (s₁.setTop (mkF m 15 #[.val (.ref r), .val (.ref d), .val (.int (Int32.ofNat n)), .val (.int (Int32.ofNat rl)), .val (.int (Int32.ofNat i))] [(.int (Int32.ofNat rl)), (.int (Int32.ofNat n)), (.ref d), (.int (g i))])) _
    refine XS.isub X0.here hx rfl (hb hby dsame_15) rfl ?_
    show Steps p.tables e below (s₁.setTop (mkF m 16 #[.val (.ref r), .val (.ref d), .val (.int (Int32.ofNat n)), .val (.int (Int32.ofNat rl)), .val (.int (Int32.ofNat i))] [(.int ((Int32.ofNat n) - (Int32.ofNat rl))), (.ref d), (.int (g i))])) _
    refine XS.iload X0.here hx rfl (hb hby dsame_16) rfl ?_
    show Steps p.tables e below (s₁.setTop (mkF m 18 #[.val (.ref r), .val (.ref d), .val (.int (Int32.ofNat n)), .val (.int (Int32.ofNat rl)), .val (.int (Int32.ofNat i))] [(.int (Int32.ofNat i)), (.int ((Int32.ofNat n) - (Int32.ofNat rl))), (.ref d), (.int (g i))])) _
    refine XS.iadd X0.here hx rfl (hb hby dsame_18) rfl ?_
    show Steps p.tables e below (s₁.setTop (mkF m 19 #[.val (.ref r), .val (.ref d), .val (.int (Int32.ofNat n)), .val (.int (Int32.ofNat rl)), .val (.int (Int32.ofNat i))] [(.int (((Int32.ofNat n) - (Int32.ofNat rl)) + (Int32.ofNat i))), (.ref d), (.int (g i))])) _
    refine X0.baloadBytes hx (j := (((Int32.ofNat n) - (Int32.ofNat rl)) + (Int32.ofNat i))) (v := (.int (g i))) (by rw [e0]; exact Ad.1) (State.isArrayOf_alike hZ.alike Ad.2.1) Ad.2.2 in2 at2 (g := (mkF m 19 #[.val (.ref r), .val (.ref d), .val (.int (Int32.ofNat n)), .val (.int (Int32.ofNat rl)), .val (.int (Int32.ofNat i))] [(.int (((Int32.ofNat n) - (Int32.ofNat rl)) + (Int32.ofNat i))), (.ref d), (.int (g i))])) rfl rfl (hb hby dsame_19) _ ?_
    show Steps p.tables e below (s₁.setTop (mkF m 20 #[.val (.ref r), .val (.ref d), .val (.int (Int32.ofNat n)), .val (.int (Int32.ofNat rl)), .val (.int (Int32.ofNat i))] [(.int (g i)), (.int (g i))])) _
    refine XS.icmpNo X0.here hx rfl (hb hby dsame_20) rfl (teq (rfl : g i = g i)).2 ?_
    show Steps p.tables e below (s₁.setTop (mkF m 23 #[.val (.ref r), .val (.ref d), .val (.int (Int32.ofNat n)), .val (.int (Int32.ofNat rl)), .val (.int (Int32.ofNat i))] [])) _
    refine XS.iconst X0.here hx rfl (hb hby dsame_23) ?_
    show Steps p.tables e below (s₁.setTop (mkF m 24 #[.val (.ref r), .val (.ref d), .val (.int (Int32.ofNat n)), .val (.int (Int32.ofNat rl)), .val (.int (Int32.ofNat i))] [(.int (1 : Int32))])) _
    refine XS.goto X0.here hx rfl (pc0 := 24) (pc' := 28) rfl (hb hby dsame_24) (by decide) (by decide) ?_
    exact retN X0 hx (t := .boolean) Bd.returns (by simp) (hb hby dsame_28) hr
  · show Steps p.tables e below (s₁.setTop (mkF m 0 #[.val (.ref r), .val (.ref d), .val (.int (Int32.ofNat n)), .val (.int (Int32.ofNat rl)), .val (.int (Int32.ofNat i))] [])) _
    refine XS.iload X0.here hx rfl (hb hby dsame_0) rfl ?_
    show Steps p.tables e below (s₁.setTop (mkF m 2 #[.val (.ref r), .val (.ref d), .val (.int (Int32.ofNat n)), .val (.int (Int32.ofNat rl)), .val (.int (Int32.ofNat i))] [(.int (Int32.ofNat i))])) _
    refine XS.iloadN X0.here hx rfl (hb hby dsame_2) rfl ?_
    show Steps p.tables e below (s₁.setTop (mkF m 3 #[.val (.ref r), .val (.ref d), .val (.int (Int32.ofNat n)), .val (.int (Int32.ofNat rl)), .val (.int (Int32.ofNat i))] [(.int (Int32.ofNat rl)), (.int (Int32.ofNat i))])) _
    refine XS.icmpNo X0.here hx rfl (hb hby dsame_3) rfl (flt (own_nlt (by omega) (by omega))).1 ?_
    show Steps p.tables e below (s₁.setTop (mkF m 6 #[.val (.ref r), .val (.ref d), .val (.int (Int32.ofNat n)), .val (.int (Int32.ofNat rl)), .val (.int (Int32.ofNat i))] [])) _
    refine XS.iconst X0.here hx rfl (hb hby dsame_6) ?_
    exact retN X0 hx (t := .boolean) Bd.returns (by simp) (hb hby dsame_7) hr
theorem ef_rmSkip (m : MethodId) (x0 : Addr) (x1 : Int32) (x2 : Int32) (x3 : Int32) (x4 : Int32) : entryFrame m #[(.ref x0), (.int x1), (.int x2), (.int x3), (.int x4)] 5 = (mkF m 0 #[.val (.ref x0), .val (.int x1), .val (.int x2), .val (.int x3), .val (.int x4)] []) := by first | (simp [entryFrame, mkF, argsToLocals, Value.category]; done) | rfl
set_option maxRecDepth 65536 in
set_option maxHeartbeats 40000000 in
theorem rmSkip (l : Launch) (Z : State) (a0 : Array Value) (hw : ∀ d ∈ tables_1, d.before a0 Z = true) (ws : List Jvm.Cond) (d : Addr) (n mx rl k : Nat) (f : Nat → Int32) (h0 : Heap) (n0 : Nat) (Z0 : n0 ≤ h0.size) (hn : n ≤ 5) (hk : k ≤ 4) (hm : mx < n) (hrl : rl ≤ n) (hs : ∀ k, n - mx ≤ k → k < n - rl → own_c (f k) = true) (BD : own_BA Z h0 d n f) :
    MetFree l (⟨"com/example/tend/tend/protocol/Utf8TailPinLaw", "skipped", "([BIIII)Z"⟩ : MethodName) (head1 (Jvm.Cond.code (⟨"com/example/tend/tend/protocol/Utf8TailPinLaw", "skipped", "([BIIII)Z"⟩ : MethodName) method_5_code 5 (some .boolean) :: ws) ({ frames := 1, cells := 0, slots := 0, locals := 12 } : Room)) (fun a U => a = #[(.ref d), (.int (Int32.ofNat n)), (.int (Int32.ofNat mx)), (.int (Int32.ofNat rl)), (.int (Int32.ofNat k))] ∧ Z.Warmed39 U.vm ∧ U.heap = h0) (fun _ _ _ _ _ => True) (fun _ U o U' => ∃ v L, o = .returned v ∧ QP 1 h0 n0 v U'.heap L ∧ FrameEnd U o U' L ({ frames := 1, cells := 0, slots := 0, locals := 12 } : Room).cells ({ frames := 1, cells := 0, slots := 0, locals := 12 } : Room).slots) := by
  refine MetFree.of_bodySF (plainFor_of_name pn_l) hisR ?_
  intro p e s m args below meth c s₁ Bd hml0 hP hK
  obtain ⟨rfl, hZ, hh⟩ := hP
  have hx := Bd.exec
  have hby := Bd.bytes
  have hml : c.maxLocals = 5 := hml0
  have hown : s.vm.findClass "com/example/tend/tend/protocol/Utf8TailPinLaw" = some m.cls := findClass_of_methodNamed Bd.named
  have X0 : Stand p l e ({ frames := 1, cells := 0, slots := 0, locals := 12 } : Room) s m #[(.ref d), (.int (Int32.ofNat n)), (.int (Int32.ofNat mx)), (.int (Int32.ofNat rl)), (.int (Int32.ofNat k))] below meth c s₁ [] 0 0 := Stand.of_body Bd
  have e0 : s₁.heap = h0 := by rw [← hh, Bd.state]; rfl
  have N0 := Fr.nil n0
  have pre0 : ∀ t, Steps p.tables e below (s₁.setTop (mkF m 0 #[.val (.ref d), .val (.int (Int32.ofNat n)), .val (.int (Int32.ofNat mx)), .val (.int (Int32.ofNat rl)), .val (.int (Int32.ofNat k))] [])) t → Steps p.tables e below (s₁.setTop (entryFrame m #[(.ref d), (.int (Int32.ofNat n)), (.int (Int32.ofNat mx)), (.int (Int32.ofNat rl)), (.int (Int32.ofNat k))] 5)) t := fun t kq => castTop (ef_rmSkip m d (Int32.ofNat n) (Int32.ofNat mx) (Int32.ofNat rl) (Int32.ofNat k)) kq
  obtain ⟨cd, Ad, q2, Sd, Hd, Gd⟩ := BD
  by_cases c1 : k < n - mx
  · obtain ⟨fs, hr, hrun, hended, hW, hsame⟩ := X0.leave (v := some (.int (1 : Int32))) (fun h => by rw [Bd.returns] at h; cases h)
    refine ⟨_, _, pre0 _ ?_, hrun, hended, _, _, rfl, ⟨rfl, N0, e0⟩, ⟨_, rfl⟩, hW, hsame.mono (by decide) (by decide)⟩
    show Steps p.tables e below (s₁.setTop (mkF m 0 #[.val (.ref d), .val (.int (Int32.ofNat n)), .val (.int (Int32.ofNat mx)), .val (.int (Int32.ofNat rl)), .val (.int (Int32.ofNat k))] [])) _
    refine XS.iload X0.here hx rfl (hb hby dskip_0) rfl ?_
    show Steps p.tables e below (s₁.setTop (mkF m 2 #[.val (.ref d), .val (.int (Int32.ofNat n)), .val (.int (Int32.ofNat mx)), .val (.int (Int32.ofNat rl)), .val (.int (Int32.ofNat k))] [(.int (Int32.ofNat k))])) _
    refine XS.iloadN X0.here hx rfl (hb hby dskip_2) rfl ?_
    show Steps p.tables e below (s₁.setTop (mkF m 3 #[.val (.ref d), .val (.int (Int32.ofNat n)), .val (.int (Int32.ofNat mx)), .val (.int (Int32.ofNat rl)), .val (.int (Int32.ofNat k))] [(.int (Int32.ofNat n)), (.int (Int32.ofNat k))])) _
    refine XS.iloadN X0.here hx rfl (hb hby dskip_3) rfl ?_
    show Steps p.tables e below (s₁.setTop (mkF m 4 #[.val (.ref d), .val (.int (Int32.ofNat n)), .val (.int (Int32.ofNat mx)), .val (.int (Int32.ofNat rl)), .val (.int (Int32.ofNat k))] [(.int (Int32.ofNat mx)), (.int (Int32.ofNat n)), (.int (Int32.ofNat k))])) _
    refine XS.isub X0.here hx rfl (hb hby dskip_4) rfl ?_
    show Steps p.tables e below (s₁.setTop (mkF m 5 #[.val (.ref d), .val (.int (Int32.ofNat n)), .val (.int (Int32.ofNat mx)), .val (.int (Int32.ofNat rl)), .val (.int (Int32.ofNat k))] [(.int ((Int32.ofNat n) - (Int32.ofNat mx))), (.int (Int32.ofNat k))])) _
    refine XS.icmpYes X0.here hx rfl (pc0 := 5) (pc' := 16) rfl (hb hby dskip_5) rfl (tlt (by rw [own_sub (Nat.le_of_lt hm)]; exact own_lt c1 (by omega) : Int32.ofNat k < Int32.ofNat n - Int32.ofNat mx)).1 (by decide) (by decide) ?_
    show Steps p.tables e below (s₁.setTop (mkF m 16 #[.val (.ref d), .val (.int (Int32.ofNat n)), .val (.int (Int32.ofNat mx)), .val (.int (Int32.ofNat rl)), .val (.int (Int32.ofNat k))] [])) _
    refine XS.iconst X0.here hx rfl (hb hby dskip_16) ?_
    exact retN X0 hx (t := .boolean) Bd.returns (by simp) (hb hby dskip_17) hr
  · by_cases c2 : k < n - rl
    · have hin := own_inb Sd (show n < 2147483648 by omega) (show k < n by omega)
      have hat : cd.slots[(Int32.ofNat k).toNatClampNeg]? = some (.int (f k)) := by rw [own_n32 (by omega)]; exact Hd k (by omega)
      obtain ⟨_, _, ⟨T1, L1, k1, n1⟩, -, X1, ⟨Lc1, hQ1, l1, y1, z1⟩, st1⟩ := Jvm.LawKit.callS X0 hx (y := (⟨"com/example/tend/tend/protocol/Utf8TailPinLaw", "cont", "(B)Z"⟩ : MethodName)) hown (mvT hZ (hw _ (List.mem_of_getElem? (i := 40) rfl))) (mvT hZ (hw _ (List.mem_of_getElem? (i := 41) rfl))) (mvT hZ (hw _ (List.mem_of_getElem? (i := 3) rfl))) (mvT hZ (hw _ (List.mem_of_getElem? (i := 42) rfl))) (by decide) (backOf (W := 0) (rmCont l Z a0 hw [] (f k) h0 n0 Z0) hZ (hw _ (List.mem_of_getElem? (i := 42) rfl)) (hw _ (List.mem_of_getElem? (i := 3) rfl)) (by decide) (by decide)) (g := (mkF m 22 #[.val (.ref d), .val (.int (Int32.ofNat n)), .val (.int (Int32.ofNat mx)), .val (.int (Int32.ofNat rl)), .val (.int (Int32.ofNat k))] [(.int (f k))])) rfl (by rw [hml]; rfl) (argsL := [(.int (f k))]) (rest := []) (lenOf pd_c rfl) rfl (by show 2 * 0 + _ ≤ _; exact Nat.le_of_eq rfl) (hb hby dskip_22) (fun _ _ => ⟨rfl, e0, (by decide : 0 + 0 ≤ _), (by decide : 0 + 0 ≤ _)⟩)
      dsimp only [Pt.U, Pt.locs, Pt.cells, Pt.slots] at X1 l1 y1 z1 st1 hQ1
      subst l1 y1 z1
      obtain ⟨rfl, Nq, e1⟩ := hQ1
      have N1 := Fr.app N0 Nq
      have hv : own_z (own_c (f k)) = 1 := by rw [hs k (by omega) c2]; rfl
      obtain ⟨fs, hr, hrun, hended, hW, hsame⟩ := X1.leave (v := some (.int (1 : Int32))) (fun h => by rw [Bd.returns] at h; cases h)
      refine ⟨_, _, pre0 _ ?_, hrun, hended, _, _, rfl, ⟨rfl, N1, e1⟩, ⟨_, rfl⟩, hW, hsame.mono (by decide) (by decide)⟩
      show Steps p.tables e below (s₁.setTop (mkF m 0 #[.val (.ref d), .val (.int (Int32.ofNat n)), .val (.int (Int32.ofNat mx)), .val (.int (Int32.ofNat rl)), .val (.int (Int32.ofNat k))] [])) _
      refine XS.iload X0.here hx rfl (hb hby dskip_0) rfl ?_
      show Steps p.tables e below (s₁.setTop (mkF m 2 #[.val (.ref d), .val (.int (Int32.ofNat n)), .val (.int (Int32.ofNat mx)), .val (.int (Int32.ofNat rl)), .val (.int (Int32.ofNat k))] [(.int (Int32.ofNat k))])) _
      refine XS.iloadN X0.here hx rfl (hb hby dskip_2) rfl ?_
      show Steps p.tables e below (s₁.setTop (mkF m 3 #[.val (.ref d), .val (.int (Int32.ofNat n)), .val (.int (Int32.ofNat mx)), .val (.int (Int32.ofNat rl)), .val (.int (Int32.ofNat k))] [(.int (Int32.ofNat n)), (.int (Int32.ofNat k))])) _
      refine XS.iloadN X0.here hx rfl (hb hby dskip_3) rfl ?_
      show Steps p.tables e below (s₁.setTop (mkF m 4 #[.val (.ref d), .val (.int (Int32.ofNat n)), .val (.int (Int32.ofNat mx)), .val (.int (Int32.ofNat rl)), .val (.int (Int32.ofNat k))] [(.int (Int32.ofNat mx)), (.int (Int32.ofNat n)), (.int (Int32.ofNat k))])) _
      refine XS.isub X0.here hx rfl (hb hby dskip_4) rfl ?_
      show Steps p.tables e below (s₁.setTop (mkF m 5 #[.val (.ref d), .val (.int (Int32.ofNat n)), .val (.int (Int32.ofNat mx)), .val (.int (Int32.ofNat rl)), .val (.int (Int32.ofNat k))] [(.int ((Int32.ofNat n) - (Int32.ofNat mx))), (.int (Int32.ofNat k))])) _
      refine XS.icmpNo X0.here hx rfl (hb hby dskip_5) rfl (flt (by rw [own_sub (Nat.le_of_lt hm)]; exact own_nlt (by omega) (by omega) : ¬ (Int32.ofNat k < Int32.ofNat n - Int32.ofNat mx))).1 ?_
      show Steps p.tables e below (s₁.setTop (mkF m 8 #[.val (.ref d), .val (.int (Int32.ofNat n)), .val (.int (Int32.ofNat mx)), .val (.int (Int32.ofNat rl)), .val (.int (Int32.ofNat k))] [])) _
      refine XS.iload X0.here hx rfl (hb hby dskip_8) rfl ?_
      show Steps p.tables e below (s₁.setTop (mkF m 10 #[.val (.ref d), .val (.int (Int32.ofNat n)), .val (.int (Int32.ofNat mx)), .val (.int (Int32.ofNat rl)), .val (.int (Int32.ofNat k))] [(.int (Int32.ofNat k))])) _
      refine XS.iloadN X0.here hx rfl (hb hby dskip_10) rfl ?_
      show Steps p.tables e below (s₁.setTop (mkF m 11 #[.val (.ref d), .val (.int (Int32.ofNat n)), .val (.int (Int32.ofNat mx)), .val (.int (Int32.ofNat rl)), .val (.int (Int32.ofNat k))] [(.int (Int32.ofNat n)), (.int (Int32.ofNat k))])) _
      refine XS.iloadN X0.here hx rfl (hb hby dskip_11) rfl ?_
      show Steps p.tables e below (s₁.setTop (mkF m 12 #[.val (.ref d), .val (.int (Int32.ofNat n)), .val (.int (Int32.ofNat mx)), .val (.int (Int32.ofNat rl)), .val (.int (Int32.ofNat k))] [(.int (Int32.ofNat rl)), (.int (Int32.ofNat n)), (.int (Int32.ofNat k))])) _
      refine XS.isub X0.here hx rfl (hb hby dskip_12) rfl ?_
      show Steps p.tables e below (s₁.setTop (mkF m 13 #[.val (.ref d), .val (.int (Int32.ofNat n)), .val (.int (Int32.ofNat mx)), .val (.int (Int32.ofNat rl)), .val (.int (Int32.ofNat k))] [(.int ((Int32.ofNat n) - (Int32.ofNat rl))), (.int (Int32.ofNat k))])) _
      refine XS.icmpYes X0.here hx rfl (pc0 := 13) (pc' := 18) rfl (hb hby dskip_13) rfl (tlt (by rw [own_sub hrl]; exact own_lt c2 (by omega) : Int32.ofNat k < Int32.ofNat n - Int32.ofNat rl)).1 (by decide) (by decide) ?_
      show Steps p.tables e below (s₁.setTop (mkF m 18 #[.val (.ref d), .val (.int (Int32.ofNat n)), .val (.int (Int32.ofNat mx)), .val (.int (Int32.ofNat rl)), .val (.int (Int32.ofNat k))] [])) _
      refine XS.aloadN X0.here hx rfl (hb hby dskip_18) rfl rfl ?_
      show Steps p.tables e below (s₁.setTop (mkF m 19 #[.val (.ref d), .val (.int (Int32.ofNat n)), .val (.int (Int32.ofNat mx)), .val (.int (Int32.ofNat rl)), .val (.int (Int32.ofNat k))] [(.ref d)])) _
      refine XS.iload X0.here hx rfl (hb hby dskip_19) rfl ?_
      show Steps p.tables e below (s₁.setTop (mkF m 21 #[.val (.ref d), .val (.int (Int32.ofNat n)), .val (.int (Int32.ofNat mx)), .val (.int (Int32.ofNat rl)), .val (.int (Int32.ofNat k))] [(.int (Int32.ofNat k)), (.ref d)])) _
      refine X0.baloadBytes hx (j := (Int32.ofNat k)) (v := (.int (f k))) (by rw [e0]; exact Ad.1) (State.isArrayOf_alike hZ.alike Ad.2.1) Ad.2.2 hin hat (g := (mkF m 21 #[.val (.ref d), .val (.int (Int32.ofNat n)), .val (.int (Int32.ofNat mx)), .val (.int (Int32.ofNat rl)), .val (.int (Int32.ofNat k))] [(.int (Int32.ofNat k)), (.ref d)])) rfl rfl (hb hby dskip_21) _ ?_
      refine st1 _ ?_
      show Steps p.tables e below (T1.setTop (mkF m 25 #[.val (.ref d), .val (.int (Int32.ofNat n)), .val (.int (Int32.ofNat mx)), .val (.int (Int32.ofNat rl)), .val (.int (Int32.ofNat k))] [(.int (own_z (own_c (f k))))])) _
      rw [hv]
      exact retN X1 hx (t := .boolean) Bd.returns (by simp) (hb hby dskip_25) hr
    · obtain ⟨fs, hr, hrun, hended, hW, hsame⟩ := X0.leave (v := some (.int (1 : Int32))) (fun h => by rw [Bd.returns] at h; cases h)
      refine ⟨_, _, pre0 _ ?_, hrun, hended, _, _, rfl, ⟨rfl, N0, e0⟩, ⟨_, rfl⟩, hW, hsame.mono (by decide) (by decide)⟩
      show Steps p.tables e below (s₁.setTop (mkF m 0 #[.val (.ref d), .val (.int (Int32.ofNat n)), .val (.int (Int32.ofNat mx)), .val (.int (Int32.ofNat rl)), .val (.int (Int32.ofNat k))] [])) _
      refine XS.iload X0.here hx rfl (hb hby dskip_0) rfl ?_
      show Steps p.tables e below (s₁.setTop (mkF m 2 #[.val (.ref d), .val (.int (Int32.ofNat n)), .val (.int (Int32.ofNat mx)), .val (.int (Int32.ofNat rl)), .val (.int (Int32.ofNat k))] [(.int (Int32.ofNat k))])) _
      refine XS.iloadN X0.here hx rfl (hb hby dskip_2) rfl ?_
      show Steps p.tables e below (s₁.setTop (mkF m 3 #[.val (.ref d), .val (.int (Int32.ofNat n)), .val (.int (Int32.ofNat mx)), .val (.int (Int32.ofNat rl)), .val (.int (Int32.ofNat k))] [(.int (Int32.ofNat n)), (.int (Int32.ofNat k))])) _
      refine XS.iloadN X0.here hx rfl (hb hby dskip_3) rfl ?_
      show Steps p.tables e below (s₁.setTop (mkF m 4 #[.val (.ref d), .val (.int (Int32.ofNat n)), .val (.int (Int32.ofNat mx)), .val (.int (Int32.ofNat rl)), .val (.int (Int32.ofNat k))] [(.int (Int32.ofNat mx)), (.int (Int32.ofNat n)), (.int (Int32.ofNat k))])) _
      refine XS.isub X0.here hx rfl (hb hby dskip_4) rfl ?_
      show Steps p.tables e below (s₁.setTop (mkF m 5 #[.val (.ref d), .val (.int (Int32.ofNat n)), .val (.int (Int32.ofNat mx)), .val (.int (Int32.ofNat rl)), .val (.int (Int32.ofNat k))] [(.int ((Int32.ofNat n) - (Int32.ofNat mx))), (.int (Int32.ofNat k))])) _
      refine XS.icmpNo X0.here hx rfl (hb hby dskip_5) rfl (flt (by rw [own_sub (Nat.le_of_lt hm)]; exact own_nlt (by omega) (by omega) : ¬ (Int32.ofNat k < Int32.ofNat n - Int32.ofNat mx))).1 ?_
      show Steps p.tables e below (s₁.setTop (mkF m 8 #[.val (.ref d), .val (.int (Int32.ofNat n)), .val (.int (Int32.ofNat mx)), .val (.int (Int32.ofNat rl)), .val (.int (Int32.ofNat k))] [])) _
      refine XS.iload X0.here hx rfl (hb hby dskip_8) rfl ?_
      show Steps p.tables e below (s₁.setTop (mkF m 10 #[.val (.ref d), .val (.int (Int32.ofNat n)), .val (.int (Int32.ofNat mx)), .val (.int (Int32.ofNat rl)), .val (.int (Int32.ofNat k))] [(.int (Int32.ofNat k))])) _
      refine XS.iloadN X0.here hx rfl (hb hby dskip_10) rfl ?_
      show Steps p.tables e below (s₁.setTop (mkF m 11 #[.val (.ref d), .val (.int (Int32.ofNat n)), .val (.int (Int32.ofNat mx)), .val (.int (Int32.ofNat rl)), .val (.int (Int32.ofNat k))] [(.int (Int32.ofNat n)), (.int (Int32.ofNat k))])) _
      refine XS.iloadN X0.here hx rfl (hb hby dskip_11) rfl ?_
      show Steps p.tables e below (s₁.setTop (mkF m 12 #[.val (.ref d), .val (.int (Int32.ofNat n)), .val (.int (Int32.ofNat mx)), .val (.int (Int32.ofNat rl)), .val (.int (Int32.ofNat k))] [(.int (Int32.ofNat rl)), (.int (Int32.ofNat n)), (.int (Int32.ofNat k))])) _
      refine XS.isub X0.here hx rfl (hb hby dskip_12) rfl ?_
      show Steps p.tables e below (s₁.setTop (mkF m 13 #[.val (.ref d), .val (.int (Int32.ofNat n)), .val (.int (Int32.ofNat mx)), .val (.int (Int32.ofNat rl)), .val (.int (Int32.ofNat k))] [(.int ((Int32.ofNat n) - (Int32.ofNat rl))), (.int (Int32.ofNat k))])) _
      refine XS.icmpNo X0.here hx rfl (hb hby dskip_13) rfl (flt (by rw [own_sub hrl]; exact own_nlt (by omega) (by omega) : ¬ (Int32.ofNat k < Int32.ofNat n - Int32.ofNat rl))).1 ?_
      show Steps p.tables e below (s₁.setTop (mkF m 16 #[.val (.ref d), .val (.int (Int32.ofNat n)), .val (.int (Int32.ofNat mx)), .val (.int (Int32.ofNat rl)), .val (.int (Int32.ofNat k))] [])) _
      refine XS.iconst X0.here hx rfl (hb hby dskip_16) ?_
      exact retN X0 hx (t := .boolean) Bd.returns (by simp) (hb hby dskip_17) hr
theorem pn_0 : plainName "com/example/tend/tend/protocol/Utf8TailPinLaw" = true := by first | (simp [plainName, overriddenIn]; done) | decide +kernel
theorem ef_0 (m : MethodId) (i0 : Int32) (i1 : Int32) (i2 : Int64) : entryFrame m #[(.int i0), (.int i1), (.long i2)] maxLocals = (mkF m 0 #[.val (.int i0), .val (.int i1), .val (.long i2), .second, .unset, .unset, .unset, .unset, .unset, .unset] []) := by first | (simp [entryFrame, mkF, argsToLocals, Value.category, maxLocals]; done) | rfl
def Q0 (n0 : Nat) (v : Option Value) (L : List Loc) : Prop := v = some (.int (1 : Int32)) ∧ Fr n0 L
set_option maxRecDepth 65536 in
set_option maxHeartbeats 40000000 in
theorem rm0 (l : Launch) (Z : State) (a0 : Array Value) (hw : ∀ d ∈ tables_1, d.before a0 Z = true) (ws : List Jvm.Cond) (i0 : Int32) (i1 : Int32) (i2 : Int64) (h0 : Heap) (n0 : Nat) (Z0 : n0 ≤ h0.size) :
    MetFree l x (head1 (Jvm.Cond.code x code maxLocals ret :: ws) room_1) (fun a U => a = #[(.int i0), (.int i1), (.long i2)] ∧ Z.Warmed39 U.vm ∧ U.heap = h0) (fun _ _ _ _ _ => True) (fun _ U o U' => ∃ v L, o = .returned v ∧ Q0 n0 v L ∧ FrameEnd U o U' L room_1.cells room_1.slots) := by
  refine MetFree.of_bodySF (plainFor_of_name pn_0) hisR ?_
  intro p e s m args below meth c s₁ Bd hml0 hP hK
  obtain ⟨rfl, hZ, hh⟩ := hP
  have hx := Bd.exec
  have hby := Bd.bytes
  have hml : c.maxLocals = 10 := hml0
  have hown : s.vm.findClass "com/example/tend/tend/protocol/Utf8TailPinLaw" = some m.cls := findClass_of_methodNamed Bd.named
  have X0 : Stand p l e room_1 s m #[(.int i0), (.int i1), (.long i2)] below meth c s₁ [] 0 0 := Stand.of_body Bd
  have e0 : s₁.heap = h0 := by rw [← hh, Bd.state]; rfl
  have N0 := Fr.nil n0
  have pre0 : ∀ t, Steps p.tables e below (s₁.setTop (mkF m 0 #[.val (.int i0), .val (.int i1), .val (.long i2), .second, .unset, .unset, .unset, .unset, .unset, .unset] [])) t → Steps p.tables e below (s₁.setTop (entryFrame m #[(.int i0), (.int i1), (.long i2)] maxLocals)) t := fun t k => castTop (ef_0 m i0 i1 i2) k
  obtain ⟨n, hn, qn⟩ := own_rem6 i0
  obtain ⟨mx, hm, qm⟩ := own_mx_nat i1
  have st0 : ∀ target, Steps p.tables e below (s₁.setTop (mkF m 28 #[.val (.int i0), .val (.int i1), .val (.long i2), .second, .val (.int (Int32.ofNat n)), .val (.int (Int32.ofNat mx)), .unset, .unset, .unset, .unset] [])) target → Steps p.tables e below (s₁.setTop (mkF m 0 #[.val (.int i0), .val (.int i1), .val (.long i2), .second, .unset, .unset, .unset, .unset, .unset, .unset] [])) target := by
    intro target kt
    show Steps p.tables e below (s₁.setTop (mkF m 0 #[.val (.int i0), .val (.int i1), .val (.long i2), .second, .unset, .unset, .unset, .unset, .unset, .unset] [])) _
    refine XS.iloadN X0.here hx rfl (hb hby at_0) rfl ?_
    show Steps p.tables e below (s₁.setTop (mkF m 1 #[.val (.int i0), .val (.int i1), .val (.long i2), .second, .unset, .unset, .unset, .unset, .unset, .unset] [(.int i0)])) _
    refine X0.ldcInt hx hown (mvT hZ (hw _ (List.mem_of_getElem? (i := 0) rfl))) (g := (mkF m 1 #[.val (.int i0), .val (.int i1), .val (.long i2), .second, .unset, .unset, .unset, .unset, .unset, .unset] [(.int i0)])) rfl (hb hby at_1) _ ?_
    show Steps p.tables e below (s₁.setTop (mkF m 3 #[.val (.int i0), .val (.int i1), .val (.long i2), .second, .unset, .unset, .unset, .unset, .unset, .unset] [(.int (2147483647 : Int32)), (.int i0)])) _
    refine XS.iand X0.here hx rfl (hb hby at_3) rfl ?_
    show Steps p.tables e below (s₁.setTop (mkF m 4 #[.val (.int i0), .val (.int i1), .val (.long i2), .second, .unset, .unset, .unset, .unset, .unset, .unset] [(.int (i0 &&& (2147483647 : Int32)))])) _
    refine XS.bipush X0.here hx rfl (hb hby at_4) ?_
    refine iremM X0 hx rfl (hb hby at_6) rfl (by decide) ?_
    show Steps p.tables e below (s₁.setTop (mkF m 7 #[.val (.int i0), .val (.int i1), .val (.long i2), .second, .unset, .unset, .unset, .unset, .unset, .unset] [(.int ((i0 &&& (2147483647 : Int32)) % (6 : Int32)))])) _
    rw [qn]
    show Steps p.tables e below (s₁.setTop (mkF m 7 #[.val (.int i0), .val (.int i1), .val (.long i2), .second, .unset, .unset, .unset, .unset, .unset, .unset] [(.int (Int32.ofNat n))])) _
    refine XS.istore X0.here hx rfl (hb hby at_7) rfl (l' := #[.val (.int i0), .val (.int i1), .val (.long i2), .second, .val (.int (Int32.ofNat n)), .unset, .unset, .unset, .unset, .unset]) rfl ?_
    show Steps p.tables e below (s₁.setTop (mkF m 9 #[.val (.int i0), .val (.int i1), .val (.long i2), .second, .val (.int (Int32.ofNat n)), .unset, .unset, .unset, .unset, .unset] [])) _
    refine XS.iloadN X0.here hx rfl (hb hby at_9) rfl ?_
    show Steps p.tables e below (s₁.setTop (mkF m 10 #[.val (.int i0), .val (.int i1), .val (.long i2), .second, .val (.int (Int32.ofNat n)), .unset, .unset, .unset, .unset, .unset] [(.int i1)])) _
    refine XS.bipush X0.here hx rfl (hb hby at_10) ?_
    show Steps p.tables e below (s₁.setTop (mkF m 12 #[.val (.int i0), .val (.int i1), .val (.long i2), .second, .val (.int (Int32.ofNat n)), .unset, .unset, .unset, .unset, .unset] [(.int (16 : Int32)), (.int i1)])) _
    refine XS.iand X0.here hx rfl (hb hby at_12) rfl ?_
    show Steps p.tables e below (s₁.setTop (mkF m 13 #[.val (.int i0), .val (.int i1), .val (.long i2), .second, .val (.int (Int32.ofNat n)), .unset, .unset, .unset, .unset, .unset] [(.int (i1 &&& (16 : Int32)))])) _
    by_cases hc13 : (i1 &&& (16 : Int32)) = (0 : Int32)
    · refine XS.ifYes X0.here hx rfl (pc0 := 13) (pc' := 22) rfl (hb hby at_13) rfl ((if0 _ _).trans (teq hc13).1) (by decide) (by decide) ?_
      show Steps p.tables e below (s₁.setTop (mkF m 22 #[.val (.int i0), .val (.int i1), .val (.long i2), .second, .val (.int (Int32.ofNat n)), .unset, .unset, .unset, .unset, .unset] [])) _
      refine XS.iloadN X0.here hx rfl (hb hby at_22) rfl ?_
      show Steps p.tables e below (s₁.setTop (mkF m 23 #[.val (.int i0), .val (.int i1), .val (.long i2), .second, .val (.int (Int32.ofNat n)), .unset, .unset, .unset, .unset, .unset] [(.int i1)])) _
      refine XS.bipush X0.here hx rfl (hb hby at_23) ?_
      show Steps p.tables e below (s₁.setTop (mkF m 25 #[.val (.int i0), .val (.int i1), .val (.long i2), .second, .val (.int (Int32.ofNat n)), .unset, .unset, .unset, .unset, .unset] [(.int (7 : Int32)), (.int i1)])) _
      refine XS.iand X0.here hx rfl (hb hby at_25) rfl ?_
      show Steps p.tables e below (s₁.setTop (mkF m 26 #[.val (.int i0), .val (.int i1), .val (.long i2), .second, .val (.int (Int32.ofNat n)), .unset, .unset, .unset, .unset, .unset] [(.int (i1 &&& (7 : Int32)))])) _
      refine XS.istore X0.here hx rfl (hb hby at_26) rfl (l' := #[.val (.int i0), .val (.int i1), .val (.long i2), .second, .val (.int (Int32.ofNat n)), .val (.int (i1 &&& (7 : Int32))), .unset, .unset, .unset, .unset]) rfl ?_
      rw [← qm, show own_mx i1 = (i1 &&& (7 : Int32)) from by simp only [own_mx, if_pos hc13]] at kt
      exact kt
    · refine XS.ifNo X0.here hx rfl (hb hby at_13) rfl ((if0 _ _).trans (feq hc13).1) ?_
      show Steps p.tables e below (s₁.setTop (mkF m 16 #[.val (.int i0), .val (.int i1), .val (.long i2), .second, .val (.int (Int32.ofNat n)), .unset, .unset, .unset, .unset, .unset] [])) _
      refine XS.iloadN X0.here hx rfl (hb hby at_16) rfl ?_
      show Steps p.tables e below (s₁.setTop (mkF m 17 #[.val (.int i0), .val (.int i1), .val (.long i2), .second, .val (.int (Int32.ofNat n)), .unset, .unset, .unset, .unset, .unset] [(.int i1)])) _
      refine XS.iconst X0.here hx rfl (hb hby at_17) ?_
      show Steps p.tables e below (s₁.setTop (mkF m 18 #[.val (.int i0), .val (.int i1), .val (.long i2), .second, .val (.int (Int32.ofNat n)), .unset, .unset, .unset, .unset, .unset] [(.int (1 : Int32)), (.int i1)])) _
      refine XS.iushr X0.here hx rfl (hb hby at_18) rfl ?_
      show Steps p.tables e below (s₁.setTop (mkF m 19 #[.val (.int i0), .val (.int i1), .val (.long i2), .second, .val (.int (Int32.ofNat n)), .unset, .unset, .unset, .unset, .unset] [(.int ((i1.toUInt32 >>> ((1 : Int32) &&& 31).toUInt32).toInt32))])) _
      refine XS.goto X0.here hx rfl (pc0 := 19) (pc' := 26) rfl (hb hby at_19) (by decide) (by decide) ?_
      show Steps p.tables e below (s₁.setTop (mkF m 26 #[.val (.int i0), .val (.int i1), .val (.long i2), .second, .val (.int (Int32.ofNat n)), .unset, .unset, .unset, .unset, .unset] [(.int ((i1.toUInt32 >>> ((1 : Int32) &&& 31).toUInt32).toInt32))])) _
      refine XS.istore X0.here hx rfl (hb hby at_26) rfl (l' := #[.val (.int i0), .val (.int i1), .val (.long i2), .second, .val (.int (Int32.ofNat n)), .val (.int ((i1.toUInt32 >>> ((1 : Int32) &&& 31).toUInt32).toInt32)), .unset, .unset, .unset, .unset]) rfl ?_
      rw [← qm, show own_mx i1 = ((i1.toUInt32 >>> ((1 : Int32) &&& 31).toUInt32).toInt32) from by simp only [own_mx, if_neg hc13]] at kt
      exact kt
  have hn' : n = 0 ∨ n = 1 ∨ n = 2 ∨ n = 3 ∨ n = 4 ∨ n = 5 := by omega
  have hmake : MetFree l (⟨"com/example/tend/tend/protocol/Utf8TailPinLaw", "make", "(IJ)[B"⟩ : MethodName) (head1 [Jvm.Cond.code (⟨"com/example/tend/tend/protocol/Utf8TailPinLaw", "make", "(IJ)[B"⟩ : MethodName) method_7_code 3 (some (.array .byte))] ({ frames := 1, cells := 1, slots := 5, locals := 17 } : Room)) (fun a U => a = #[(.int (Int32.ofNat n)), (.long i2)] ∧ Z.Warmed39 U.vm ∧ U.heap = h0) (fun _ _ _ _ _ => True) (fun _ U o U' => ∃ v L, o = .returned v ∧ QM Z i2 n h0 n0 v U'.heap L ∧ FrameEnd U o U' L ({ frames := 1, cells := 1, slots := 5, locals := 17 } : Room).cells ({ frames := 1, cells := 1, slots := 5, locals := 17 } : Room).slots) := by
    rcases hn' with rfl | rfl | rfl | rfl | rfl | rfl
    · exact rmMake0 l Z a0 hw [] i2 h0 n0 Z0
    · exact rmMake1 l Z a0 hw [] i2 h0 n0 Z0
    · exact rmMake2 l Z a0 hw [] i2 h0 n0 Z0
    · exact rmMake3 l Z a0 hw [] i2 h0 n0 Z0
    · exact rmMake4 l Z a0 hw [] i2 h0 n0 Z0
    · exact rmMake5 l Z a0 hw [] i2 h0 n0 Z0
  obtain ⟨_, _, ⟨T1, L1, k1, n1⟩, -, X1, ⟨Lc1, hQ1, l1, y1, z1⟩, st1⟩ := Jvm.LawKit.callS X0 hx (y := (⟨"com/example/tend/tend/protocol/Utf8TailPinLaw", "make", "(IJ)[B"⟩ : MethodName)) hown (mvT hZ (hw _ (List.mem_of_getElem? (i := 1) rfl))) (mvT hZ (hw _ (List.mem_of_getElem? (i := 2) rfl))) (mvT hZ (hw _ (List.mem_of_getElem? (i := 3) rfl))) (mvT hZ (hw _ (List.mem_of_getElem? (i := 4) rfl))) (by decide) (backOf (W := 0) (hmake) hZ (hw _ (List.mem_of_getElem? (i := 4) rfl)) (hw _ (List.mem_of_getElem? (i := 3) rfl)) (by decide) (by decide)) (g := (mkF m 31 #[.val (.int i0), .val (.int i1), .val (.long i2), .second, .val (.int (Int32.ofNat n)), .val (.int (Int32.ofNat mx)), .unset, .unset, .unset, .unset] [(.long i2), (.int (Int32.ofNat n))])) rfl (by rw [hml]; rfl) (argsL := [(.int (Int32.ofNat n)), (.long i2)]) (rest := []) (lenOf pd_make rfl) rfl (by show 2 * 0 + _ ≤ _; exact Nat.le_of_eq rfl) (hb hby at_31) (fun _ _ => ⟨rfl, e0, (by decide : 0 + 1 ≤ _), (by decide : 0 + 5 ≤ _)⟩)
  dsimp only [Pt.U, Pt.locs, Pt.cells, Pt.slots] at X1 l1 y1 z1 st1 hQ1
  subst l1 y1 z1
  obtain ⟨d, rfl, N1q, g_d, K1, B1⟩ := hQ1
  have N1 := Fr.app N0 N1q
  have Z1 : n0 ≤ T1.heap.size := Nat.le_trans Z0 K1.1
  obtain ⟨f, qf⟩ : ∃ f : Nat → Int32, f = fun i => own_bv i2 (Int32.ofNat i) := ⟨_, rfl⟩
  rw [← qf] at B1
  obtain ⟨_, _, ⟨T2, L2, k2, n2⟩, -, X2, ⟨Lc2, hQ2, l2, y2, z2⟩, st2⟩ := Jvm.LawKit.callS X1 hx (y := (⟨"com/example/tend/tend/protocol/Utf8", "tail", "([BI)[B"⟩ : MethodName)) hown (mvT hZ (hw _ (List.mem_of_getElem? (i := 6) rfl))) (mvT hZ (hw _ (List.mem_of_getElem? (i := 7) rfl))) (mvT hZ (hw _ (List.mem_of_getElem? (i := 8) rfl))) (mvT hZ (hw _ (List.mem_of_getElem? (i := 9) rfl))) (by decide) (backOf (W := 0) (rmTail l Z a0 hw [] d mx n f T1.heap n0 Z1 hn hm B1) hZ (hw _ (List.mem_of_getElem? (i := 9) rfl)) (hw _ (List.mem_of_getElem? (i := 8) rfl)) (by decide) (by decide)) (g := (mkF m 40 #[.val (.int i0), .val (.int i1), .val (.long i2), .second, .val (.int (Int32.ofNat n)), .val (.int (Int32.ofNat mx)), .val (.ref d), .unset, .unset, .unset] [(.int (Int32.ofNat mx)), (.ref d)])) rfl (by rw [hml]; rfl) (argsL := [(.ref d), (.int (Int32.ofNat mx))]) (rest := []) (lenOf pd_tail rfl) rfl (by show 2 * 0 + _ ≤ _; exact Nat.le_of_eq rfl) (hb hby at_40) (fun _ _ => ⟨rfl, rfl, (by decide : 1 + 1 ≤ _), (by decide : 5 + 5 ≤ _)⟩)
  dsimp only [Pt.U, Pt.locs, Pt.cells, Pt.slots] at X2 l2 y2 z2 st2 hQ2
  subst l2 y2 z2
  obtain ⟨r, rl, g, rfl, N2q, K2, B2, ok⟩ := hQ2
  have N2 := Fr.app N1 N2q
  have Z2 : n0 ≤ T2.heap.size := Nat.le_trans Z1 K2.1
  have D2 : own_BA Z T2.heap d n f := B1.keep K2 nin0
  obtain ⟨ok1, ok2, ok3, ok4⟩ := ok
  obtain ⟨h2, e2⟩ : ∃ h2, T2.heap = h2 := ⟨_, rfl⟩
  rw [e2] at B2 D2 Z2
  obtain ⟨_, _, ⟨Ts0, Ls0, ks0, ns0⟩, -, Xs0, ⟨Lcs0, hQs0, ls0, ys0, zs0⟩, sts0⟩ := Jvm.LawKit.callS X2 hx (y := (⟨"com/example/tend/tend/protocol/Utf8TailPinLaw", "same", "([B[BIII)Z"⟩ : MethodName)) hown (mvT hZ (hw _ (List.mem_of_getElem? (i := 10) rfl))) (mvT hZ (hw _ (List.mem_of_getElem? (i := 11) rfl))) (mvT hZ (hw _ (List.mem_of_getElem? (i := 3) rfl))) (mvT hZ (hw _ (List.mem_of_getElem? (i := 12) rfl))) (by decide) (backOf (W := 0) (rmSame l Z a0 hw [] r d n rl 0 g f h2 n0 Z2 hn (by decide) ok1 ok2 B2 D2) hZ (hw _ (List.mem_of_getElem? (i := 12) rfl)) (hw _ (List.mem_of_getElem? (i := 3) rfl)) (by decide) (by decide)) (g := (mkF m 75 #[.val (.int i0), .val (.int i1), .val (.long i2), .second, .val (.int (Int32.ofNat n)), .val (.int (Int32.ofNat mx)), .val (.ref d), .val (.ref r), .val (.int (Int32.ofNat rl)), .unset] [(.int (0 : Int32)), (.int (Int32.ofNat rl)), (.int (Int32.ofNat n)), (.ref d), (.ref r)])) rfl (by rw [hml]; rfl) (argsL := [(.ref r), (.ref d), (.int (Int32.ofNat n)), (.int (Int32.ofNat rl)), (.int (0 : Int32))]) (rest := []) (lenOf pd_same rfl) rfl (by show 2 * 0 + _ ≤ _; exact Nat.le_of_eq rfl) (hb hby at_75) (fun _ _ => ⟨rfl, e2, (by decide : 2 + 0 ≤ _), (by decide : 10 + 0 ≤ _)⟩)
  dsimp only [Pt.U, Pt.locs, Pt.cells, Pt.slots] at Xs0 ls0 ys0 zs0 sts0 hQs0
  subst ls0 ys0 zs0
  obtain ⟨rfl, Ns0q, es0⟩ := hQs0
  have Ns0 := Fr.app N2 Ns0q
  obtain ⟨_, _, ⟨Ts1, Ls1, ks1, ns1⟩, -, Xs1, ⟨Lcs1, hQs1, ls1, ys1, zs1⟩, sts1⟩ := Jvm.LawKit.callS Xs0 hx (y := (⟨"com/example/tend/tend/protocol/Utf8TailPinLaw", "same", "([B[BIII)Z"⟩ : MethodName)) hown (mvT hZ (hw _ (List.mem_of_getElem? (i := 10) rfl))) (mvT hZ (hw _ (List.mem_of_getElem? (i := 11) rfl))) (mvT hZ (hw _ (List.mem_of_getElem? (i := 3) rfl))) (mvT hZ (hw _ (List.mem_of_getElem? (i := 12) rfl))) (by decide) (backOf (W := 0) (rmSame l Z a0 hw [] r d n rl 1 g f h2 n0 Z2 hn (by decide) ok1 ok2 B2 D2) hZ (hw _ (List.mem_of_getElem? (i := 12) rfl)) (hw _ (List.mem_of_getElem? (i := 3) rfl)) (by decide) (by decide)) (g := (mkF m 90 #[.val (.int i0), .val (.int i1), .val (.long i2), .second, .val (.int (Int32.ofNat n)), .val (.int (Int32.ofNat mx)), .val (.ref d), .val (.ref r), .val (.int (Int32.ofNat rl)), .unset] [(.int (1 : Int32)), (.int (Int32.ofNat rl)), (.int (Int32.ofNat n)), (.ref d), (.ref r)])) rfl (by rw [hml]; rfl) (argsL := [(.ref r), (.ref d), (.int (Int32.ofNat n)), (.int (Int32.ofNat rl)), (.int (1 : Int32))]) (rest := []) (lenOf pd_same rfl) rfl (by show 2 * 0 + _ ≤ _; exact Nat.le_of_eq rfl) (hb hby at_90) (fun _ _ => ⟨rfl, es0, (by decide : 2 + 0 ≤ _), (by decide : 10 + 0 ≤ _)⟩)
  dsimp only [Pt.U, Pt.locs, Pt.cells, Pt.slots] at Xs1 ls1 ys1 zs1 sts1 hQs1
  subst ls1 ys1 zs1
  obtain ⟨rfl, Ns1q, es1⟩ := hQs1
  have Ns1 := Fr.app Ns0 Ns1q
  obtain ⟨_, _, ⟨Ts2, Ls2, ks2, ns2⟩, -, Xs2, ⟨Lcs2, hQs2, ls2, ys2, zs2⟩, sts2⟩ := Jvm.LawKit.callS Xs1 hx (y := (⟨"com/example/tend/tend/protocol/Utf8TailPinLaw", "same", "([B[BIII)Z"⟩ : MethodName)) hown (mvT hZ (hw _ (List.mem_of_getElem? (i := 10) rfl))) (mvT hZ (hw _ (List.mem_of_getElem? (i := 11) rfl))) (mvT hZ (hw _ (List.mem_of_getElem? (i := 3) rfl))) (mvT hZ (hw _ (List.mem_of_getElem? (i := 12) rfl))) (by decide) (backOf (W := 0) (rmSame l Z a0 hw [] r d n rl 2 g f h2 n0 Z2 hn (by decide) ok1 ok2 B2 D2) hZ (hw _ (List.mem_of_getElem? (i := 12) rfl)) (hw _ (List.mem_of_getElem? (i := 3) rfl)) (by decide) (by decide)) (g := (mkF m 105 #[.val (.int i0), .val (.int i1), .val (.long i2), .second, .val (.int (Int32.ofNat n)), .val (.int (Int32.ofNat mx)), .val (.ref d), .val (.ref r), .val (.int (Int32.ofNat rl)), .unset] [(.int (2 : Int32)), (.int (Int32.ofNat rl)), (.int (Int32.ofNat n)), (.ref d), (.ref r)])) rfl (by rw [hml]; rfl) (argsL := [(.ref r), (.ref d), (.int (Int32.ofNat n)), (.int (Int32.ofNat rl)), (.int (2 : Int32))]) (rest := []) (lenOf pd_same rfl) rfl (by show 2 * 0 + _ ≤ _; exact Nat.le_of_eq rfl) (hb hby at_105) (fun _ _ => ⟨rfl, es1, (by decide : 2 + 0 ≤ _), (by decide : 10 + 0 ≤ _)⟩)
  dsimp only [Pt.U, Pt.locs, Pt.cells, Pt.slots] at Xs2 ls2 ys2 zs2 sts2 hQs2
  subst ls2 ys2 zs2
  obtain ⟨rfl, Ns2q, es2⟩ := hQs2
  have Ns2 := Fr.app Ns1 Ns2q
  obtain ⟨_, _, ⟨Ts3, Ls3, ks3, ns3⟩, -, Xs3, ⟨Lcs3, hQs3, ls3, ys3, zs3⟩, sts3⟩ := Jvm.LawKit.callS Xs2 hx (y := (⟨"com/example/tend/tend/protocol/Utf8TailPinLaw", "same", "([B[BIII)Z"⟩ : MethodName)) hown (mvT hZ (hw _ (List.mem_of_getElem? (i := 10) rfl))) (mvT hZ (hw _ (List.mem_of_getElem? (i := 11) rfl))) (mvT hZ (hw _ (List.mem_of_getElem? (i := 3) rfl))) (mvT hZ (hw _ (List.mem_of_getElem? (i := 12) rfl))) (by decide) (backOf (W := 0) (rmSame l Z a0 hw [] r d n rl 3 g f h2 n0 Z2 hn (by decide) ok1 ok2 B2 D2) hZ (hw _ (List.mem_of_getElem? (i := 12) rfl)) (hw _ (List.mem_of_getElem? (i := 3) rfl)) (by decide) (by decide)) (g := (mkF m 120 #[.val (.int i0), .val (.int i1), .val (.long i2), .second, .val (.int (Int32.ofNat n)), .val (.int (Int32.ofNat mx)), .val (.ref d), .val (.ref r), .val (.int (Int32.ofNat rl)), .unset] [(.int (3 : Int32)), (.int (Int32.ofNat rl)), (.int (Int32.ofNat n)), (.ref d), (.ref r)])) rfl (by rw [hml]; rfl) (argsL := [(.ref r), (.ref d), (.int (Int32.ofNat n)), (.int (Int32.ofNat rl)), (.int (3 : Int32))]) (rest := []) (lenOf pd_same rfl) rfl (by show 2 * 0 + _ ≤ _; exact Nat.le_of_eq rfl) (hb hby at_120) (fun _ _ => ⟨rfl, es2, (by decide : 2 + 0 ≤ _), (by decide : 10 + 0 ≤ _)⟩)
  dsimp only [Pt.U, Pt.locs, Pt.cells, Pt.slots] at Xs3 ls3 ys3 zs3 sts3 hQs3
  subst ls3 ys3 zs3
  obtain ⟨rfl, Ns3q, es3⟩ := hQs3
  have Ns3 := Fr.app Ns2 Ns3q
  obtain ⟨_, _, ⟨Ts4, Ls4, ks4, ns4⟩, -, Xs4, ⟨Lcs4, hQs4, ls4, ys4, zs4⟩, sts4⟩ := Jvm.LawKit.callS Xs3 hx (y := (⟨"com/example/tend/tend/protocol/Utf8TailPinLaw", "same", "([B[BIII)Z"⟩ : MethodName)) hown (mvT hZ (hw _ (List.mem_of_getElem? (i := 10) rfl))) (mvT hZ (hw _ (List.mem_of_getElem? (i := 11) rfl))) (mvT hZ (hw _ (List.mem_of_getElem? (i := 3) rfl))) (mvT hZ (hw _ (List.mem_of_getElem? (i := 12) rfl))) (by decide) (backOf (W := 0) (rmSame l Z a0 hw [] r d n rl 4 g f h2 n0 Z2 hn (by decide) ok1 ok2 B2 D2) hZ (hw _ (List.mem_of_getElem? (i := 12) rfl)) (hw _ (List.mem_of_getElem? (i := 3) rfl)) (by decide) (by decide)) (g := (mkF m 135 #[.val (.int i0), .val (.int i1), .val (.long i2), .second, .val (.int (Int32.ofNat n)), .val (.int (Int32.ofNat mx)), .val (.ref d), .val (.ref r), .val (.int (Int32.ofNat rl)), .unset] [(.int (4 : Int32)), (.int (Int32.ofNat rl)), (.int (Int32.ofNat n)), (.ref d), (.ref r)])) rfl (by rw [hml]; rfl) (argsL := [(.ref r), (.ref d), (.int (Int32.ofNat n)), (.int (Int32.ofNat rl)), (.int (4 : Int32))]) (rest := []) (lenOf pd_same rfl) rfl (by show 2 * 0 + _ ≤ _; exact Nat.le_of_eq rfl) (hb hby at_135) (fun _ _ => ⟨rfl, es3, (by decide : 2 + 0 ≤ _), (by decide : 10 + 0 ≤ _)⟩)
  dsimp only [Pt.U, Pt.locs, Pt.cells, Pt.slots] at Xs4 ls4 ys4 zs4 sts4 hQs4
  subst ls4 ys4 zs4
  obtain ⟨rfl, Ns4q, es4⟩ := hQs4
  have Ns4 := Fr.app Ns3 Ns4q
  obtain ⟨cr, Arr1, q1, Sr, Hr, Gr⟩ := B2
  have S1 := own_size Sr (show rl < 2147483648 by omega)
  have M1 := own_nn (show rl < 2147483648 by omega)
  have sa : ∀ target, Steps p.tables e below (Ts4.setTop (mkF m 155 #[.val (.int i0), .val (.int i1), .val (.long i2), .second, .val (.int (Int32.ofNat n)), .val (.int (Int32.ofNat mx)), .val (.ref d), .val (.ref r), .val (.int (Int32.ofNat rl)), .val (.int (1 : Int32))] [])) target → Steps p.tables e below (T2.setTop (mkF m 43 #[.val (.int i0), .val (.int i1), .val (.long i2), .second, .val (.int (Int32.ofNat n)), .val (.int (Int32.ofNat mx)), .val (.ref d), .unset, .unset, .unset] [(.ref r)])) target := by
    intro target kt
    show Steps p.tables e below (T2.setTop (mkF m 43 #[.val (.int i0), .val (.int i1), .val (.long i2), .second, .val (.int (Int32.ofNat n)), .val (.int (Int32.ofNat mx)), .val (.ref d), .unset, .unset, .unset] [(.ref r)])) _
    refine XS.astore X2.here hx rfl (hb hby at_43) rfl rfl (l' := #[.val (.int i0), .val (.int i1), .val (.long i2), .second, .val (.int (Int32.ofNat n)), .val (.int (Int32.ofNat mx)), .val (.ref d), .val (.ref r), .unset, .unset]) rfl ?_
    show Steps p.tables e below (T2.setTop (mkF m 45 #[.val (.int i0), .val (.int i1), .val (.long i2), .second, .val (.int (Int32.ofNat n)), .val (.int (Int32.ofNat mx)), .val (.ref d), .val (.ref r), .unset, .unset] [])) _
    refine XS.aload X2.here hx rfl (hb hby at_45) rfl rfl ?_
    refine XS.ifnonnullYes X2.here hx rfl (pc0 := 47) (pc' := 52) rfl (hb hby at_47) rfl (by decide) (by decide) ?_
    show Steps p.tables e below (T2.setTop (mkF m 52 #[.val (.int i0), .val (.int i1), .val (.long i2), .second, .val (.int (Int32.ofNat n)), .val (.int (Int32.ofNat mx)), .val (.ref d), .val (.ref r), .unset, .unset] [])) _
    refine XS.aload X2.here hx rfl (hb hby at_52) rfl rfl ?_
    show Steps p.tables e below (T2.setTop (mkF m 54 #[.val (.int i0), .val (.int i1), .val (.long i2), .second, .val (.int (Int32.ofNat n)), .val (.int (Int32.ofNat mx)), .val (.ref d), .val (.ref r), .unset, .unset] [(.ref r)])) _
    refine X2.arraylength hx (by rw [e2]; exact Arr1.1) (State.isArrayOf_alike hZ.alike Arr1.2.1) (g := (mkF m 54 #[.val (.int i0), .val (.int i1), .val (.long i2), .second, .val (.int (Int32.ofNat n)), .val (.int (Int32.ofNat mx)), .val (.ref d), .val (.ref r), .unset, .unset] [(.ref r)])) rfl rfl (hb hby at_54) _ ?_
    rw [len_of S1 M1]
    show Steps p.tables e below (T2.setTop (mkF m 55 #[.val (.int i0), .val (.int i1), .val (.long i2), .second, .val (.int (Int32.ofNat n)), .val (.int (Int32.ofNat mx)), .val (.ref d), .val (.ref r), .unset, .unset] [(.int (Int32.ofNat rl))])) _
    refine XS.istore X2.here hx rfl (hb hby at_55) rfl (l' := #[.val (.int i0), .val (.int i1), .val (.long i2), .second, .val (.int (Int32.ofNat n)), .val (.int (Int32.ofNat mx)), .val (.ref d), .val (.ref r), .val (.int (Int32.ofNat rl)), .unset]) rfl ?_
    show Steps p.tables e below (T2.setTop (mkF m 57 #[.val (.int i0), .val (.int i1), .val (.long i2), .second, .val (.int (Int32.ofNat n)), .val (.int (Int32.ofNat mx)), .val (.ref d), .val (.ref r), .val (.int (Int32.ofNat rl)), .unset] [])) _
    refine XS.iload X2.here hx rfl (hb hby at_57) rfl ?_
    show Steps p.tables e below (T2.setTop (mkF m 59 #[.val (.int i0), .val (.int i1), .val (.long i2), .second, .val (.int (Int32.ofNat n)), .val (.int (Int32.ofNat mx)), .val (.ref d), .val (.ref r), .val (.int (Int32.ofNat rl)), .unset] [(.int (Int32.ofNat rl))])) _
    refine XS.iload X2.here hx rfl (hb hby at_59) rfl ?_
    show Steps p.tables e below (T2.setTop (mkF m 61 #[.val (.int i0), .val (.int i1), .val (.long i2), .second, .val (.int (Int32.ofNat n)), .val (.int (Int32.ofNat mx)), .val (.ref d), .val (.ref r), .val (.int (Int32.ofNat rl)), .unset] [(.int (Int32.ofNat n)), (.int (Int32.ofNat rl))])) _
    refine XS.icmpYes X2.here hx rfl (pc0 := 61) (pc' := 66) rfl (hb hby at_61) rfl (flt (own_nlt ok1 (by omega))).2.2.2 (by decide) (by decide) ?_
    show Steps p.tables e below (T2.setTop (mkF m 66 #[.val (.int i0), .val (.int i1), .val (.long i2), .second, .val (.int (Int32.ofNat n)), .val (.int (Int32.ofNat mx)), .val (.ref d), .val (.ref r), .val (.int (Int32.ofNat rl)), .unset] [])) _
    refine XS.aload X2.here hx rfl (hb hby at_66) rfl rfl ?_
    show Steps p.tables e below (T2.setTop (mkF m 68 #[.val (.int i0), .val (.int i1), .val (.long i2), .second, .val (.int (Int32.ofNat n)), .val (.int (Int32.ofNat mx)), .val (.ref d), .val (.ref r), .val (.int (Int32.ofNat rl)), .unset] [(.ref r)])) _
    refine XS.aload X2.here hx rfl (hb hby at_68) rfl rfl ?_
    show Steps p.tables e below (T2.setTop (mkF m 70 #[.val (.int i0), .val (.int i1), .val (.long i2), .second, .val (.int (Int32.ofNat n)), .val (.int (Int32.ofNat mx)), .val (.ref d), .val (.ref r), .val (.int (Int32.ofNat rl)), .unset] [(.ref d), (.ref r)])) _
    refine XS.iload X2.here hx rfl (hb hby at_70) rfl ?_
    show Steps p.tables e below (T2.setTop (mkF m 72 #[.val (.int i0), .val (.int i1), .val (.long i2), .second, .val (.int (Int32.ofNat n)), .val (.int (Int32.ofNat mx)), .val (.ref d), .val (.ref r), .val (.int (Int32.ofNat rl)), .unset] [(.int (Int32.ofNat n)), (.ref d), (.ref r)])) _
    refine XS.iload X2.here hx rfl (hb hby at_72) rfl ?_
    show Steps p.tables e below (T2.setTop (mkF m 74 #[.val (.int i0), .val (.int i1), .val (.long i2), .second, .val (.int (Int32.ofNat n)), .val (.int (Int32.ofNat mx)), .val (.ref d), .val (.ref r), .val (.int (Int32.ofNat rl)), .unset] [(.int (Int32.ofNat rl)), (.int (Int32.ofNat n)), (.ref d), (.ref r)])) _
    refine XS.iconst X2.here hx rfl (hb hby at_74) ?_
    refine sts0 _ ?_
    show Steps p.tables e below (Ts0.setTop (mkF m 78 #[.val (.int i0), .val (.int i1), .val (.long i2), .second, .val (.int (Int32.ofNat n)), .val (.int (Int32.ofNat mx)), .val (.ref d), .val (.ref r), .val (.int (Int32.ofNat rl)), .unset] [(.int (1 : Int32))])) _
    refine XS.ifNo Xs0.here hx rfl (hb hby at_78) rfl ((if0 _ _).trans (feq (by decide : ¬ ((1 : Int32) = (0 : Int32)))).1) ?_
    show Steps p.tables e below (Ts0.setTop (mkF m 81 #[.val (.int i0), .val (.int i1), .val (.long i2), .second, .val (.int (Int32.ofNat n)), .val (.int (Int32.ofNat mx)), .val (.ref d), .val (.ref r), .val (.int (Int32.ofNat rl)), .unset] [])) _
    refine XS.aload Xs0.here hx rfl (hb hby at_81) rfl rfl ?_
    show Steps p.tables e below (Ts0.setTop (mkF m 83 #[.val (.int i0), .val (.int i1), .val (.long i2), .second, .val (.int (Int32.ofNat n)), .val (.int (Int32.ofNat mx)), .val (.ref d), .val (.ref r), .val (.int (Int32.ofNat rl)), .unset] [(.ref r)])) _
    refine XS.aload Xs0.here hx rfl (hb hby at_83) rfl rfl ?_
    show Steps p.tables e below (Ts0.setTop (mkF m 85 #[.val (.int i0), .val (.int i1), .val (.long i2), .second, .val (.int (Int32.ofNat n)), .val (.int (Int32.ofNat mx)), .val (.ref d), .val (.ref r), .val (.int (Int32.ofNat rl)), .unset] [(.ref d), (.ref r)])) _
    refine XS.iload Xs0.here hx rfl (hb hby at_85) rfl ?_
    show Steps p.tables e below (Ts0.setTop (mkF m 87 #[.val (.int i0), .val (.int i1), .val (.long i2), .second, .val (.int (Int32.ofNat n)), .val (.int (Int32.ofNat mx)), .val (.ref d), .val (.ref r), .val (.int (Int32.ofNat rl)), .unset] [(.int (Int32.ofNat n)), (.ref d), (.ref r)])) _
    refine XS.iload Xs0.here hx rfl (hb hby at_87) rfl ?_
    show Steps p.tables e below (Ts0.setTop (mkF m 89 #[.val (.int i0), .val (.int i1), .val (.long i2), .second, .val (.int (Int32.ofNat n)), .val (.int (Int32.ofNat mx)), .val (.ref d), .val (.ref r), .val (.int (Int32.ofNat rl)), .unset] [(.int (Int32.ofNat rl)), (.int (Int32.ofNat n)), (.ref d), (.ref r)])) _
    refine XS.iconst Xs0.here hx rfl (hb hby at_89) ?_
    refine sts1 _ ?_
    show Steps p.tables e below (Ts1.setTop (mkF m 93 #[.val (.int i0), .val (.int i1), .val (.long i2), .second, .val (.int (Int32.ofNat n)), .val (.int (Int32.ofNat mx)), .val (.ref d), .val (.ref r), .val (.int (Int32.ofNat rl)), .unset] [(.int (1 : Int32))])) _
    refine XS.ifNo Xs1.here hx rfl (hb hby at_93) rfl ((if0 _ _).trans (feq (by decide : ¬ ((1 : Int32) = (0 : Int32)))).1) ?_
    show Steps p.tables e below (Ts1.setTop (mkF m 96 #[.val (.int i0), .val (.int i1), .val (.long i2), .second, .val (.int (Int32.ofNat n)), .val (.int (Int32.ofNat mx)), .val (.ref d), .val (.ref r), .val (.int (Int32.ofNat rl)), .unset] [])) _
    refine XS.aload Xs1.here hx rfl (hb hby at_96) rfl rfl ?_
    show Steps p.tables e below (Ts1.setTop (mkF m 98 #[.val (.int i0), .val (.int i1), .val (.long i2), .second, .val (.int (Int32.ofNat n)), .val (.int (Int32.ofNat mx)), .val (.ref d), .val (.ref r), .val (.int (Int32.ofNat rl)), .unset] [(.ref r)])) _
    refine XS.aload Xs1.here hx rfl (hb hby at_98) rfl rfl ?_
    show Steps p.tables e below (Ts1.setTop (mkF m 100 #[.val (.int i0), .val (.int i1), .val (.long i2), .second, .val (.int (Int32.ofNat n)), .val (.int (Int32.ofNat mx)), .val (.ref d), .val (.ref r), .val (.int (Int32.ofNat rl)), .unset] [(.ref d), (.ref r)])) _
    refine XS.iload Xs1.here hx rfl (hb hby at_100) rfl ?_
    show Steps p.tables e below (Ts1.setTop (mkF m 102 #[.val (.int i0), .val (.int i1), .val (.long i2), .second, .val (.int (Int32.ofNat n)), .val (.int (Int32.ofNat mx)), .val (.ref d), .val (.ref r), .val (.int (Int32.ofNat rl)), .unset] [(.int (Int32.ofNat n)), (.ref d), (.ref r)])) _
    refine XS.iload Xs1.here hx rfl (hb hby at_102) rfl ?_
    show Steps p.tables e below (Ts1.setTop (mkF m 104 #[.val (.int i0), .val (.int i1), .val (.long i2), .second, .val (.int (Int32.ofNat n)), .val (.int (Int32.ofNat mx)), .val (.ref d), .val (.ref r), .val (.int (Int32.ofNat rl)), .unset] [(.int (Int32.ofNat rl)), (.int (Int32.ofNat n)), (.ref d), (.ref r)])) _
    refine XS.iconst Xs1.here hx rfl (hb hby at_104) ?_
    refine sts2 _ ?_
    show Steps p.tables e below (Ts2.setTop (mkF m 108 #[.val (.int i0), .val (.int i1), .val (.long i2), .second, .val (.int (Int32.ofNat n)), .val (.int (Int32.ofNat mx)), .val (.ref d), .val (.ref r), .val (.int (Int32.ofNat rl)), .unset] [(.int (1 : Int32))])) _
    refine XS.ifNo Xs2.here hx rfl (hb hby at_108) rfl ((if0 _ _).trans (feq (by decide : ¬ ((1 : Int32) = (0 : Int32)))).1) ?_
    show Steps p.tables e below (Ts2.setTop (mkF m 111 #[.val (.int i0), .val (.int i1), .val (.long i2), .second, .val (.int (Int32.ofNat n)), .val (.int (Int32.ofNat mx)), .val (.ref d), .val (.ref r), .val (.int (Int32.ofNat rl)), .unset] [])) _
    refine XS.aload Xs2.here hx rfl (hb hby at_111) rfl rfl ?_
    show Steps p.tables e below (Ts2.setTop (mkF m 113 #[.val (.int i0), .val (.int i1), .val (.long i2), .second, .val (.int (Int32.ofNat n)), .val (.int (Int32.ofNat mx)), .val (.ref d), .val (.ref r), .val (.int (Int32.ofNat rl)), .unset] [(.ref r)])) _
    refine XS.aload Xs2.here hx rfl (hb hby at_113) rfl rfl ?_
    show Steps p.tables e below (Ts2.setTop (mkF m 115 #[.val (.int i0), .val (.int i1), .val (.long i2), .second, .val (.int (Int32.ofNat n)), .val (.int (Int32.ofNat mx)), .val (.ref d), .val (.ref r), .val (.int (Int32.ofNat rl)), .unset] [(.ref d), (.ref r)])) _
    refine XS.iload Xs2.here hx rfl (hb hby at_115) rfl ?_
    show Steps p.tables e below (Ts2.setTop (mkF m 117 #[.val (.int i0), .val (.int i1), .val (.long i2), .second, .val (.int (Int32.ofNat n)), .val (.int (Int32.ofNat mx)), .val (.ref d), .val (.ref r), .val (.int (Int32.ofNat rl)), .unset] [(.int (Int32.ofNat n)), (.ref d), (.ref r)])) _
    refine XS.iload Xs2.here hx rfl (hb hby at_117) rfl ?_
    show Steps p.tables e below (Ts2.setTop (mkF m 119 #[.val (.int i0), .val (.int i1), .val (.long i2), .second, .val (.int (Int32.ofNat n)), .val (.int (Int32.ofNat mx)), .val (.ref d), .val (.ref r), .val (.int (Int32.ofNat rl)), .unset] [(.int (Int32.ofNat rl)), (.int (Int32.ofNat n)), (.ref d), (.ref r)])) _
    refine XS.iconst Xs2.here hx rfl (hb hby at_119) ?_
    refine sts3 _ ?_
    show Steps p.tables e below (Ts3.setTop (mkF m 123 #[.val (.int i0), .val (.int i1), .val (.long i2), .second, .val (.int (Int32.ofNat n)), .val (.int (Int32.ofNat mx)), .val (.ref d), .val (.ref r), .val (.int (Int32.ofNat rl)), .unset] [(.int (1 : Int32))])) _
    refine XS.ifNo Xs3.here hx rfl (hb hby at_123) rfl ((if0 _ _).trans (feq (by decide : ¬ ((1 : Int32) = (0 : Int32)))).1) ?_
    show Steps p.tables e below (Ts3.setTop (mkF m 126 #[.val (.int i0), .val (.int i1), .val (.long i2), .second, .val (.int (Int32.ofNat n)), .val (.int (Int32.ofNat mx)), .val (.ref d), .val (.ref r), .val (.int (Int32.ofNat rl)), .unset] [])) _
    refine XS.aload Xs3.here hx rfl (hb hby at_126) rfl rfl ?_
    show Steps p.tables e below (Ts3.setTop (mkF m 128 #[.val (.int i0), .val (.int i1), .val (.long i2), .second, .val (.int (Int32.ofNat n)), .val (.int (Int32.ofNat mx)), .val (.ref d), .val (.ref r), .val (.int (Int32.ofNat rl)), .unset] [(.ref r)])) _
    refine XS.aload Xs3.here hx rfl (hb hby at_128) rfl rfl ?_
    show Steps p.tables e below (Ts3.setTop (mkF m 130 #[.val (.int i0), .val (.int i1), .val (.long i2), .second, .val (.int (Int32.ofNat n)), .val (.int (Int32.ofNat mx)), .val (.ref d), .val (.ref r), .val (.int (Int32.ofNat rl)), .unset] [(.ref d), (.ref r)])) _
    refine XS.iload Xs3.here hx rfl (hb hby at_130) rfl ?_
    show Steps p.tables e below (Ts3.setTop (mkF m 132 #[.val (.int i0), .val (.int i1), .val (.long i2), .second, .val (.int (Int32.ofNat n)), .val (.int (Int32.ofNat mx)), .val (.ref d), .val (.ref r), .val (.int (Int32.ofNat rl)), .unset] [(.int (Int32.ofNat n)), (.ref d), (.ref r)])) _
    refine XS.iload Xs3.here hx rfl (hb hby at_132) rfl ?_
    show Steps p.tables e below (Ts3.setTop (mkF m 134 #[.val (.int i0), .val (.int i1), .val (.long i2), .second, .val (.int (Int32.ofNat n)), .val (.int (Int32.ofNat mx)), .val (.ref d), .val (.ref r), .val (.int (Int32.ofNat rl)), .unset] [(.int (Int32.ofNat rl)), (.int (Int32.ofNat n)), (.ref d), (.ref r)])) _
    refine XS.iconst Xs3.here hx rfl (hb hby at_134) ?_
    refine sts4 _ ?_
    show Steps p.tables e below (Ts4.setTop (mkF m 138 #[.val (.int i0), .val (.int i1), .val (.long i2), .second, .val (.int (Int32.ofNat n)), .val (.int (Int32.ofNat mx)), .val (.ref d), .val (.ref r), .val (.int (Int32.ofNat rl)), .unset] [(.int (1 : Int32))])) _
    refine XS.ifNo Xs4.here hx rfl (hb hby at_138) rfl ((if0 _ _).trans (feq (by decide : ¬ ((1 : Int32) = (0 : Int32)))).1) ?_
    show Steps p.tables e below (Ts4.setTop (mkF m 141 #[.val (.int i0), .val (.int i1), .val (.long i2), .second, .val (.int (Int32.ofNat n)), .val (.int (Int32.ofNat mx)), .val (.ref d), .val (.ref r), .val (.int (Int32.ofNat rl)), .unset] [])) _
    refine XS.iconst Xs4.here hx rfl (hb hby at_141) ?_
    show Steps p.tables e below (Ts4.setTop (mkF m 142 #[.val (.int i0), .val (.int i1), .val (.long i2), .second, .val (.int (Int32.ofNat n)), .val (.int (Int32.ofNat mx)), .val (.ref d), .val (.ref r), .val (.int (Int32.ofNat rl)), .unset] [(.int (1 : Int32))])) _
    refine XS.goto Xs4.here hx rfl (pc0 := 142) (pc' := 146) rfl (hb hby at_142) (by decide) (by decide) ?_
    show Steps p.tables e below (Ts4.setTop (mkF m 146 #[.val (.int i0), .val (.int i1), .val (.long i2), .second, .val (.int (Int32.ofNat n)), .val (.int (Int32.ofNat mx)), .val (.ref d), .val (.ref r), .val (.int (Int32.ofNat rl)), .unset] [(.int (1 : Int32))])) _
    refine XS.istore Xs4.here hx rfl (hb hby at_146) rfl (l' := #[.val (.int i0), .val (.int i1), .val (.long i2), .second, .val (.int (Int32.ofNat n)), .val (.int (Int32.ofNat mx)), .val (.ref d), .val (.ref r), .val (.int (Int32.ofNat rl)), .val (.int (1 : Int32))]) rfl ?_
    show Steps p.tables e below (Ts4.setTop (mkF m 148 #[.val (.int i0), .val (.int i1), .val (.long i2), .second, .val (.int (Int32.ofNat n)), .val (.int (Int32.ofNat mx)), .val (.ref d), .val (.ref r), .val (.int (Int32.ofNat rl)), .val (.int (1 : Int32))] [])) _
    refine XS.iload Xs4.here hx rfl (hb hby at_148) rfl ?_
    show Steps p.tables e below (Ts4.setTop (mkF m 150 #[.val (.int i0), .val (.int i1), .val (.long i2), .second, .val (.int (Int32.ofNat n)), .val (.int (Int32.ofNat mx)), .val (.ref d), .val (.ref r), .val (.int (Int32.ofNat rl)), .val (.int (1 : Int32))] [(.int (1 : Int32))])) _
    refine XS.ifYes Xs4.here hx rfl (pc0 := 150) (pc' := 155) rfl (hb hby at_150) rfl ((if0 _ _).trans (feq (by decide : ¬ ((1 : Int32) = (0 : Int32)))).2) (by decide) (by decide) ?_
    exact kt
  by_cases hc : mx < n
  · obtain ⟨k1, k2, k3⟩ := ok4 hc
    obtain ⟨T5, L5, X5, N5, e5, st5⟩ : ∃ (T' : State) (L' : List Loc), Stand p l e room_1 s m #[(.int i0), (.int i1), (.long i2)] below meth c T' L' 2 10 ∧ Fr n0 L' ∧ T'.heap = h2 ∧
        ∀ target, Steps p.tables e below (T'.setTop (mkF m 201 #[.val (.int i0), .val (.int i1), .val (.long i2), .second, .val (.int (Int32.ofNat n)), .val (.int (Int32.ofNat mx)), .val (.ref d), .val (.ref r), .val (.int (Int32.ofNat rl)), .val (.int (1 : Int32))] [])) target → Steps p.tables e below (Ts4.setTop (mkF m 155 #[.val (.int i0), .val (.int i1), .val (.long i2), .second, .val (.int (Int32.ofNat n)), .val (.int (Int32.ofNat mx)), .val (.ref d), .val (.ref r), .val (.int (Int32.ofNat rl)), .val (.int (1 : Int32))] [])) target := by
      by_cases hz : 0 < rl
      · have in1 : ¬ ((0 : Int32) < 0 ∨ cr.slots.size ≤ ((0 : Int32)).toNatClampNeg) := own_inb (i := 0) Sr (by omega) hz
        have at1 : cr.slots[((0 : Int32)).toNatClampNeg]? = some (.int (g 0)) := Hr 0 hz
        obtain ⟨_, _, ⟨Tc, Lc, kc, nc⟩, -, Xc, ⟨Lcc, hQc, lc, yc, zc⟩, stc⟩ := Jvm.LawKit.callS Xs4 hx (y := (⟨"com/example/tend/tend/protocol/Utf8TailPinLaw", "cont", "(B)Z"⟩ : MethodName)) hown (mvT hZ (hw _ (List.mem_of_getElem? (i := 40) rfl))) (mvT hZ (hw _ (List.mem_of_getElem? (i := 41) rfl))) (mvT hZ (hw _ (List.mem_of_getElem? (i := 3) rfl))) (mvT hZ (hw _ (List.mem_of_getElem? (i := 42) rfl))) (by decide) (backOf (W := 0) (rmCont l Z a0 hw [] (g 0) h2 n0 Z2) hZ (hw _ (List.mem_of_getElem? (i := 42) rfl)) (hw _ (List.mem_of_getElem? (i := 3) rfl)) (by decide) (by decide)) (g := (mkF m 193 #[.val (.int i0), .val (.int i1), .val (.long i2), .second, .val (.int (Int32.ofNat n)), .val (.int (Int32.ofNat mx)), .val (.ref d), .val (.ref r), .val (.int (Int32.ofNat rl)), .val (.int (1 : Int32))] [(.int (g 0))])) rfl (by rw [hml]; rfl) (argsL := [(.int (g 0))]) (rest := []) (lenOf pd_c rfl) rfl (by show 2 * 0 + _ ≤ _; exact Nat.le_of_eq rfl) (hb hby at_193) (fun _ _ => ⟨rfl, es4, (by decide : 2 + 0 ≤ _), (by decide : 10 + 0 ≤ _)⟩)
        dsimp only [Pt.U, Pt.locs, Pt.cells, Pt.slots] at Xc lc yc zc stc hQc
        subst lc yc zc
        obtain ⟨rfl, Ncq, ec⟩ := hQc
        have Nc := Fr.app Ns4 Ncq
        refine ⟨Tc, _, Xc, Nc, ec, fun target kt => ?_⟩
        show Steps p.tables e below (Ts4.setTop (mkF m 155 #[.val (.int i0), .val (.int i1), .val (.long i2), .second, .val (.int (Int32.ofNat n)), .val (.int (Int32.ofNat mx)), .val (.ref d), .val (.ref r), .val (.int (Int32.ofNat rl)), .val (.int (1 : Int32))] [])) _
        refine XS.iload Xs4.here hx rfl (hb hby at_155) rfl ?_
        show Steps p.tables e below (Ts4.setTop (mkF m 157 #[.val (.int i0), .val (.int i1), .val (.long i2), .second, .val (.int (Int32.ofNat n)), .val (.int (Int32.ofNat mx)), .val (.ref d), .val (.ref r), .val (.int (Int32.ofNat rl)), .val (.int (1 : Int32))] [(.int (Int32.ofNat n))])) _
        refine XS.iload Xs4.here hx rfl (hb hby at_157) rfl ?_
        show Steps p.tables e below (Ts4.setTop (mkF m 159 #[.val (.int i0), .val (.int i1), .val (.long i2), .second, .val (.int (Int32.ofNat n)), .val (.int (Int32.ofNat mx)), .val (.ref d), .val (.ref r), .val (.int (Int32.ofNat rl)), .val (.int (1 : Int32))] [(.int (Int32.ofNat mx)), (.int (Int32.ofNat n))])) _
        refine XS.icmpYes Xs4.here hx rfl (pc0 := 159) (pc' := 175) rfl (hb hby at_159) rfl (tlt (own_lt hc (by omega))).2.2.1 (by decide) (by decide) ?_
        show Steps p.tables e below (Ts4.setTop (mkF m 175 #[.val (.int i0), .val (.int i1), .val (.long i2), .second, .val (.int (Int32.ofNat n)), .val (.int (Int32.ofNat mx)), .val (.ref d), .val (.ref r), .val (.int (Int32.ofNat rl)), .val (.int (1 : Int32))] [])) _
        refine XS.iload Xs4.here hx rfl (hb hby at_175) rfl ?_
        show Steps p.tables e below (Ts4.setTop (mkF m 177 #[.val (.int i0), .val (.int i1), .val (.long i2), .second, .val (.int (Int32.ofNat n)), .val (.int (Int32.ofNat mx)), .val (.ref d), .val (.ref r), .val (.int (Int32.ofNat rl)), .val (.int (1 : Int32))] [(.int (Int32.ofNat rl))])) _
        refine XS.iload Xs4.here hx rfl (hb hby at_177) rfl ?_
        show Steps p.tables e below (Ts4.setTop (mkF m 179 #[.val (.int i0), .val (.int i1), .val (.long i2), .second, .val (.int (Int32.ofNat n)), .val (.int (Int32.ofNat mx)), .val (.ref d), .val (.ref r), .val (.int (Int32.ofNat rl)), .val (.int (1 : Int32))] [(.int (Int32.ofNat mx)), (.int (Int32.ofNat rl))])) _
        refine XS.icmpYes Xs4.here hx rfl (pc0 := 179) (pc' := 184) rfl (hb hby at_179) rfl (flt (own_nlt k1 (by omega))).2.2.2 (by decide) (by decide) ?_
        show Steps p.tables e below (Ts4.setTop (mkF m 184 #[.val (.int i0), .val (.int i1), .val (.long i2), .second, .val (.int (Int32.ofNat n)), .val (.int (Int32.ofNat mx)), .val (.ref d), .val (.ref r), .val (.int (Int32.ofNat rl)), .val (.int (1 : Int32))] [])) _
        refine XS.iload Xs4.here hx rfl (hb hby at_184) rfl ?_
        show Steps p.tables e below (Ts4.setTop (mkF m 186 #[.val (.int i0), .val (.int i1), .val (.long i2), .second, .val (.int (Int32.ofNat n)), .val (.int (Int32.ofNat mx)), .val (.ref d), .val (.ref r), .val (.int (Int32.ofNat rl)), .val (.int (1 : Int32))] [(.int (Int32.ofNat rl))])) _
        refine XS.ifNo Xs4.here hx rfl (hb hby at_186) rfl ((if0 _ _).trans (tlt (own_lt hz (by omega) : Int32.ofNat 0 < Int32.ofNat rl)).2.2.2) ?_
        show Steps p.tables e below (Ts4.setTop (mkF m 189 #[.val (.int i0), .val (.int i1), .val (.long i2), .second, .val (.int (Int32.ofNat n)), .val (.int (Int32.ofNat mx)), .val (.ref d), .val (.ref r), .val (.int (Int32.ofNat rl)), .val (.int (1 : Int32))] [])) _
        refine XS.aload Xs4.here hx rfl (hb hby at_189) rfl rfl ?_
        show Steps p.tables e below (Ts4.setTop (mkF m 191 #[.val (.int i0), .val (.int i1), .val (.long i2), .second, .val (.int (Int32.ofNat n)), .val (.int (Int32.ofNat mx)), .val (.ref d), .val (.ref r), .val (.int (Int32.ofNat rl)), .val (.int (1 : Int32))] [(.ref r)])) _
        refine XS.iconst Xs4.here hx rfl (hb hby at_191) ?_
        show Steps p.tables e below (Ts4.setTop (mkF m 192 #[.val (.int i0), .val (.int i1), .val (.long i2), .second, .val (.int (Int32.ofNat n)), .val (.int (Int32.ofNat mx)), .val (.ref d), .val (.ref r), .val (.int (Int32.ofNat rl)), .val (.int (1 : Int32))] [(.int (0 : Int32)), (.ref r)])) _
        refine Xs4.baloadBytes hx (j := (0 : Int32)) (v := (.int (g 0))) (by rw [es4]; exact Arr1.1) (State.isArrayOf_alike hZ.alike Arr1.2.1) Arr1.2.2 in1 at1 (g := (mkF m 192 #[.val (.int i0), .val (.int i1), .val (.long i2), .second, .val (.int (Int32.ofNat n)), .val (.int (Int32.ofNat mx)), .val (.ref d), .val (.ref r), .val (.int (Int32.ofNat rl)), .val (.int (1 : Int32))] [(.int (0 : Int32)), (.ref r)])) rfl rfl (hb hby at_192) _ ?_
        refine stc _ ?_
        show Steps p.tables e below (Tc.setTop (mkF m 196 #[.val (.int i0), .val (.int i1), .val (.long i2), .second, .val (.int (Int32.ofNat n)), .val (.int (Int32.ofNat mx)), .val (.ref d), .val (.ref r), .val (.int (Int32.ofNat rl)), .val (.int (1 : Int32))] [(.int (own_z (own_c (g 0))))])) _
        rw [show own_z (own_c (g 0)) = 0 from by rw [k2 hz]; rfl]
        show Steps p.tables e below (Tc.setTop (mkF m 196 #[.val (.int i0), .val (.int i1), .val (.long i2), .second, .val (.int (Int32.ofNat n)), .val (.int (Int32.ofNat mx)), .val (.ref d), .val (.ref r), .val (.int (Int32.ofNat rl)), .val (.int (1 : Int32))] [(.int (0 : Int32))])) _
        refine XS.ifYes Xc.here hx rfl (pc0 := 196) (pc' := 201) rfl (hb hby at_196) rfl ((if0 _ _).trans (teq (by decide : (0 : Int32) = (0 : Int32))).1) (by decide) (by decide) ?_
        exact kt
      · refine ⟨Ts4, _, Xs4, Ns4, es4, fun target kt => ?_⟩
        show Steps p.tables e below (Ts4.setTop (mkF m 155 #[.val (.int i0), .val (.int i1), .val (.long i2), .second, .val (.int (Int32.ofNat n)), .val (.int (Int32.ofNat mx)), .val (.ref d), .val (.ref r), .val (.int (Int32.ofNat rl)), .val (.int (1 : Int32))] [])) _
        refine XS.iload Xs4.here hx rfl (hb hby at_155) rfl ?_
        show Steps p.tables e below (Ts4.setTop (mkF m 157 #[.val (.int i0), .val (.int i1), .val (.long i2), .second, .val (.int (Int32.ofNat n)), .val (.int (Int32.ofNat mx)), .val (.ref d), .val (.ref r), .val (.int (Int32.ofNat rl)), .val (.int (1 : Int32))] [(.int (Int32.ofNat n))])) _
        refine XS.iload Xs4.here hx rfl (hb hby at_157) rfl ?_
        show Steps p.tables e below (Ts4.setTop (mkF m 159 #[.val (.int i0), .val (.int i1), .val (.long i2), .second, .val (.int (Int32.ofNat n)), .val (.int (Int32.ofNat mx)), .val (.ref d), .val (.ref r), .val (.int (Int32.ofNat rl)), .val (.int (1 : Int32))] [(.int (Int32.ofNat mx)), (.int (Int32.ofNat n))])) _
        refine XS.icmpYes Xs4.here hx rfl (pc0 := 159) (pc' := 175) rfl (hb hby at_159) rfl (tlt (own_lt hc (by omega))).2.2.1 (by decide) (by decide) ?_
        show Steps p.tables e below (Ts4.setTop (mkF m 175 #[.val (.int i0), .val (.int i1), .val (.long i2), .second, .val (.int (Int32.ofNat n)), .val (.int (Int32.ofNat mx)), .val (.ref d), .val (.ref r), .val (.int (Int32.ofNat rl)), .val (.int (1 : Int32))] [])) _
        refine XS.iload Xs4.here hx rfl (hb hby at_175) rfl ?_
        show Steps p.tables e below (Ts4.setTop (mkF m 177 #[.val (.int i0), .val (.int i1), .val (.long i2), .second, .val (.int (Int32.ofNat n)), .val (.int (Int32.ofNat mx)), .val (.ref d), .val (.ref r), .val (.int (Int32.ofNat rl)), .val (.int (1 : Int32))] [(.int (Int32.ofNat rl))])) _
        refine XS.iload Xs4.here hx rfl (hb hby at_177) rfl ?_
        show Steps p.tables e below (Ts4.setTop (mkF m 179 #[.val (.int i0), .val (.int i1), .val (.long i2), .second, .val (.int (Int32.ofNat n)), .val (.int (Int32.ofNat mx)), .val (.ref d), .val (.ref r), .val (.int (Int32.ofNat rl)), .val (.int (1 : Int32))] [(.int (Int32.ofNat mx)), (.int (Int32.ofNat rl))])) _
        refine XS.icmpYes Xs4.here hx rfl (pc0 := 179) (pc' := 184) rfl (hb hby at_179) rfl (flt (own_nlt k1 (by omega))).2.2.2 (by decide) (by decide) ?_
        show Steps p.tables e below (Ts4.setTop (mkF m 184 #[.val (.int i0), .val (.int i1), .val (.long i2), .second, .val (.int (Int32.ofNat n)), .val (.int (Int32.ofNat mx)), .val (.ref d), .val (.ref r), .val (.int (Int32.ofNat rl)), .val (.int (1 : Int32))] [])) _
        refine XS.iload Xs4.here hx rfl (hb hby at_184) rfl ?_
        show Steps p.tables e below (Ts4.setTop (mkF m 186 #[.val (.int i0), .val (.int i1), .val (.long i2), .second, .val (.int (Int32.ofNat n)), .val (.int (Int32.ofNat mx)), .val (.ref d), .val (.ref r), .val (.int (Int32.ofNat rl)), .val (.int (1 : Int32))] [(.int (Int32.ofNat rl))])) _
        refine XS.ifYes Xs4.here hx rfl (pc0 := 186) (pc' := 201) rfl (hb hby at_186) rfl ((if0 _ _).trans (flt (own_nlt (i := rl) (n := rl) (Nat.le_refl _) (by omega) |> fun _ => (own_nlt (i := 0) (n := rl) (by omega) (by decide) : ¬ (Int32.ofNat 0 < Int32.ofNat rl)))).2.2.2) (by decide) (by decide) ?_
        exact kt
    obtain ⟨_, _, ⟨Tk0, Lk0, kk0, nk0⟩, -, Xk0, ⟨Lck0, hQk0, lk0, yk0, zk0⟩, stk0⟩ := Jvm.LawKit.callS X5 hx (y := (⟨"com/example/tend/tend/protocol/Utf8TailPinLaw", "skipped", "([BIIII)Z"⟩ : MethodName)) hown (mvT hZ (hw _ (List.mem_of_getElem? (i := 34) rfl))) (mvT hZ (hw _ (List.mem_of_getElem? (i := 35) rfl))) (mvT hZ (hw _ (List.mem_of_getElem? (i := 3) rfl))) (mvT hZ (hw _ (List.mem_of_getElem? (i := 36) rfl))) (by decide) (backOf (W := 0) (rmSkip l Z a0 hw [] d n mx rl 0 f h2 n0 Z2 hn (by decide) hc ok1 k3 D2) hZ (hw _ (List.mem_of_getElem? (i := 36) rfl)) (hw _ (List.mem_of_getElem? (i := 3) rfl)) (by decide) (by decide)) (g := (mkF m 210 #[.val (.int i0), .val (.int i1), .val (.long i2), .second, .val (.int (Int32.ofNat n)), .val (.int (Int32.ofNat mx)), .val (.ref d), .val (.ref r), .val (.int (Int32.ofNat rl)), .val (.int (1 : Int32))] [(.int (0 : Int32)), (.int (Int32.ofNat rl)), (.int (Int32.ofNat mx)), (.int (Int32.ofNat n)), (.ref d)])) rfl (by rw [hml]; rfl) (argsL := [(.ref d), (.int (Int32.ofNat n)), (.int (Int32.ofNat mx)), (.int (Int32.ofNat rl)), (.int (0 : Int32))]) (rest := []) (lenOf pd_skip rfl) rfl (by show 2 * 0 + _ ≤ _; exact Nat.le_of_eq rfl) (hb hby at_210) (fun _ _ => ⟨rfl, e5, (by decide : 2 + 0 ≤ _), (by decide : 10 + 0 ≤ _)⟩)
    dsimp only [Pt.U, Pt.locs, Pt.cells, Pt.slots] at Xk0 lk0 yk0 zk0 stk0 hQk0
    subst lk0 yk0 zk0
    obtain ⟨rfl, Nk0q, ek0⟩ := hQk0
    have Nk0 := Fr.app N5 Nk0q
    obtain ⟨_, _, ⟨Tk1, Lk1, kk1, nk1⟩, -, Xk1, ⟨Lck1, hQk1, lk1, yk1, zk1⟩, stk1⟩ := Jvm.LawKit.callS Xk0 hx (y := (⟨"com/example/tend/tend/protocol/Utf8TailPinLaw", "skipped", "([BIIII)Z"⟩ : MethodName)) hown (mvT hZ (hw _ (List.mem_of_getElem? (i := 34) rfl))) (mvT hZ (hw _ (List.mem_of_getElem? (i := 35) rfl))) (mvT hZ (hw _ (List.mem_of_getElem? (i := 3) rfl))) (mvT hZ (hw _ (List.mem_of_getElem? (i := 36) rfl))) (by decide) (backOf (W := 0) (rmSkip l Z a0 hw [] d n mx rl 1 f h2 n0 Z2 hn (by decide) hc ok1 k3 D2) hZ (hw _ (List.mem_of_getElem? (i := 36) rfl)) (hw _ (List.mem_of_getElem? (i := 3) rfl)) (by decide) (by decide)) (g := (mkF m 225 #[.val (.int i0), .val (.int i1), .val (.long i2), .second, .val (.int (Int32.ofNat n)), .val (.int (Int32.ofNat mx)), .val (.ref d), .val (.ref r), .val (.int (Int32.ofNat rl)), .val (.int (1 : Int32))] [(.int (1 : Int32)), (.int (Int32.ofNat rl)), (.int (Int32.ofNat mx)), (.int (Int32.ofNat n)), (.ref d)])) rfl (by rw [hml]; rfl) (argsL := [(.ref d), (.int (Int32.ofNat n)), (.int (Int32.ofNat mx)), (.int (Int32.ofNat rl)), (.int (1 : Int32))]) (rest := []) (lenOf pd_skip rfl) rfl (by show 2 * 0 + _ ≤ _; exact Nat.le_of_eq rfl) (hb hby at_225) (fun _ _ => ⟨rfl, ek0, (by decide : 2 + 0 ≤ _), (by decide : 10 + 0 ≤ _)⟩)
    dsimp only [Pt.U, Pt.locs, Pt.cells, Pt.slots] at Xk1 lk1 yk1 zk1 stk1 hQk1
    subst lk1 yk1 zk1
    obtain ⟨rfl, Nk1q, ek1⟩ := hQk1
    have Nk1 := Fr.app Nk0 Nk1q
    obtain ⟨_, _, ⟨Tk2, Lk2, kk2, nk2⟩, -, Xk2, ⟨Lck2, hQk2, lk2, yk2, zk2⟩, stk2⟩ := Jvm.LawKit.callS Xk1 hx (y := (⟨"com/example/tend/tend/protocol/Utf8TailPinLaw", "skipped", "([BIIII)Z"⟩ : MethodName)) hown (mvT hZ (hw _ (List.mem_of_getElem? (i := 34) rfl))) (mvT hZ (hw _ (List.mem_of_getElem? (i := 35) rfl))) (mvT hZ (hw _ (List.mem_of_getElem? (i := 3) rfl))) (mvT hZ (hw _ (List.mem_of_getElem? (i := 36) rfl))) (by decide) (backOf (W := 0) (rmSkip l Z a0 hw [] d n mx rl 2 f h2 n0 Z2 hn (by decide) hc ok1 k3 D2) hZ (hw _ (List.mem_of_getElem? (i := 36) rfl)) (hw _ (List.mem_of_getElem? (i := 3) rfl)) (by decide) (by decide)) (g := (mkF m 240 #[.val (.int i0), .val (.int i1), .val (.long i2), .second, .val (.int (Int32.ofNat n)), .val (.int (Int32.ofNat mx)), .val (.ref d), .val (.ref r), .val (.int (Int32.ofNat rl)), .val (.int (1 : Int32))] [(.int (2 : Int32)), (.int (Int32.ofNat rl)), (.int (Int32.ofNat mx)), (.int (Int32.ofNat n)), (.ref d)])) rfl (by rw [hml]; rfl) (argsL := [(.ref d), (.int (Int32.ofNat n)), (.int (Int32.ofNat mx)), (.int (Int32.ofNat rl)), (.int (2 : Int32))]) (rest := []) (lenOf pd_skip rfl) rfl (by show 2 * 0 + _ ≤ _; exact Nat.le_of_eq rfl) (hb hby at_240) (fun _ _ => ⟨rfl, ek1, (by decide : 2 + 0 ≤ _), (by decide : 10 + 0 ≤ _)⟩)
    dsimp only [Pt.U, Pt.locs, Pt.cells, Pt.slots] at Xk2 lk2 yk2 zk2 stk2 hQk2
    subst lk2 yk2 zk2
    obtain ⟨rfl, Nk2q, ek2⟩ := hQk2
    have Nk2 := Fr.app Nk1 Nk2q
    obtain ⟨_, _, ⟨Tk3, Lk3, kk3, nk3⟩, -, Xk3, ⟨Lck3, hQk3, lk3, yk3, zk3⟩, stk3⟩ := Jvm.LawKit.callS Xk2 hx (y := (⟨"com/example/tend/tend/protocol/Utf8TailPinLaw", "skipped", "([BIIII)Z"⟩ : MethodName)) hown (mvT hZ (hw _ (List.mem_of_getElem? (i := 34) rfl))) (mvT hZ (hw _ (List.mem_of_getElem? (i := 35) rfl))) (mvT hZ (hw _ (List.mem_of_getElem? (i := 3) rfl))) (mvT hZ (hw _ (List.mem_of_getElem? (i := 36) rfl))) (by decide) (backOf (W := 0) (rmSkip l Z a0 hw [] d n mx rl 3 f h2 n0 Z2 hn (by decide) hc ok1 k3 D2) hZ (hw _ (List.mem_of_getElem? (i := 36) rfl)) (hw _ (List.mem_of_getElem? (i := 3) rfl)) (by decide) (by decide)) (g := (mkF m 255 #[.val (.int i0), .val (.int i1), .val (.long i2), .second, .val (.int (Int32.ofNat n)), .val (.int (Int32.ofNat mx)), .val (.ref d), .val (.ref r), .val (.int (Int32.ofNat rl)), .val (.int (1 : Int32))] [(.int (3 : Int32)), (.int (Int32.ofNat rl)), (.int (Int32.ofNat mx)), (.int (Int32.ofNat n)), (.ref d)])) rfl (by rw [hml]; rfl) (argsL := [(.ref d), (.int (Int32.ofNat n)), (.int (Int32.ofNat mx)), (.int (Int32.ofNat rl)), (.int (3 : Int32))]) (rest := []) (lenOf pd_skip rfl) rfl (by show 2 * 0 + _ ≤ _; exact Nat.le_of_eq rfl) (hb hby at_255) (fun _ _ => ⟨rfl, ek2, (by decide : 2 + 0 ≤ _), (by decide : 10 + 0 ≤ _)⟩)
    dsimp only [Pt.U, Pt.locs, Pt.cells, Pt.slots] at Xk3 lk3 yk3 zk3 stk3 hQk3
    subst lk3 yk3 zk3
    obtain ⟨rfl, Nk3q, ek3⟩ := hQk3
    have Nk3 := Fr.app Nk2 Nk3q
    obtain ⟨_, _, ⟨Tk4, Lk4, kk4, nk4⟩, -, Xk4, ⟨Lck4, hQk4, lk4, yk4, zk4⟩, stk4⟩ := Jvm.LawKit.callS Xk3 hx (y := (⟨"com/example/tend/tend/protocol/Utf8TailPinLaw", "skipped", "([BIIII)Z"⟩ : MethodName)) hown (mvT hZ (hw _ (List.mem_of_getElem? (i := 34) rfl))) (mvT hZ (hw _ (List.mem_of_getElem? (i := 35) rfl))) (mvT hZ (hw _ (List.mem_of_getElem? (i := 3) rfl))) (mvT hZ (hw _ (List.mem_of_getElem? (i := 36) rfl))) (by decide) (backOf (W := 0) (rmSkip l Z a0 hw [] d n mx rl 4 f h2 n0 Z2 hn (by decide) hc ok1 k3 D2) hZ (hw _ (List.mem_of_getElem? (i := 36) rfl)) (hw _ (List.mem_of_getElem? (i := 3) rfl)) (by decide) (by decide)) (g := (mkF m 270 #[.val (.int i0), .val (.int i1), .val (.long i2), .second, .val (.int (Int32.ofNat n)), .val (.int (Int32.ofNat mx)), .val (.ref d), .val (.ref r), .val (.int (Int32.ofNat rl)), .val (.int (1 : Int32))] [(.int (4 : Int32)), (.int (Int32.ofNat rl)), (.int (Int32.ofNat mx)), (.int (Int32.ofNat n)), (.ref d)])) rfl (by rw [hml]; rfl) (argsL := [(.ref d), (.int (Int32.ofNat n)), (.int (Int32.ofNat mx)), (.int (Int32.ofNat rl)), (.int (4 : Int32))]) (rest := []) (lenOf pd_skip rfl) rfl (by show 2 * 0 + _ ≤ _; exact Nat.le_of_eq rfl) (hb hby at_270) (fun _ _ => ⟨rfl, ek3, (by decide : 2 + 0 ≤ _), (by decide : 10 + 0 ≤ _)⟩)
    dsimp only [Pt.U, Pt.locs, Pt.cells, Pt.slots] at Xk4 lk4 yk4 zk4 stk4 hQk4
    subst lk4 yk4 zk4
    obtain ⟨rfl, Nk4q, ek4⟩ := hQk4
    have Nk4 := Fr.app Nk3 Nk4q
    obtain ⟨fs, hr, hrun, hended, hW, hsame⟩ := Xk4.leave (v := some (.int (1 : Int32))) (fun h => by rw [Bd.returns] at h; cases h)
    refine ⟨_, _, pre0 _ ?_, hrun, hended, _, _, rfl, ⟨rfl, Nk4⟩, ⟨_, rfl⟩, hW, hsame.mono (by decide) (by decide)⟩
    refine st0 _ ?_
    show Steps p.tables e below (s₁.setTop (mkF m 28 #[.val (.int i0), .val (.int i1), .val (.long i2), .second, .val (.int (Int32.ofNat n)), .val (.int (Int32.ofNat mx)), .unset, .unset, .unset, .unset] [])) _
    refine XS.iload X0.here hx rfl (hb hby at_28) rfl ?_
    show Steps p.tables e below (s₁.setTop (mkF m 30 #[.val (.int i0), .val (.int i1), .val (.long i2), .second, .val (.int (Int32.ofNat n)), .val (.int (Int32.ofNat mx)), .unset, .unset, .unset, .unset] [(.int (Int32.ofNat n))])) _
    refine XS.lloadN X0.here hx rfl (hb hby at_30) rfl ?_
    refine st1 _ ?_
    show Steps p.tables e below (T1.setTop (mkF m 34 #[.val (.int i0), .val (.int i1), .val (.long i2), .second, .val (.int (Int32.ofNat n)), .val (.int (Int32.ofNat mx)), .unset, .unset, .unset, .unset] [(.ref d)])) _
    refine XS.astore X1.here hx rfl (hb hby at_34) rfl rfl (l' := #[.val (.int i0), .val (.int i1), .val (.long i2), .second, .val (.int (Int32.ofNat n)), .val (.int (Int32.ofNat mx)), .val (.ref d), .unset, .unset, .unset]) rfl ?_
    show Steps p.tables e below (T1.setTop (mkF m 36 #[.val (.int i0), .val (.int i1), .val (.long i2), .second, .val (.int (Int32.ofNat n)), .val (.int (Int32.ofNat mx)), .val (.ref d), .unset, .unset, .unset] [])) _
    refine XS.aload X1.here hx rfl (hb hby at_36) rfl rfl ?_
    show Steps p.tables e below (T1.setTop (mkF m 38 #[.val (.int i0), .val (.int i1), .val (.long i2), .second, .val (.int (Int32.ofNat n)), .val (.int (Int32.ofNat mx)), .val (.ref d), .unset, .unset, .unset] [(.ref d)])) _
    refine XS.iload X1.here hx rfl (hb hby at_38) rfl ?_
    refine st2 _ (sa _ ?_)
    refine st5 _ ?_
    show Steps p.tables e below (T5.setTop (mkF m 201 #[.val (.int i0), .val (.int i1), .val (.long i2), .second, .val (.int (Int32.ofNat n)), .val (.int (Int32.ofNat mx)), .val (.ref d), .val (.ref r), .val (.int (Int32.ofNat rl)), .val (.int (1 : Int32))] [])) _
    refine XS.aload X5.here hx rfl (hb hby at_201) rfl rfl ?_
    show Steps p.tables e below (T5.setTop (mkF m 203 #[.val (.int i0), .val (.int i1), .val (.long i2), .second, .val (.int (Int32.ofNat n)), .val (.int (Int32.ofNat mx)), .val (.ref d), .val (.ref r), .val (.int (Int32.ofNat rl)), .val (.int (1 : Int32))] [(.ref d)])) _
    refine XS.iload X5.here hx rfl (hb hby at_203) rfl ?_
    show Steps p.tables e below (T5.setTop (mkF m 205 #[.val (.int i0), .val (.int i1), .val (.long i2), .second, .val (.int (Int32.ofNat n)), .val (.int (Int32.ofNat mx)), .val (.ref d), .val (.ref r), .val (.int (Int32.ofNat rl)), .val (.int (1 : Int32))] [(.int (Int32.ofNat n)), (.ref d)])) _
    refine XS.iload X5.here hx rfl (hb hby at_205) rfl ?_
    show Steps p.tables e below (T5.setTop (mkF m 207 #[.val (.int i0), .val (.int i1), .val (.long i2), .second, .val (.int (Int32.ofNat n)), .val (.int (Int32.ofNat mx)), .val (.ref d), .val (.ref r), .val (.int (Int32.ofNat rl)), .val (.int (1 : Int32))] [(.int (Int32.ofNat mx)), (.int (Int32.ofNat n)), (.ref d)])) _
    refine XS.iload X5.here hx rfl (hb hby at_207) rfl ?_
    show Steps p.tables e below (T5.setTop (mkF m 209 #[.val (.int i0), .val (.int i1), .val (.long i2), .second, .val (.int (Int32.ofNat n)), .val (.int (Int32.ofNat mx)), .val (.ref d), .val (.ref r), .val (.int (Int32.ofNat rl)), .val (.int (1 : Int32))] [(.int (Int32.ofNat rl)), (.int (Int32.ofNat mx)), (.int (Int32.ofNat n)), (.ref d)])) _
    refine XS.iconst X5.here hx rfl (hb hby at_209) ?_
    refine stk0 _ ?_
    show Steps p.tables e below (Tk0.setTop (mkF m 213 #[.val (.int i0), .val (.int i1), .val (.long i2), .second, .val (.int (Int32.ofNat n)), .val (.int (Int32.ofNat mx)), .val (.ref d), .val (.ref r), .val (.int (Int32.ofNat rl)), .val (.int (1 : Int32))] [(.int (1 : Int32))])) _
    refine XS.ifNo Xk0.here hx rfl (hb hby at_213) rfl ((if0 _ _).trans (feq (by decide : ¬ ((1 : Int32) = (0 : Int32)))).1) ?_
    show Steps p.tables e below (Tk0.setTop (mkF m 216 #[.val (.int i0), .val (.int i1), .val (.long i2), .second, .val (.int (Int32.ofNat n)), .val (.int (Int32.ofNat mx)), .val (.ref d), .val (.ref r), .val (.int (Int32.ofNat rl)), .val (.int (1 : Int32))] [])) _
    refine XS.aload Xk0.here hx rfl (hb hby at_216) rfl rfl ?_
    show Steps p.tables e below (Tk0.setTop (mkF m 218 #[.val (.int i0), .val (.int i1), .val (.long i2), .second, .val (.int (Int32.ofNat n)), .val (.int (Int32.ofNat mx)), .val (.ref d), .val (.ref r), .val (.int (Int32.ofNat rl)), .val (.int (1 : Int32))] [(.ref d)])) _
    refine XS.iload Xk0.here hx rfl (hb hby at_218) rfl ?_
    show Steps p.tables e below (Tk0.setTop (mkF m 220 #[.val (.int i0), .val (.int i1), .val (.long i2), .second, .val (.int (Int32.ofNat n)), .val (.int (Int32.ofNat mx)), .val (.ref d), .val (.ref r), .val (.int (Int32.ofNat rl)), .val (.int (1 : Int32))] [(.int (Int32.ofNat n)), (.ref d)])) _
    refine XS.iload Xk0.here hx rfl (hb hby at_220) rfl ?_
    show Steps p.tables e below (Tk0.setTop (mkF m 222 #[.val (.int i0), .val (.int i1), .val (.long i2), .second, .val (.int (Int32.ofNat n)), .val (.int (Int32.ofNat mx)), .val (.ref d), .val (.ref r), .val (.int (Int32.ofNat rl)), .val (.int (1 : Int32))] [(.int (Int32.ofNat mx)), (.int (Int32.ofNat n)), (.ref d)])) _
    refine XS.iload Xk0.here hx rfl (hb hby at_222) rfl ?_
    show Steps p.tables e below (Tk0.setTop (mkF m 224 #[.val (.int i0), .val (.int i1), .val (.long i2), .second, .val (.int (Int32.ofNat n)), .val (.int (Int32.ofNat mx)), .val (.ref d), .val (.ref r), .val (.int (Int32.ofNat rl)), .val (.int (1 : Int32))] [(.int (Int32.ofNat rl)), (.int (Int32.ofNat mx)), (.int (Int32.ofNat n)), (.ref d)])) _
    refine XS.iconst Xk0.here hx rfl (hb hby at_224) ?_
    refine stk1 _ ?_
    show Steps p.tables e below (Tk1.setTop (mkF m 228 #[.val (.int i0), .val (.int i1), .val (.long i2), .second, .val (.int (Int32.ofNat n)), .val (.int (Int32.ofNat mx)), .val (.ref d), .val (.ref r), .val (.int (Int32.ofNat rl)), .val (.int (1 : Int32))] [(.int (1 : Int32))])) _
    refine XS.ifNo Xk1.here hx rfl (hb hby at_228) rfl ((if0 _ _).trans (feq (by decide : ¬ ((1 : Int32) = (0 : Int32)))).1) ?_
    show Steps p.tables e below (Tk1.setTop (mkF m 231 #[.val (.int i0), .val (.int i1), .val (.long i2), .second, .val (.int (Int32.ofNat n)), .val (.int (Int32.ofNat mx)), .val (.ref d), .val (.ref r), .val (.int (Int32.ofNat rl)), .val (.int (1 : Int32))] [])) _
    refine XS.aload Xk1.here hx rfl (hb hby at_231) rfl rfl ?_
    show Steps p.tables e below (Tk1.setTop (mkF m 233 #[.val (.int i0), .val (.int i1), .val (.long i2), .second, .val (.int (Int32.ofNat n)), .val (.int (Int32.ofNat mx)), .val (.ref d), .val (.ref r), .val (.int (Int32.ofNat rl)), .val (.int (1 : Int32))] [(.ref d)])) _
    refine XS.iload Xk1.here hx rfl (hb hby at_233) rfl ?_
    show Steps p.tables e below (Tk1.setTop (mkF m 235 #[.val (.int i0), .val (.int i1), .val (.long i2), .second, .val (.int (Int32.ofNat n)), .val (.int (Int32.ofNat mx)), .val (.ref d), .val (.ref r), .val (.int (Int32.ofNat rl)), .val (.int (1 : Int32))] [(.int (Int32.ofNat n)), (.ref d)])) _
    refine XS.iload Xk1.here hx rfl (hb hby at_235) rfl ?_
    show Steps p.tables e below (Tk1.setTop (mkF m 237 #[.val (.int i0), .val (.int i1), .val (.long i2), .second, .val (.int (Int32.ofNat n)), .val (.int (Int32.ofNat mx)), .val (.ref d), .val (.ref r), .val (.int (Int32.ofNat rl)), .val (.int (1 : Int32))] [(.int (Int32.ofNat mx)), (.int (Int32.ofNat n)), (.ref d)])) _
    refine XS.iload Xk1.here hx rfl (hb hby at_237) rfl ?_
    show Steps p.tables e below (Tk1.setTop (mkF m 239 #[.val (.int i0), .val (.int i1), .val (.long i2), .second, .val (.int (Int32.ofNat n)), .val (.int (Int32.ofNat mx)), .val (.ref d), .val (.ref r), .val (.int (Int32.ofNat rl)), .val (.int (1 : Int32))] [(.int (Int32.ofNat rl)), (.int (Int32.ofNat mx)), (.int (Int32.ofNat n)), (.ref d)])) _
    refine XS.iconst Xk1.here hx rfl (hb hby at_239) ?_
    refine stk2 _ ?_
    show Steps p.tables e below (Tk2.setTop (mkF m 243 #[.val (.int i0), .val (.int i1), .val (.long i2), .second, .val (.int (Int32.ofNat n)), .val (.int (Int32.ofNat mx)), .val (.ref d), .val (.ref r), .val (.int (Int32.ofNat rl)), .val (.int (1 : Int32))] [(.int (1 : Int32))])) _
    refine XS.ifNo Xk2.here hx rfl (hb hby at_243) rfl ((if0 _ _).trans (feq (by decide : ¬ ((1 : Int32) = (0 : Int32)))).1) ?_
    show Steps p.tables e below (Tk2.setTop (mkF m 246 #[.val (.int i0), .val (.int i1), .val (.long i2), .second, .val (.int (Int32.ofNat n)), .val (.int (Int32.ofNat mx)), .val (.ref d), .val (.ref r), .val (.int (Int32.ofNat rl)), .val (.int (1 : Int32))] [])) _
    refine XS.aload Xk2.here hx rfl (hb hby at_246) rfl rfl ?_
    show Steps p.tables e below (Tk2.setTop (mkF m 248 #[.val (.int i0), .val (.int i1), .val (.long i2), .second, .val (.int (Int32.ofNat n)), .val (.int (Int32.ofNat mx)), .val (.ref d), .val (.ref r), .val (.int (Int32.ofNat rl)), .val (.int (1 : Int32))] [(.ref d)])) _
    refine XS.iload Xk2.here hx rfl (hb hby at_248) rfl ?_
    show Steps p.tables e below (Tk2.setTop (mkF m 250 #[.val (.int i0), .val (.int i1), .val (.long i2), .second, .val (.int (Int32.ofNat n)), .val (.int (Int32.ofNat mx)), .val (.ref d), .val (.ref r), .val (.int (Int32.ofNat rl)), .val (.int (1 : Int32))] [(.int (Int32.ofNat n)), (.ref d)])) _
    refine XS.iload Xk2.here hx rfl (hb hby at_250) rfl ?_
    show Steps p.tables e below (Tk2.setTop (mkF m 252 #[.val (.int i0), .val (.int i1), .val (.long i2), .second, .val (.int (Int32.ofNat n)), .val (.int (Int32.ofNat mx)), .val (.ref d), .val (.ref r), .val (.int (Int32.ofNat rl)), .val (.int (1 : Int32))] [(.int (Int32.ofNat mx)), (.int (Int32.ofNat n)), (.ref d)])) _
    refine XS.iload Xk2.here hx rfl (hb hby at_252) rfl ?_
    show Steps p.tables e below (Tk2.setTop (mkF m 254 #[.val (.int i0), .val (.int i1), .val (.long i2), .second, .val (.int (Int32.ofNat n)), .val (.int (Int32.ofNat mx)), .val (.ref d), .val (.ref r), .val (.int (Int32.ofNat rl)), .val (.int (1 : Int32))] [(.int (Int32.ofNat rl)), (.int (Int32.ofNat mx)), (.int (Int32.ofNat n)), (.ref d)])) _
    refine XS.iconst Xk2.here hx rfl (hb hby at_254) ?_
    refine stk3 _ ?_
    show Steps p.tables e below (Tk3.setTop (mkF m 258 #[.val (.int i0), .val (.int i1), .val (.long i2), .second, .val (.int (Int32.ofNat n)), .val (.int (Int32.ofNat mx)), .val (.ref d), .val (.ref r), .val (.int (Int32.ofNat rl)), .val (.int (1 : Int32))] [(.int (1 : Int32))])) _
    refine XS.ifNo Xk3.here hx rfl (hb hby at_258) rfl ((if0 _ _).trans (feq (by decide : ¬ ((1 : Int32) = (0 : Int32)))).1) ?_
    show Steps p.tables e below (Tk3.setTop (mkF m 261 #[.val (.int i0), .val (.int i1), .val (.long i2), .second, .val (.int (Int32.ofNat n)), .val (.int (Int32.ofNat mx)), .val (.ref d), .val (.ref r), .val (.int (Int32.ofNat rl)), .val (.int (1 : Int32))] [])) _
    refine XS.aload Xk3.here hx rfl (hb hby at_261) rfl rfl ?_
    show Steps p.tables e below (Tk3.setTop (mkF m 263 #[.val (.int i0), .val (.int i1), .val (.long i2), .second, .val (.int (Int32.ofNat n)), .val (.int (Int32.ofNat mx)), .val (.ref d), .val (.ref r), .val (.int (Int32.ofNat rl)), .val (.int (1 : Int32))] [(.ref d)])) _
    refine XS.iload Xk3.here hx rfl (hb hby at_263) rfl ?_
    show Steps p.tables e below (Tk3.setTop (mkF m 265 #[.val (.int i0), .val (.int i1), .val (.long i2), .second, .val (.int (Int32.ofNat n)), .val (.int (Int32.ofNat mx)), .val (.ref d), .val (.ref r), .val (.int (Int32.ofNat rl)), .val (.int (1 : Int32))] [(.int (Int32.ofNat n)), (.ref d)])) _
    refine XS.iload Xk3.here hx rfl (hb hby at_265) rfl ?_
    show Steps p.tables e below (Tk3.setTop (mkF m 267 #[.val (.int i0), .val (.int i1), .val (.long i2), .second, .val (.int (Int32.ofNat n)), .val (.int (Int32.ofNat mx)), .val (.ref d), .val (.ref r), .val (.int (Int32.ofNat rl)), .val (.int (1 : Int32))] [(.int (Int32.ofNat mx)), (.int (Int32.ofNat n)), (.ref d)])) _
    refine XS.iload Xk3.here hx rfl (hb hby at_267) rfl ?_
    show Steps p.tables e below (Tk3.setTop (mkF m 269 #[.val (.int i0), .val (.int i1), .val (.long i2), .second, .val (.int (Int32.ofNat n)), .val (.int (Int32.ofNat mx)), .val (.ref d), .val (.ref r), .val (.int (Int32.ofNat rl)), .val (.int (1 : Int32))] [(.int (Int32.ofNat rl)), (.int (Int32.ofNat mx)), (.int (Int32.ofNat n)), (.ref d)])) _
    refine XS.iconst Xk3.here hx rfl (hb hby at_269) ?_
    refine stk4 _ ?_
    show Steps p.tables e below (Tk4.setTop (mkF m 273 #[.val (.int i0), .val (.int i1), .val (.long i2), .second, .val (.int (Int32.ofNat n)), .val (.int (Int32.ofNat mx)), .val (.ref d), .val (.ref r), .val (.int (Int32.ofNat rl)), .val (.int (1 : Int32))] [(.int (1 : Int32))])) _
    refine XS.ifNo Xk4.here hx rfl (hb hby at_273) rfl ((if0 _ _).trans (feq (by decide : ¬ ((1 : Int32) = (0 : Int32)))).1) ?_
    show Steps p.tables e below (Tk4.setTop (mkF m 276 #[.val (.int i0), .val (.int i1), .val (.long i2), .second, .val (.int (Int32.ofNat n)), .val (.int (Int32.ofNat mx)), .val (.ref d), .val (.ref r), .val (.int (Int32.ofNat rl)), .val (.int (1 : Int32))] [])) _
    refine XS.iconst Xk4.here hx rfl (hb hby at_276) ?_
    show Steps p.tables e below (Tk4.setTop (mkF m 277 #[.val (.int i0), .val (.int i1), .val (.long i2), .second, .val (.int (Int32.ofNat n)), .val (.int (Int32.ofNat mx)), .val (.ref d), .val (.ref r), .val (.int (Int32.ofNat rl)), .val (.int (1 : Int32))] [(.int (1 : Int32))])) _
    refine XS.goto Xk4.here hx rfl (pc0 := 277) (pc' := 281) rfl (hb hby at_277) (by decide) (by decide) ?_
    exact retN Xk4 hx (t := .boolean) Bd.returns (by simp) (hb hby at_281) hr
  · obtain ⟨fs, hr, hrun, hended, hW, hsame⟩ := Xs4.leave (v := some (.int (1 : Int32))) (fun h => by rw [Bd.returns] at h; cases h)
    refine ⟨_, _, pre0 _ ?_, hrun, hended, _, _, rfl, ⟨rfl, Ns4⟩, ⟨_, rfl⟩, hW, hsame.mono (by decide) (by decide)⟩
    have hrl : rl = n := ok3 (by omega)
    refine st0 _ ?_
    show Steps p.tables e below (s₁.setTop (mkF m 28 #[.val (.int i0), .val (.int i1), .val (.long i2), .second, .val (.int (Int32.ofNat n)), .val (.int (Int32.ofNat mx)), .unset, .unset, .unset, .unset] [])) _
    refine XS.iload X0.here hx rfl (hb hby at_28) rfl ?_
    show Steps p.tables e below (s₁.setTop (mkF m 30 #[.val (.int i0), .val (.int i1), .val (.long i2), .second, .val (.int (Int32.ofNat n)), .val (.int (Int32.ofNat mx)), .unset, .unset, .unset, .unset] [(.int (Int32.ofNat n))])) _
    refine XS.lloadN X0.here hx rfl (hb hby at_30) rfl ?_
    refine st1 _ ?_
    show Steps p.tables e below (T1.setTop (mkF m 34 #[.val (.int i0), .val (.int i1), .val (.long i2), .second, .val (.int (Int32.ofNat n)), .val (.int (Int32.ofNat mx)), .unset, .unset, .unset, .unset] [(.ref d)])) _
    refine XS.astore X1.here hx rfl (hb hby at_34) rfl rfl (l' := #[.val (.int i0), .val (.int i1), .val (.long i2), .second, .val (.int (Int32.ofNat n)), .val (.int (Int32.ofNat mx)), .val (.ref d), .unset, .unset, .unset]) rfl ?_
    show Steps p.tables e below (T1.setTop (mkF m 36 #[.val (.int i0), .val (.int i1), .val (.long i2), .second, .val (.int (Int32.ofNat n)), .val (.int (Int32.ofNat mx)), .val (.ref d), .unset, .unset, .unset] [])) _
    refine XS.aload X1.here hx rfl (hb hby at_36) rfl rfl ?_
    show Steps p.tables e below (T1.setTop (mkF m 38 #[.val (.int i0), .val (.int i1), .val (.long i2), .second, .val (.int (Int32.ofNat n)), .val (.int (Int32.ofNat mx)), .val (.ref d), .unset, .unset, .unset] [(.ref d)])) _
    refine XS.iload X1.here hx rfl (hb hby at_38) rfl ?_
    refine st2 _ (sa _ ?_)
    show Steps p.tables e below (Ts4.setTop (mkF m 155 #[.val (.int i0), .val (.int i1), .val (.long i2), .second, .val (.int (Int32.ofNat n)), .val (.int (Int32.ofNat mx)), .val (.ref d), .val (.ref r), .val (.int (Int32.ofNat rl)), .val (.int (1 : Int32))] [])) _
    refine XS.iload Xs4.here hx rfl (hb hby at_155) rfl ?_
    show Steps p.tables e below (Ts4.setTop (mkF m 157 #[.val (.int i0), .val (.int i1), .val (.long i2), .second, .val (.int (Int32.ofNat n)), .val (.int (Int32.ofNat mx)), .val (.ref d), .val (.ref r), .val (.int (Int32.ofNat rl)), .val (.int (1 : Int32))] [(.int (Int32.ofNat n))])) _
    refine XS.iload Xs4.here hx rfl (hb hby at_157) rfl ?_
    show Steps p.tables e below (Ts4.setTop (mkF m 159 #[.val (.int i0), .val (.int i1), .val (.long i2), .second, .val (.int (Int32.ofNat n)), .val (.int (Int32.ofNat mx)), .val (.ref d), .val (.ref r), .val (.int (Int32.ofNat rl)), .val (.int (1 : Int32))] [(.int (Int32.ofNat mx)), (.int (Int32.ofNat n))])) _
    refine XS.icmpNo Xs4.here hx rfl (hb hby at_159) rfl (flt (own_nlt (by omega) hm)).2.2.1 ?_
    show Steps p.tables e below (Ts4.setTop (mkF m 162 #[.val (.int i0), .val (.int i1), .val (.long i2), .second, .val (.int (Int32.ofNat n)), .val (.int (Int32.ofNat mx)), .val (.ref d), .val (.ref r), .val (.int (Int32.ofNat rl)), .val (.int (1 : Int32))] [])) _
    refine XS.iload Xs4.here hx rfl (hb hby at_162) rfl ?_
    show Steps p.tables e below (Ts4.setTop (mkF m 164 #[.val (.int i0), .val (.int i1), .val (.long i2), .second, .val (.int (Int32.ofNat n)), .val (.int (Int32.ofNat mx)), .val (.ref d), .val (.ref r), .val (.int (Int32.ofNat rl)), .val (.int (1 : Int32))] [(.int (Int32.ofNat rl))])) _
    refine XS.iload Xs4.here hx rfl (hb hby at_164) rfl ?_
    show Steps p.tables e below (Ts4.setTop (mkF m 166 #[.val (.int i0), .val (.int i1), .val (.long i2), .second, .val (.int (Int32.ofNat n)), .val (.int (Int32.ofNat mx)), .val (.ref d), .val (.ref r), .val (.int (Int32.ofNat rl)), .val (.int (1 : Int32))] [(.int (Int32.ofNat n)), (.int (Int32.ofNat rl))])) _
    refine XS.icmpNo Xs4.here hx rfl (hb hby at_166) rfl (teq (by rw [hrl] : Int32.ofNat rl = Int32.ofNat n)).2 ?_
    show Steps p.tables e below (Ts4.setTop (mkF m 169 #[.val (.int i0), .val (.int i1), .val (.long i2), .second, .val (.int (Int32.ofNat n)), .val (.int (Int32.ofNat mx)), .val (.ref d), .val (.ref r), .val (.int (Int32.ofNat rl)), .val (.int (1 : Int32))] [])) _
    refine XS.iconst Xs4.here hx rfl (hb hby at_169) ?_
    show Steps p.tables e below (Ts4.setTop (mkF m 170 #[.val (.int i0), .val (.int i1), .val (.long i2), .second, .val (.int (Int32.ofNat n)), .val (.int (Int32.ofNat mx)), .val (.ref d), .val (.ref r), .val (.int (Int32.ofNat rl)), .val (.int (1 : Int32))] [(.int (1 : Int32))])) _
    refine XS.goto Xs4.here hx rfl (pc0 := 170) (pc' := 174) rfl (hb hby at_170) (by decide) (by decide) ?_
    exact retN Xs4 hx (t := .boolean) Bd.returns (by simp) (hb hby at_174) hr
set_option maxRecDepth 65536 in
set_option maxHeartbeats 40000000 in
theorem comes_1 {Post : Tables → Env → Array Value → State → Outcome → State → Prop} (hpost : ∀ tb e args s v u, (limb_1_1.after args s (.returned v) u = true ∧ limb_1_2.after args s (.returned v) u = true ∧ True) → FrameEnd s (.returned v) u (Jvm.fieldLocs frame_1_writes args s ++ Jvm.arrayLocs frame_1_arrays args s ++ Jvm.staticLocs frame_1_statics s) 16 128 → Post tb e args s (.returned v) u) :
    ArmFor flags0 classFile x code maxLocals ret World_1 tables_1 room_1 Calls_1 rest_1 Pre_1 Post := by
  intro l hfl _ _ p e ha hc hk s m args below hf hA hF happ hP
  obtain ⟨hcalls, hrest, hpre⟩ := hP
  obtain ⟨-, -, -, hnamed, -, -, -, hat⟩ := (Spec.applies_iff hf).mp happ
  obtain ⟨hg, hn⟩ := and_e (Cond.before_iff.mp (show (Jvm.Cond.and given_1 narrow_1).before args s = true from hpre))
  obtain ⟨h1, g0⟩ := and_e hg
  obtain ⟨w0, w1, w2, rfl⟩ : ∃ w0 w1 w2 : Value, args = #[w0, w1, w2] := by
    have hs : args.size = 3 := by simpa [Cond.value, given_1] using h1
    obtain ⟨L⟩ := args
    match L, hs with
    | [w0, w1, w2], _ => exact ⟨w0, w1, w2, rfl⟩
  have hw := fun d (hd : d ∈ tables_1) => atoms_spec (ws := Jvm.Cond.code x code maxLocals ret :: tables_1) hat d (List.mem_cons_of_mem _ hd)
  obtain ⟨q0, g1⟩ := and_e g0
  obtain ⟨q1, g2⟩ := and_e g1
  have q2 := g2
  obtain ⟨i0, e0⟩ := is_v q0
  obtain rfl : w0 = (.int i0) := Option.some.inj e0
  obtain ⟨i1, e1⟩ := is_v q1
  obtain rfl : w1 = (.int i1) := Option.some.inj e1
  obtain ⟨i2, e2⟩ := isL_v q2
  obtain rfl : w2 = (.long i2) := Option.some.inj e2
  obtain ⟨n, o, h1, h2, h3, _, L, rfl, ⟨rfl, N⟩, hq⟩ := rm0 l s _ hw tables_1 i0 i1 i2 s.heap s.heap.size (Nat.le_refl _) p e ha hc hk s m _ below hf ((Spec.applies_iff_loose hf).mp happ).1 ⟨rfl, State.Warmed39.refl s, rfl⟩ trivial
  refine ⟨n, _, h1, h2, h3, hpost _ _ _ _ _ _ ⟨Cond.after_iff.mpr rfl, Cond.after_iff.mpr (eq_i res_at (Term.int_eval (1)) rfl), trivial⟩ ⟨hq.1, hq.2.1, (hq.2.2.sift fun y hy => Or.inr (N y hy)).mono (by decide) (by decide)⟩⟩
theorem main_1_1 : Claimed_1_1 := comes_1 fun _ _ _ _ _ _ h hF => ⟨h.1, hF⟩
theorem main_1_2 : Claimed_1_2 := comes_1 fun _ _ _ _ _ _ h hF => ⟨h.2.1, hF⟩
end Jvm.Pilot.@@N@@
namespace Jvm.Pilot.@@N@@
open Jvm Jvm.ClassFile Sem Op Lib Jvm.Free Jvm.Stand Jvm.Pilot.@@N@@.Jvm.D
/-! MADE BY PROGRAM (witnessworld.py) out of the Statement's table words and the real class files: 12 classes; the members and pool entries that the words name. The judged class is class 1, her method 1. -/
namespace start1
open Jvm.ClassFile
def u (s : String) : CpInfo := .utf8 (stringToUtf16 s)
/-- a pool by its gaps: so many unusable entries, then the entry; so many at the end -/
def gap : Nat → List CpInfo → List CpInfo
  | 0, r => r
  | n + 1, r => .unusable :: gap n r
def poolList (es : List (Nat × CpInfo)) (last : Nat) : List CpInfo := es.foldr (fun e r => gap e.1 (e.2 :: r)) (gap last [])
def pool (es : List (Nat × CpInfo)) (last : Nat) : Array CpInfo := ⟨poolList es last⟩
def fileOf (pool : Array CpInfo) (this : Nat) (attrs : Array Attribute := #[]) (ms : Array MethodInfo := #[]) (fl : Nat := 33) (sup : Nat := 0) (ifs : Array Nat := #[]) (fds : Array FieldInfo := #[]) : ClassFile where
  minorVersion := 0
  majorVersion := 65
  constantPool := pool
  accessFlags := fl
  thisClass := this
  superClass := sup
  interfaces := ifs
  fields := fds
  methods := ms
  attributes := attrs
def plain (name : String) (sup : Option ClassId) : Class where
  name := name
  kind := .ordinary
  loader := none
  accessFlags := 33
  super := sup
  interfaces := #[]
  cf := none
  fields := #[]
  methods := #[]
  instanceTypes := #[]
  staticTypes := #[]
  resolved := #[]
  callSites := []
  init := .initialized
  statics := none
  mirror := none

def pool0 : Array CpInfo := pool [(5, u "<init>"), (0, u "()V"), (1, .class_ 10), (1, u "java/lang/Object")] 113

def k0m0 : Method := { name := "<init>", desc := "()V", sig := { parameters := [], returnType := none }, accessFlags := 1, code := none }
/-- java/lang/Object -/
def k0 : Class := { plain "java/lang/Object" none with
  accessFlags := 33
  interfaces := #[]
  cf := some (fileOf pool0 8 #[] #[{ accessFlags := 1, nameIndex := 5, descriptorIndex := 6, attributes := #[] }] 33 0 #[] #[])
  fields := #[]
  methods := #[k0m0]
  instanceTypes := #[]
  staticTypes := #[]
  resolved := Array.replicate 124 none
  statics := none }

def pool1 : Array CpInfo := pool [(2, .class_ 4), (1, u "java/lang/Object"), (0, u "<init>"), (0, u "()V"), (0, .integer 2147483647), (0, .methodref 9 10), (0, .class_ 11), (0, .nameAndType 12 13), (0, u "com/example/tend/tend/protocol/Utf8TailPinLaw"), (0, u "make"), (0, u "(IJ)[B"), (0, .methodref 15 16), (0, .class_ 17), (0, .nameAndType 18 19), (0, u "com/example/tend/tend/protocol/Utf8"), (0, u "tail"), (0, u "([BI)[B"), (0, .methodref 9 21), (0, .nameAndType 22 23), (0, u "same"), (0, u "([B[BIII)Z"), (0, .methodref 9 25), (0, .nameAndType 26 27), (0, u "cont"), (0, u "(B)Z"), (0, .methodref 9 29), (0, .nameAndType 30 31), (0, u "skipped"), (0, u "([BIIII)Z"), (0, .methodref 9 33), (0, .nameAndType 34 35), (0, u "bk"), (0, u "(JI)B"), (2, u "law"), (0, u "(IIJ)Z")] 5

def k1m0 : Method := { name := "<init>", desc := "()V", sig := { parameters := [], returnType := none }, accessFlags := 1, code := none }
def k1c1 : Code := { maxStack := 5, maxLocals := 10, code := code, exceptionTable := #[], attributes := #[] }
def k1m1 : Method := { name := "law", desc := "(IIJ)Z", sig := { parameters := [.int, .int, .long], returnType := some .boolean }, accessFlags := 9, code := some k1c1 }
def k1c2 : Code := { maxStack := 2, maxLocals := 1, code := method_3_code, exceptionTable := #[], attributes := #[] }
def k1m2 : Method := { name := "cont", desc := "(B)Z", sig := { parameters := [.byte], returnType := some .boolean }, accessFlags := 10, code := some k1c2 }
def k1c3 : Code := { maxStack := 4, maxLocals := 5, code := method_4_code, exceptionTable := #[], attributes := #[] }
def k1m3 : Method := { name := "same", desc := "([B[BIII)Z", sig := { parameters := [(.array .byte), (.array .byte), .int, .int, .int], returnType := some .boolean }, accessFlags := 10, code := some k1c3 }
def k1c4 : Code := { maxStack := 3, maxLocals := 5, code := method_5_code, exceptionTable := #[], attributes := #[] }
def k1m4 : Method := { name := "skipped", desc := "([BIIII)Z", sig := { parameters := [(.array .byte), .int, .int, .int, .int], returnType := some .boolean }, accessFlags := 10, code := some k1c4 }
def k1c5 : Code := { maxStack := 4, maxLocals := 3, code := method_6_code, exceptionTable := #[], attributes := #[] }
def k1m5 : Method := { name := "bk", desc := "(JI)B", sig := { parameters := [.long, .int], returnType := some .byte }, accessFlags := 10, code := some k1c5 }
def k1c6 : Code := { maxStack := 6, maxLocals := 3, code := method_7_code, exceptionTable := #[], attributes := #[] }
def k1m6 : Method := { name := "make", desc := "(IJ)[B", sig := { parameters := [.int, .long], returnType := some (.array .byte) }, accessFlags := 10, code := some k1c6 }
/-- com/example/tend/tend/protocol/Utf8TailPinLaw -/
def k1 : Class := { plain "com/example/tend/tend/protocol/Utf8TailPinLaw" (some 0) with
  accessFlags := 49
  interfaces := #[]
  cf := some (fileOf pool1 9 #[] #[{ accessFlags := 1, nameIndex := 5, descriptorIndex := 6, attributes := #[] }, { accessFlags := 9, nameIndex := 38, descriptorIndex := 39, attributes := #[] }, { accessFlags := 10, nameIndex := 26, descriptorIndex := 27, attributes := #[] }, { accessFlags := 10, nameIndex := 22, descriptorIndex := 23, attributes := #[] }, { accessFlags := 10, nameIndex := 30, descriptorIndex := 31, attributes := #[] }, { accessFlags := 10, nameIndex := 34, descriptorIndex := 35, attributes := #[] }, { accessFlags := 10, nameIndex := 12, descriptorIndex := 13, attributes := #[] }] 49 2 #[] #[])
  fields := #[]
  methods := #[k1m0, k1m1, k1m2, k1m3, k1m4, k1m5, k1m6]
  instanceTypes := #[]
  staticTypes := #[]
  resolved := Array.replicate 45 none
  statics := none }

def pool2 : Array CpInfo := pool [(2, .class_ 4), (1, u "java/lang/Object"), (0, u "<init>"), (0, u "()V"), (22, .methodref 30 31), (0, .class_ 32), (0, .nameAndType 33 34), (0, u "com/example/tend/tend/protocol/Utf8"), (0, u "continues"), (0, u "(B)Z"), (1, .class_ 38), (1, u "java/util/Arrays"), (1, u "([BI)[B"), (0, .methodref 36 42), (0, .nameAndType 43 44), (0, u "copyOfRange"), (0, u "([BII)[B"), (0, u "TEXT_RULE"), (0, u "Ljava/lang/String;"), (9, u "tail")] 2

def k2m0 : Method := { name := "<init>", desc := "()V", sig := { parameters := [], returnType := none }, accessFlags := 2, code := none }
def k2c1 : Code := { maxStack := 3, maxLocals := 3, code := prog_29_method_4_code, exceptionTable := #[], attributes := #[] }
def k2m1 : Method := { name := "tail", desc := "([BI)[B", sig := { parameters := [(.array .byte), .int], returnType := some (.array .byte) }, accessFlags := 9, code := some k2c1 }
def k2c2 : Code := { maxStack := 2, maxLocals := 1, code := prog_29_method_5_code, exceptionTable := #[], attributes := #[] }
def k2m2 : Method := { name := "continues", desc := "(B)Z", sig := { parameters := [.byte], returnType := some .boolean }, accessFlags := 9, code := some k2c2 }
/-- com/example/tend/tend/protocol/Utf8 -/
def k2 : Class := { plain "com/example/tend/tend/protocol/Utf8" (some 0) with
  accessFlags := 33
  interfaces := #[]
  cf := some (fileOf pool2 30 #[] #[{ accessFlags := 2, nameIndex := 5, descriptorIndex := 6, attributes := #[] }, { accessFlags := 9, nameIndex := 56, descriptorIndex := 40, attributes := #[] }, { accessFlags := 9, nameIndex := 33, descriptorIndex := 34, attributes := #[] }] 33 2 #[] #[{ accessFlags := 25, nameIndex := 45, descriptorIndex := 46, attributes := #[] }])
  fields := #[{ name := "TEXT_RULE", type := (.object "java/lang/String"), accessFlags := 25, slot := 0, constantValue := 0 }]
  methods := #[k2m0, k2m1, k2m2]
  instanceTypes := #[]
  staticTypes := #[(.object "java/lang/String")]
  resolved := Array.replicate 59 none
  statics := none }

def pool3 : Array CpInfo := pool [(2, .class_ 4), (1, u "java/lang/Object"), (0, u "<init>"), (0, u "()V"), (7, .class_ 16), (1, u "java/util/Arrays"), (57, .class_ 76), (1, u "java/util/Arrays$NaturalOrder"), (36, .class_ 115), (1, u "java/util/Arrays$LegacyMergeSort"), (1, u "Z"), (21, u "copyOfRange"), (10, .methodref 151 152), (0, .class_ 153), (0, .nameAndType 154 155), (0, u "java/lang/System"), (0, u "arraycopy"), (0, u "(Ljava/lang/Object;ILjava/lang/Object;II)V"), (148, .methodref 305 306), (0, .class_ 307), (0, .nameAndType 308 309), (0, u "java/lang/Math"), (0, u "min"), (0, u "(II)I"), (29, .methodref 14 340), (0, .nameAndType 341 342), (0, u "copyOfRangeByte"), (0, u "([BII)[B"), (0, .methodref 14 344), (0, .nameAndType 345 346), (0, u "checkLength"), (0, u "(II)V"), (28, .class_ 376), (0, u "java/util/Arrays$ArrayList"), (68, u "$assertionsDisabled"), (269, u "MIN_ARRAY_SORT_GRAN"), (0, u "I"), (2, u "INSERTIONSORT_THRESHOLD"), (255, .class_ 976), (0, u "java/util/Arrays$ArrayItr")] 52

def k3m0 : Method := { name := "<init>", desc := "()V", sig := { parameters := [], returnType := none }, accessFlags := 2, code := none }
def k3c1 : Code := { maxStack := 4, maxLocals := 2, code := jdk_65_method_131_code, exceptionTable := #[], attributes := #[] }
def k3m1 : Method := { name := "checkLength", desc := "(II)V", sig := { parameters := [.int, .int], returnType := none }, accessFlags := 10, code := some k3c1 }
def k3c2 : Code := { maxStack := 3, maxLocals := 3, code := jdk_65_method_132_code, exceptionTable := #[], attributes := #[] }
def k3m2 : Method := { name := "copyOfRange", desc := "([BII)[B", sig := { parameters := [(.array .byte), .int, .int], returnType := some (.array .byte) }, accessFlags := 9, code := some k3c2 }
def k3c3 : Code := { maxStack := 6, maxLocals := 5, code := jdk_65_method_133_code, exceptionTable := #[], attributes := #[] }
def k3m3 : Method := { name := "copyOfRangeByte", desc := "([BII)[B", sig := { parameters := [(.array .byte), .int, .int], returnType := some (.array .byte) }, accessFlags := 10, code := some k3c3 }
/-- java/util/Arrays -/
def k3 : Class := { plain "java/util/Arrays" (some 0) with
  accessFlags := 49
  interfaces := #[]
  cf := some (fileOf pool3 14 #[.nestMembers #[975, 375, 113, 74]] #[{ accessFlags := 2, nameIndex := 5, descriptorIndex := 6, attributes := #[] }, { accessFlags := 10, nameIndex := 345, descriptorIndex := 346, attributes := #[] }, { accessFlags := 9, nameIndex := 139, descriptorIndex := 342, attributes := #[] }, { accessFlags := 10, nameIndex := 341, descriptorIndex := 342, attributes := #[] }] 49 2 #[] #[{ accessFlags := 26, nameIndex := 715, descriptorIndex := 716, attributes := #[] }, { accessFlags := 26, nameIndex := 719, descriptorIndex := 716, attributes := #[] }, { accessFlags := 4120, nameIndex := 445, descriptorIndex := 117, attributes := #[] }])
  fields := #[{ name := "MIN_ARRAY_SORT_GRAN", type := .int, accessFlags := 26, slot := 0, constantValue := 0 }, { name := "INSERTIONSORT_THRESHOLD", type := .int, accessFlags := 26, slot := 1, constantValue := 0 }, { name := "$assertionsDisabled", type := .boolean, accessFlags := 4120, slot := 2, constantValue := 0 }]
  methods := #[k3m0, k3m1, k3m2, k3m3]
  instanceTypes := #[]
  staticTypes := #[.int, .int, .boolean]
  resolved := Array.replicate 1029 none
  statics := none }

def pool4 : Array CpInfo := pool [(1, .class_ 2), (0, u "java/lang/Math"), (1, .class_ 6), (1, u "java/lang/Object"), (0, u "<init>"), (0, u "()V"), (89, .class_ 100), (1, u "java/lang/Math$RandomNumberGeneratorHolder"), (71, u "negativeZeroFloatBits"), (0, u "J"), (2, u "negativeZeroDoubleBits"), (24, u "min"), (43, u "$assertionsDisabled"), (0, u "Z"), (88, u "(II)I"), (2, u "twoToTheDoubleScaleDown"), (0, u "D"), (4, u "twoToTheDoubleScaleUp"), (9, u "E"), (3, u "PI"), (2, u "TAU"), (2, u "DEGREES_TO_RADIANS"), (0, u "RADIANS_TO_DEGREES")] 94

def k4m0 : Method := { name := "<init>", desc := "()V", sig := { parameters := [], returnType := none }, accessFlags := 2, code := none }
def k4c1 : Code := { maxStack := 2, maxLocals := 2, code := jdk_29_method_69_code, exceptionTable := #[], attributes := #[] }
def k4m1 : Method := { name := "min", desc := "(II)I", sig := { parameters := [.int, .int], returnType := some .int }, accessFlags := 9, code := some k4c1 }
/-- java/lang/Math -/
def k4 : Class := { plain "java/lang/Math" (some 0) with
  accessFlags := 49
  interfaces := #[]
  cf := some (fileOf pool4 1 #[.nestMembers #[98]] #[{ accessFlags := 2, nameIndex := 7, descriptorIndex := 8, attributes := #[] }, { accessFlags := 9, nameIndex := 201, descriptorIndex := 335, attributes := #[] }] 49 4 #[] #[{ accessFlags := 25, nameIndex := 354, descriptorIndex := 339, attributes := #[] }, { accessFlags := 25, nameIndex := 358, descriptorIndex := 339, attributes := #[] }, { accessFlags := 25, nameIndex := 361, descriptorIndex := 339, attributes := #[] }, { accessFlags := 26, nameIndex := 364, descriptorIndex := 339, attributes := #[] }, { accessFlags := 26, nameIndex := 365, descriptorIndex := 339, attributes := #[] }, { accessFlags := 26, nameIndex := 172, descriptorIndex := 173, attributes := #[] }, { accessFlags := 26, nameIndex := 176, descriptorIndex := 173, attributes := #[] }, { accessFlags := 8, nameIndex := 344, descriptorIndex := 339, attributes := #[] }, { accessFlags := 8, nameIndex := 338, descriptorIndex := 339, attributes := #[] }, { accessFlags := 4120, nameIndex := 245, descriptorIndex := 246, attributes := #[] }])
  fields := #[{ name := "E", type := .double, accessFlags := 25, slot := 0, constantValue := 0 }, { name := "PI", type := .double, accessFlags := 25, slot := 1, constantValue := 0 }, { name := "TAU", type := .double, accessFlags := 25, slot := 2, constantValue := 0 }, { name := "DEGREES_TO_RADIANS", type := .double, accessFlags := 26, slot := 3, constantValue := 0 }, { name := "RADIANS_TO_DEGREES", type := .double, accessFlags := 26, slot := 4, constantValue := 0 }, { name := "negativeZeroFloatBits", type := .long, accessFlags := 26, slot := 5, constantValue := 0 }, { name := "negativeZeroDoubleBits", type := .long, accessFlags := 26, slot := 6, constantValue := 0 }, { name := "twoToTheDoubleScaleUp", type := .double, accessFlags := 8, slot := 7, constantValue := 0 }, { name := "twoToTheDoubleScaleDown", type := .double, accessFlags := 8, slot := 8, constantValue := 0 }, { name := "$assertionsDisabled", type := .boolean, accessFlags := 4120, slot := 9, constantValue := 0 }]
  methods := #[k4m0, k4m1]
  instanceTypes := #[]
  staticTypes := #[.double, .double, .double, .double, .double, .long, .long, .double, .double, .boolean]
  resolved := Array.replicate 460 none
  statics := none }

def pool5 : Array CpInfo := pool [(2, .class_ 4), (1, u "java/lang/Object"), (0, u "<init>"), (0, u "()V"), (1, .class_ 10), (1, u "java/lang/System"), (0, u "allowSecurityManager"), (0, u "I"), (16, u "cons"), (0, u "Ljava/io/Console;"), (77, .class_ 110), (1, u "java/lang/System$CallersHolder"), (43, u "initialErrStream"), (0, u "Ljava/io/PrintStream;"), (19, u "security"), (0, u "Ljava/lang/SecurityManager;"), (31, .class_ 209), (0, u "java/lang/System$1"), (7, u "props"), (0, u "Ljava/util/Properties;"), (2, u "lineSeparator"), (0, u "Ljava/lang/String;"), (96, .class_ 321), (1, u "java/lang/System$LoggerFinder"), (5, .class_ 328), (0, u "java/lang/System$Logger"), (67, u "err"), (2, u "out"), (91, u "notSupportedJnuEncoding"), (15, u "in"), (17, u "initialIn"), (0, u "Ljava/io/InputStream;"), (35, u "bootLayer"), (0, u "Ljava/lang/ModuleLayer;"), (99, .class_ 664), (0, u "java/lang/System$2"), (9, u "NEVER"), (2, u "MAYBE"), (49, u "arraycopy"), (0, u "(Ljava/lang/Object;ILjava/lang/Object;II)V"), (72, .class_ 802), (0, u "java/lang/System$Logger$Level")] 31

def k5m0 : Method := { name := "<init>", desc := "()V", sig := { parameters := [], returnType := none }, accessFlags := 2, code := none }
def k5m1 : Method := { name := "arraycopy", desc := "(Ljava/lang/Object;ILjava/lang/Object;II)V", sig := { parameters := [(.object "java/lang/Object"), .int, (.object "java/lang/Object"), .int, .int], returnType := none }, accessFlags := 265, code := none }
/-- java/lang/System -/
def k5 : Class := { plain "java/lang/System" (some 0) with
  accessFlags := 49
  interfaces := #[]
  cf := some (fileOf pool5 8 #[.nestMembers #[319, 327, 801, 108, 663, 208]] #[{ accessFlags := 2, nameIndex := 5, descriptorIndex := 6, attributes := #[] }, { accessFlags := 265, nameIndex := 727, descriptorIndex := 728, attributes := #[] }] 49 2 #[] #[{ accessFlags := 25, nameIndex := 507, descriptorIndex := 526, attributes := #[] }, { accessFlags := 25, nameIndex := 399, descriptorIndex := 155, attributes := #[] }, { accessFlags := 25, nameIndex := 396, descriptorIndex := 155, attributes := #[] }, { accessFlags := 10, nameIndex := 525, descriptorIndex := 526, attributes := #[] }, { accessFlags := 26, nameIndex := 674, descriptorIndex := 12, attributes := #[] }, { accessFlags := 26, nameIndex := 677, descriptorIndex := 12, attributes := #[] }, { accessFlags := 10, nameIndex := 11, descriptorIndex := 12, attributes := #[] }, { accessFlags := 74, nameIndex := 175, descriptorIndex := 176, attributes := #[] }, { accessFlags := 10, nameIndex := 491, descriptorIndex := 222, attributes := #[] }, { accessFlags := 74, nameIndex := 29, descriptorIndex := 30, attributes := #[] }, { accessFlags := 74, nameIndex := 154, descriptorIndex := 155, attributes := #[] }, { accessFlags := 10, nameIndex := 217, descriptorIndex := 218, attributes := #[] }, { accessFlags := 10, nameIndex := 221, descriptorIndex := 222, attributes := #[] }, { accessFlags := 8, nameIndex := 562, descriptorIndex := 563, attributes := #[] }])
  fields := #[{ name := "in", type := (.object "java/io/InputStream"), accessFlags := 25, slot := 0, constantValue := 0 }, { name := "out", type := (.object "java/io/PrintStream"), accessFlags := 25, slot := 1, constantValue := 0 }, { name := "err", type := (.object "java/io/PrintStream"), accessFlags := 25, slot := 2, constantValue := 0 }, { name := "initialIn", type := (.object "java/io/InputStream"), accessFlags := 10, slot := 3, constantValue := 0 }, { name := "NEVER", type := .int, accessFlags := 26, slot := 4, constantValue := 0 }, { name := "MAYBE", type := .int, accessFlags := 26, slot := 5, constantValue := 0 }, { name := "allowSecurityManager", type := .int, accessFlags := 10, slot := 6, constantValue := 0 }, { name := "security", type := (.object "java/lang/SecurityManager"), accessFlags := 74, slot := 7, constantValue := 0 }, { name := "notSupportedJnuEncoding", type := (.object "java/lang/String"), accessFlags := 10, slot := 8, constantValue := 0 }, { name := "cons", type := (.object "java/io/Console"), accessFlags := 74, slot := 9, constantValue := 0 }, { name := "initialErrStream", type := (.object "java/io/PrintStream"), accessFlags := 74, slot := 10, constantValue := 0 }, { name := "props", type := (.object "java/util/Properties"), accessFlags := 10, slot := 11, constantValue := 0 }, { name := "lineSeparator", type := (.object "java/lang/String"), accessFlags := 10, slot := 12, constantValue := 0 }, { name := "bootLayer", type := (.object "java/lang/ModuleLayer"), accessFlags := 8, slot := 13, constantValue := 0 }]
  methods := #[k5m0, k5m1]
  instanceTypes := #[]
  staticTypes := #[(.object "java/io/InputStream"), (.object "java/io/PrintStream"), (.object "java/io/PrintStream"), (.object "java/io/InputStream"), .int, .int, .int, (.object "java/lang/SecurityManager"), (.object "java/lang/String"), (.object "java/io/Console"), (.object "java/io/PrintStream"), (.object "java/util/Properties"), (.object "java/lang/String"), (.object "java/lang/ModuleLayer")]
  resolved := Array.replicate 834 none
  statics := none }

def pool6 : Array CpInfo := pool [(1, u "java/lang/Cloneable"), (0, .class_ 1), (0, u "java/lang/Object"), (0, .class_ 3)] 3

/-- java/lang/Cloneable -/
def k6 : Class := { plain "java/lang/Cloneable" (some 0) with
  accessFlags := 1537
  interfaces := #[]
  cf := some (fileOf pool6 2 #[] #[] 1537 4 #[] #[])
  fields := #[]
  methods := #[]
  instanceTypes := #[]
  staticTypes := #[]
  resolved := Array.replicate 8 none
  statics := none }

def pool7 : Array CpInfo := pool [(1, u "java/io/Serializable"), (0, .class_ 1), (0, u "java/lang/Object"), (0, .class_ 3)] 3

/-- java/io/Serializable -/
def k7 : Class := { plain "java/io/Serializable" (some 0) with
  accessFlags := 1537
  interfaces := #[]
  cf := some (fileOf pool7 2 #[] #[] 1537 4 #[] #[])
  fields := #[]
  methods := #[]
  instanceTypes := #[]
  staticTypes := #[]
  resolved := Array.replicate 8 none
  statics := none }

/-- the primitive byte -/
def k8 : Class := { plain "byte" none with kind := .primitive 'B', accessFlags := 0x411 }
/-- [B -/
def k9 : Class := { plain "[B" (some 0) with kind := .array 8 .byte, interfaces := #[6, 7], accessFlags := 1041 }

/-- the primitive int -/
def k10 : Class := { plain "int" none with kind := .primitive 'I', accessFlags := 0x411 }
/-- [I -/
def k11 : Class := { plain "[I" (some 0) with kind := .array 10 .int, interfaces := #[6, 7], accessFlags := 1041 }

def heap : Heap := #[]
def classes : Array Class := #[k0, k1, k2, k3, k4, k5, k6, k7, k8, k9, k10, k11]
def interned : List (Array UInt16 × Addr) := []
def slotsUsed : Nat := 0
def theMethod : MethodId := ⟨1, 1⟩
def args0 : Array Value := #[.int 3, .int 2, .long 8454143]
def aboutOver (below : List Frame) : State where
  vm := { classes := classes, interned := interned.toArray }
  heap := heap
  slotsUsed := slotsUsed
  threads := #[{ frames := .invoking theMethod args0 :: below }]
def below0 : List Frame := [.native { method := ⟨0, 0⟩, args := #[] }]
def about1 : State := aboutOver below0
def p0 : Program := .bare "" "" ""
def e0 : Env := launch0.env 0 0 0
theorem w_frames : about1.frames = Frame.invoking theMethod args0 :: below0 := rfl
set_option maxRecDepth 65536 in
theorem w_args : argsFit about1.vm theMethod args0 = true := by decide +kernel
set_option maxRecDepth 65536 in
theorem w_heap : heapFits about1 = true := by decide +kernel
set_option maxRecDepth 65536 in
theorem w_runnable : about1.curStatus? = some .runnable := by decide +kernel
set_option maxRecDepth 65536 in
theorem w_alone : about1.alone = true := by decide +kernel
set_option maxRecDepth 65536 in
theorem w_named : about1.methodNamed? x = some theMethod := by decide +kernel
set_option maxRecDepth 65536 in
theorem w_hears : about1.hears theMethod below0 = true := by decide +kernel
set_option maxRecDepth 65536 in
theorem w_ripe : about1.ripe theMethod args0 below0 = true := by decide +kernel
theorem w_running : about1.status = .running := rfl
set_option maxRecDepth 65536 in
theorem w_room : about1.hasRoom e0.platform room_1 = true :=
  launch0.hasRoom_least _ room_1 (by decide +kernel) (by decide +kernel) (by decide +kernel) (by decide +kernel) (by decide +kernel) (by decide +kernel)
theorem allAtoms_all (ts : List Jvm.Cond) (a : Array Jvm.Value) (st : Jvm.State) : (allAtoms ts).before a st = ts.all (fun c => c.before a st) := by
  induction ts with
  | nil => rfl
  | cons c t ih =>
    show (Jvm.Cond.and c (allAtoms t)).before a st = _
    rw [Jvm.Cond.before_and, ih, List.all_cons]
def words1 : List Jvm.Cond := Jvm.Cond.code x code maxLocals ret :: tables_1
/-- a 'code' word, met by the world's own term for the bytes: nothing is compared byte by byte -/
theorem code_word {y : MethodName} {bytes : ByteArray} {mx : Nat} {rt : Option FieldType} {a : Array Value} {s : State} {m : MethodId} {meth : Method} {c : Code} (h1 : s.methodNamed? y = some m) (h2 : s.vm.method? m = some meth) (h3 : meth.code = some c) (h4 : c.code = bytes)
    (h5 : (c.maxLocals == mx && c.exceptionTable.isEmpty && decide (c.maxStack ≤ mostOperands) && decide (meth.sig.returnType = rt) && !meth.locks && decide (parseMethodDescriptor y.desc = some meth.sig)) = true) : (Jvm.Cond.code y bytes mx rt).before a s = true := by
  simp only [Bool.and_eq_true, beq_iff_eq, Bool.not_eq_true', decide_eq_true_eq] at h5
  obtain ⟨⟨⟨⟨⟨g1, g2⟩, g3⟩, g4⟩, g5⟩, g6⟩ := h5
  simp [Cond.before, Cond.holds, Cond.value, h1, h2, h3, h4, g1, g2, g3, g4, g5, g6]
def isCode : Jvm.Cond → Bool
  | .code _ _ _ _ => true
  | _ => false
theorem all_split {L : List Jvm.Cond} {P : Jvm.Cond → Bool} (h1 : L.all (fun c => isCode c || P c) = true) (h2 : ∀ c ∈ L.filter isCode, P c = true) : L.all P = true := by
  refine List.all_eq_true.mpr fun c hc => ?_
  have h := List.all_eq_true.mp h1 c hc
  rcases Bool.eq_false_or_eq_true (isCode c) with hi | hi
  · exact h2 c (List.mem_filter.mpr ⟨hc, hi⟩)
  · simpa [hi] using h
set_option maxRecDepth 65536 in
theorem w_c0 : (Jvm.Cond.code x code maxLocals ret).before args0 about1 = true := code_word (m := ⟨1, 1⟩) (meth := k1m1) (c := k1c1) (by decide +kernel) rfl rfl rfl (by decide +kernel)
set_option maxRecDepth 65536 in
theorem w_c1 : (Jvm.Cond.code ({ cls := "com/example/tend/tend/protocol/Utf8TailPinLaw", name := "make", desc := "(IJ)[B" } : Jvm.MethodName) method_7_code (3 : Nat) (Option.some (Jvm.ClassFile.FieldType.array Jvm.ClassFile.FieldType.byte))).before args0 about1 = true := code_word (m := ⟨1, 6⟩) (meth := k1m6) (c := k1c6) (by decide +kernel) rfl rfl rfl (by decide +kernel)
set_option maxRecDepth 65536 in
theorem w_c2 : (Jvm.Cond.code ({ cls := "com/example/tend/tend/protocol/Utf8", name := "tail", desc := "([BI)[B" } : Jvm.MethodName) prog_29_method_4_code (3 : Nat) (Option.some (Jvm.ClassFile.FieldType.array Jvm.ClassFile.FieldType.byte))).before args0 about1 = true := code_word (m := ⟨2, 1⟩) (meth := k2m1) (c := k2c1) (by decide +kernel) rfl rfl rfl (by decide +kernel)
set_option maxRecDepth 65536 in
theorem w_c3 : (Jvm.Cond.code ({ cls := "com/example/tend/tend/protocol/Utf8TailPinLaw", name := "same", desc := "([B[BIII)Z" } : Jvm.MethodName) method_4_code (5 : Nat) (Option.some Jvm.ClassFile.FieldType.boolean)).before args0 about1 = true := code_word (m := ⟨1, 3⟩) (meth := k1m3) (c := k1c3) (by decide +kernel) rfl rfl rfl (by decide +kernel)
set_option maxRecDepth 65536 in
theorem w_c4 : (Jvm.Cond.code ({ cls := "com/example/tend/tend/protocol/Utf8TailPinLaw", name := "bk", desc := "(JI)B" } : Jvm.MethodName) method_6_code (3 : Nat) (Option.some Jvm.ClassFile.FieldType.byte)).before args0 about1 = true := code_word (m := ⟨1, 5⟩) (meth := k1m5) (c := k1c5) (by decide +kernel) rfl rfl rfl (by decide +kernel)
set_option maxRecDepth 65536 in
theorem w_c5 : (Jvm.Cond.code ({ cls := "java/util/Arrays", name := "copyOfRange", desc := "([BII)[B" } : Jvm.MethodName) jdk_65_method_132_code (3 : Nat) (Option.some (Jvm.ClassFile.FieldType.array Jvm.ClassFile.FieldType.byte))).before args0 about1 = true := code_word (m := ⟨3, 2⟩) (meth := k3m2) (c := k3c2) (by decide +kernel) rfl rfl rfl (by decide +kernel)
set_option maxRecDepth 65536 in
theorem w_c6 : (Jvm.Cond.code ({ cls := "java/util/Arrays", name := "copyOfRangeByte", desc := "([BII)[B" } : Jvm.MethodName) jdk_65_method_133_code (5 : Nat) (Option.some (Jvm.ClassFile.FieldType.array Jvm.ClassFile.FieldType.byte))).before args0 about1 = true := code_word (m := ⟨3, 3⟩) (meth := k3m3) (c := k3c3) (by decide +kernel) rfl rfl rfl (by decide +kernel)
set_option maxRecDepth 65536 in
theorem w_c7 : (Jvm.Cond.code ({ cls := "java/util/Arrays", name := "checkLength", desc := "(II)V" } : Jvm.MethodName) jdk_65_method_131_code (2 : Nat) (Option.none : Option Jvm.ClassFile.FieldType)).before args0 about1 = true := code_word (m := ⟨3, 1⟩) (meth := k3m1) (c := k3c1) (by decide +kernel) rfl rfl rfl (by decide +kernel)
set_option maxRecDepth 65536 in
theorem w_c8 : (Jvm.Cond.code ({ cls := "java/lang/Math", name := "min", desc := "(II)I" } : Jvm.MethodName) jdk_29_method_69_code (2 : Nat) (Option.some Jvm.ClassFile.FieldType.int)).before args0 about1 = true := code_word (m := ⟨4, 1⟩) (meth := k4m1) (c := k4c1) (by decide +kernel) rfl rfl rfl (by decide +kernel)
set_option maxRecDepth 65536 in
theorem w_c9 : (Jvm.Cond.code ({ cls := "com/example/tend/tend/protocol/Utf8TailPinLaw", name := "skipped", desc := "([BIIII)Z" } : Jvm.MethodName) method_5_code (5 : Nat) (Option.some Jvm.ClassFile.FieldType.boolean)).before args0 about1 = true := code_word (m := ⟨1, 4⟩) (meth := k1m4) (c := k1c4) (by decide +kernel) rfl rfl rfl (by decide +kernel)
set_option maxRecDepth 65536 in
theorem w_c10 : (Jvm.Cond.code ({ cls := "com/example/tend/tend/protocol/Utf8", name := "continues", desc := "(B)Z" } : Jvm.MethodName) prog_29_method_5_code (1 : Nat) (Option.some Jvm.ClassFile.FieldType.boolean)).before args0 about1 = true := code_word (m := ⟨2, 2⟩) (meth := k2m2) (c := k2c2) (by decide +kernel) rfl rfl rfl (by decide +kernel)
set_option maxRecDepth 65536 in
theorem w_c11 : (Jvm.Cond.code ({ cls := "com/example/tend/tend/protocol/Utf8TailPinLaw", name := "cont", desc := "(B)Z" } : Jvm.MethodName) method_3_code (1 : Nat) (Option.some Jvm.ClassFile.FieldType.boolean)).before args0 about1 = true := code_word (m := ⟨1, 2⟩) (meth := k1m2) (c := k1c2) (by decide +kernel) rfl rfl rfl (by decide +kernel)
def codes1 : List Jvm.Cond := [Jvm.Cond.code x code maxLocals ret, Jvm.Cond.code ({ cls := "com/example/tend/tend/protocol/Utf8TailPinLaw", name := "make", desc := "(IJ)[B" } : Jvm.MethodName) method_7_code (3 : Nat) (Option.some (Jvm.ClassFile.FieldType.array Jvm.ClassFile.FieldType.byte)), Jvm.Cond.code ({ cls := "com/example/tend/tend/protocol/Utf8", name := "tail", desc := "([BI)[B" } : Jvm.MethodName) prog_29_method_4_code (3 : Nat) (Option.some (Jvm.ClassFile.FieldType.array Jvm.ClassFile.FieldType.byte)), Jvm.Cond.code ({ cls := "com/example/tend/tend/protocol/Utf8TailPinLaw", name := "same", desc := "([B[BIII)Z" } : Jvm.MethodName) method_4_code (5 : Nat) (Option.some Jvm.ClassFile.FieldType.boolean), Jvm.Cond.code ({ cls := "com/example/tend/tend/protocol/Utf8TailPinLaw", name := "bk", desc := "(JI)B" } : Jvm.MethodName) method_6_code (3 : Nat) (Option.some Jvm.ClassFile.FieldType.byte), Jvm.Cond.code ({ cls := "java/util/Arrays", name := "copyOfRange", desc := "([BII)[B" } : Jvm.MethodName) jdk_65_method_132_code (3 : Nat) (Option.some (Jvm.ClassFile.FieldType.array Jvm.ClassFile.FieldType.byte)), Jvm.Cond.code ({ cls := "java/util/Arrays", name := "copyOfRangeByte", desc := "([BII)[B" } : Jvm.MethodName) jdk_65_method_133_code (5 : Nat) (Option.some (Jvm.ClassFile.FieldType.array Jvm.ClassFile.FieldType.byte)), Jvm.Cond.code ({ cls := "java/util/Arrays", name := "checkLength", desc := "(II)V" } : Jvm.MethodName) jdk_65_method_131_code (2 : Nat) (Option.none : Option Jvm.ClassFile.FieldType), Jvm.Cond.code ({ cls := "java/lang/Math", name := "min", desc := "(II)I" } : Jvm.MethodName) jdk_29_method_69_code (2 : Nat) (Option.some Jvm.ClassFile.FieldType.int), Jvm.Cond.code ({ cls := "com/example/tend/tend/protocol/Utf8TailPinLaw", name := "skipped", desc := "([BIIII)Z" } : Jvm.MethodName) method_5_code (5 : Nat) (Option.some Jvm.ClassFile.FieldType.boolean), Jvm.Cond.code ({ cls := "com/example/tend/tend/protocol/Utf8", name := "continues", desc := "(B)Z" } : Jvm.MethodName) prog_29_method_5_code (1 : Nat) (Option.some Jvm.ClassFile.FieldType.boolean), Jvm.Cond.code ({ cls := "com/example/tend/tend/protocol/Utf8TailPinLaw", name := "cont", desc := "(B)Z" } : Jvm.MethodName) method_3_code (1 : Nat) (Option.some Jvm.ClassFile.FieldType.boolean)]
set_option maxRecDepth 65536 in
theorem codes_eq : words1.filter isCode = codes1 := rfl
theorem w_codes : ∀ c ∈ words1.filter isCode, c.before args0 about1 = true := by
  rw [codes_eq]
  intro c hc
  simp only [codes1, List.mem_cons, List.not_mem_nil, or_false] at hc
  rcases hc with rfl | rfl | rfl | rfl | rfl | rfl | rfl | rfl | rfl | rfl | rfl | rfl
  · exact w_c0
  · exact w_c1
  · exact w_c2
  · exact w_c3
  · exact w_c4
  · exact w_c5
  · exact w_c6
  · exact w_c7
  · exact w_c8
  · exact w_c9
  · exact w_c10
  · exact w_c11
set_option maxRecDepth 65536 in
theorem w_t1 : (words1.take 24).all (fun c => isCode c || c.before args0 about1) = true := by decide +kernel
set_option maxRecDepth 65536 in
theorem w_t2 : (words1.drop 24).all (fun c => isCode c || c.before args0 about1) = true := by decide +kernel
theorem w_tables : (allAtoms (Jvm.Cond.code x code maxLocals ret :: tables_1)).before args0 about1 = true := by
  rw [allAtoms_all]
  show words1.all (fun c => c.before args0 about1) = true
  refine all_split ?_ w_codes
  rw [← List.take_append_drop 24 words1, List.all_append, w_t1, w_t2]
  rfl
set_option maxRecDepth 65536 in
theorem w_case : (Jvm.Cond.and given_1 narrow_1).before args0 about1 = true := by decide +kernel
theorem w_applies : (headSpec (Jvm.Cond.code x code maxLocals ret :: tables_1) room_1).applies x e0.platform about1 = true :=
  (Spec.applies_iff w_frames).mpr ⟨w_running, w_runnable, w_alone, w_named, w_hears, w_ripe, w_room, w_tables⟩
theorem atStart : AtStart classFile x code maxLocals ret World_1 tables_1 room_1 Calls_1 rest_1 Pre_1 launch0 p0 e0 about1 theMethod args0 below0 :=
  ⟨lists_1, trivial, launch0.admits_env _ _ _, launch0.least_env, fairChoices_fair.cas, fairChoices_fair.clock, w_frames, w_args, w_heap, w_applies, trivial, trivial, w_case⟩
end start1
theorem witness_1 : WitnessClaimed_1 := ⟨start1.p0, start1.e0, start1.about1, start1.theMethod, start1.args0, start1.below0, start1.atStart⟩
end Jvm.Pilot.@@N@@
